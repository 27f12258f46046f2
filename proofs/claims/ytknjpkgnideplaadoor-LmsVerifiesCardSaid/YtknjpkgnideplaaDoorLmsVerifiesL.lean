/-
  LmsVerifies, part L: an interpreter of my own over abstract values, the pure functions, the walks and the plain law.
-/

import Derived.Test.YtknjpkgnideplaaDoorLmsVerifiesH
import Derived.Test.YtknjpkgnideplaaDoorLmsVerifiesF
import Derived.Test.YtknjpkgnideplaaDoorProg
import Derived.Test.YtknjpkgnideplaaDoorLmsVerifiesG
import Derived.Test.YtknjpkgnideplaaDoorLmsVerifiesK
import Derived.KernelRfl
import Derived.Test.YtknjpkgnideplaaDoorLmsVerifiesI
import Derived.Test.YtknjpkgnideplaaDoorLmsVerifiesJ

section
open Go Go.Abs Go.Proofs
set_option maxRecDepth 100000
set_option linter.unusedVariables false
namespace lmots_Digits
abbrev X9 := Int × Int × Int × Int × Int × Int × Int × (List Int)
def S9 : X9 → ASt := fun (v0, v9, v37, v38, h0_0, h0_1, h0_2, h1) => ⟨[(0, .v (.int .i64 v0)), (6, .ptr 0 0), (8, .own 1), (9, .v (.int .u64 v9)), (36, .own 1), (37, .v (.int .i64 v37)), (38, .v (.int .i64 v38))], [(0, some ⟨.box 128 [.v (.int .i64 h0_0), .v (.int .i64 h0_1), .v (.int .i64 h0_2)], false⟩), (1, some ⟨.row 71 (.ints .u32 h1), false⟩)], 2, 61⟩
def V9 : ASt → Option X9
 | ⟨[(0, .v (.int .i64 v0)), (6, .ptr 0 0), (8, .own 1), (9, .v (.int .u64 v9)), (36, .own 1), (37, .v (.int .i64 v37)), (38, .v (.int .i64 v38))], [(0, some ⟨.box 128 [.v (.int .i64 h0_0), .v (.int .i64 h0_1), .v (.int .i64 h0_2)], false⟩), (1, some ⟨.row 71 (.ints .u32 h1), false⟩)], 2, 61⟩ => some (v0, v9, v37, v38, h0_0, h0_1, h0_2, h1)
 | _ => none
theorem V9_ok (st) (x) (h : V9 st = some x) : st = S9 x := by
 unfold V9 at h
 split at h
 · cases h; rfl
 · cases h
abbrev Y9 := X9
noncomputable def T9 : X9 → (X9 → Option R) → (Y9 → Option R) → Option R := fun (v0, v9, v37, v38, h0_0, h0_1, h0_2, h1) next ex => P.lmots_Digits_r9 v0 v9 v37 v38 h0_0 h0_1 h0_2 h1 (fun v0 v9 v37 v38 h0_0 h0_1 h0_2 h1 => next (v0, v9, v37, v38, h0_0, h0_1, h0_2, h1)) (fun v0 v9 v37 v38 h0_0 h0_1 h0_2 h1 => ex (v0, v9, v37, v38, h0_0, h0_1, h0_2, h1))
def E9 (K : AExit → ASt → Option R) : Y9 → Option R := (fun x => K (.exit 1) (S9 x))
noncomputable def L9 : LSpec := fun st K => vMap (V9 st) fun (v0, v9, v37, v38, h0_0, h0_1, h0_2, h1) => P.lmots_Digits_l9 v0 v9 v37 v38 h0_0 h0_1 h0_2 h1 (fun v0 v9 v37 v38 h0_0 h0_1 h0_2 h1 => K (.exit 1) (S9 (v0, v9, v37, v38, h0_0, h0_1, h0_2, h1)))
noncomputable def D : Ctx := ({ P := Tryd.prog, G := [(68, bits_Be.spec), (97, lmots_known.spec), (122, bits_Digits.spec)], globs := GLO.gB, hints := [(9, ⟨[0, 6, 8, 9, 36, 37, 38], [], [4, 5], [], none, []⟩)], loops := [(9, L9)], inl := [] } : Ctx)
theorem round9 (K) (next) (x) : roundA D (loopAt Tryd.f81 9) K next (S9 x) = T9 x (fun x => next (S9 x)) (E9 K) := by kernel_rfl
theorem lq9 (st) (K) : L9 st K = vMap (V9 st) (fun x => lp T9 x (E9 K)) := by
 unfold L9
 cases V9 st with
 | none => rfl
 | some x => rw [P.lmots_Digits_l9_eq]; kernel_rfl
theorem loop9 : LoopOk D (loopAt Tryd.f81 9) := loopOk_lp S9 V9_ok (by kernel_rfl) lq9 round9
theorem body (a0 : Int) (a1 : List Int) (K : AVal → Option R) : bodyA D Tryd.f81 [.fr 71 (.ints .u32 []), .any] [.v (.int .i64 a0), .sl (.ints .u8 a1)] K = P.lmots_Digits a0 a1 (fun r0 r1 => K (.tuple [.fr 71 (.ints .u32 r0), .v (.int .i64 r1)])) := by
 rw [P.lmots_Digits_eq]
 kernel_rfl
theorem loops : loopsOf (Tryd.f81.body.getD .skip) = [loopAt Tryd.f81 9] := by kernel_rfl
noncomputable def spec0 : Abs.Spec := fun args K => match args with
 | [.v (.int .i64 a0), .sl (.ints .u8 a1)] => P.lmots_Digits a0 a1 (fun r0 r1 => K (.tuple [.fr 71 (.ints .u32 r0), .v (.int .i64 r1)]))
 | _ => none
noncomputable def spec : Abs.Spec := fun args K => spec0 (coerL [.any, .sl (.ints .u8 [])] args) K
theorem ok0 : Proved Tryd.prog GLO.gB 81 spec0 := by
 refine proved_of (D := D) (fn := Tryd.f81) (c := Tryd.f81.body.getD .skip) [.fr 71 (.ints .u32 []), .any] (by kernel_rfl) (globsPlain_of (by kernel_rfl)) (by kernel_rfl) (by kernel_rfl) (by kernel_rfl) ⟨bits_Be.ok, lmots_known.ok, bits_Digits.ok, trivial⟩ trivial ?_ ?_
 · rw [loops]; exact ⟨loop9, trivial⟩
 · intro args K r h
   unfold spec0 at h
   split at h
   · rw [body]; exact h
   · cases h
theorem ok : Proved Tryd.prog GLO.gB 81 spec := proved_coer _ ok0
end lmots_Digits
end

section
open Go Go.Abs Go.Proofs
set_option maxRecDepth 100000
set_option linter.unusedVariables false
namespace lmots_leaf_digitsOf
noncomputable def D : Ctx := ({ P := Tryd.prog, G := [(81, lmots_Digits.spec), (86, lmots_leaf_sum.spec)], globs := GLO.gB, hints := [], loops := [], inl := [] } : Ctx)
theorem body (a0_w : Int) (a0_id : List Int) (a0_q : Int) (a0_kind_digits : Int) (a0_kind_shift : Int) (a0_kind_code : Int) (a1 : List Int) (a2 : List Int) (K : AVal → Option R) : bodyA D Tryd.f92 [.fr 71 (.ints .u32 [])] [.agg [.v (.int .i64 a0_w), .sl (.ints .u8 a0_id), .v (.int .u32 a0_q), .v (.int .i64 a0_kind_digits), .v (.int .i64 a0_kind_shift), .v (.int .i64 a0_kind_code)], .sl (.ints .u8 a1), .sl (.ints .u8 a2)] K = P.lmots_leaf_digitsOf a0_w a0_id a0_q a0_kind_digits a0_kind_shift a0_kind_code a1 a2 (fun r0 => K (.fr 71 (.ints .u32 r0))) := by
 rw [P.lmots_leaf_digitsOf_eq]
 kernel_rfl
theorem loops : loopsOf (Tryd.f92.body.getD .skip) = [] := by kernel_rfl
noncomputable def spec0 : Abs.Spec := fun args K => match args with
 | [.agg [.v (.int .i64 a0_w), .sl (.ints .u8 a0_id), .v (.int .u32 a0_q), .v (.int .i64 a0_kind_digits), .v (.int .i64 a0_kind_shift), .v (.int .i64 a0_kind_code)], .sl (.ints .u8 a1), .sl (.ints .u8 a2)] => P.lmots_leaf_digitsOf a0_w a0_id a0_q a0_kind_digits a0_kind_shift a0_kind_code a1 a2 (fun r0 => K (.fr 71 (.ints .u32 r0)))
 | _ => none
noncomputable def spec : Abs.Spec := fun args K => spec0 (coerL [.agg [.any, .sl (.ints .u8 []), .any, .any, .any, .any], .sl (.ints .u8 []), .sl (.ints .u8 [])] args) K
theorem ok0 : Proved Tryd.prog GLO.gB 92 spec0 := by
 refine proved_of (D := D) (fn := Tryd.f92) (c := Tryd.f92.body.getD .skip) [.fr 71 (.ints .u32 [])] (by kernel_rfl) (globsPlain_of (by kernel_rfl)) (by kernel_rfl) (by kernel_rfl) (by kernel_rfl) ⟨lmots_Digits.ok, lmots_leaf_sum.ok, trivial⟩ trivial ?_ ?_
 · rw [loops]; exact trivial
 · intro args K r h
   unfold spec0 at h
   split at h
   · rw [body]; exact h
   · cases h
theorem ok : Proved Tryd.prog GLO.gB 92 spec := proved_coer _ ok0
end lmots_leaf_digitsOf
end

section
open Go Go.Abs Go.Proofs
set_option maxRecDepth 100000
set_option linter.unusedVariables false
namespace lmots_leaf_steps
noncomputable def D : Ctx := ({ P := Tryd.prog, G := [], globs := GLO.gB, hints := [], loops := [], inl := [] } : Ctx)
theorem body (a0_w : Int) (a0_id : List Int) (a0_q : Int) (a0_kind_digits : Int) (a0_kind_shift : Int) (a0_kind_code : Int) (K : AVal → Option R) : bodyA D Tryd.f84 [.any] [.agg [.v (.int .i64 a0_w), .sl (.ints .u8 a0_id), .v (.int .u32 a0_q), .v (.int .i64 a0_kind_digits), .v (.int .i64 a0_kind_shift), .v (.int .i64 a0_kind_code)]] K = P.lmots_leaf_steps a0_w a0_id a0_q a0_kind_digits a0_kind_shift a0_kind_code (fun r0 => K (.v (.int .u32 r0))) := by
 rw [P.lmots_leaf_steps_eq]
 kernel_rfl
theorem loops : loopsOf (Tryd.f84.body.getD .skip) = [] := by kernel_rfl
noncomputable def spec0 : Abs.Spec := fun args K => match args with
 | [.agg [.v (.int .i64 a0_w), .sl (.ints .u8 a0_id), .v (.int .u32 a0_q), .v (.int .i64 a0_kind_digits), .v (.int .i64 a0_kind_shift), .v (.int .i64 a0_kind_code)]] => P.lmots_leaf_steps a0_w a0_id a0_q a0_kind_digits a0_kind_shift a0_kind_code (fun r0 => K (.v (.int .u32 r0)))
 | _ => none
noncomputable def spec : Abs.Spec := fun args K => spec0 (coerL [.agg [.any, .sl (.ints .u8 []), .any, .any, .any, .any]] args) K
theorem ok0 : Proved Tryd.prog GLO.gB 84 spec0 := by
 refine proved_of (D := D) (fn := Tryd.f84) (c := Tryd.f84.body.getD .skip) [.any] (by kernel_rfl) (globsPlain_of (by kernel_rfl)) (by kernel_rfl) (by kernel_rfl) (by kernel_rfl) trivial trivial ?_ ?_
 · rw [loops]; exact trivial
 · intro args K r h
   unfold spec0 at h
   split at h
   · rw [body]; exact h
   · cases h
theorem ok : Proved Tryd.prog GLO.gB 84 spec := proved_coer _ ok0
end lmots_leaf_steps
end

section
open Go Go.Abs Go.Proofs
set_option maxRecDepth 100000
set_option linter.unusedVariables false
namespace lmots_Candidate
abbrev X9 := (List Int) × Int × Int × (List Int) × Int × (List Int) × Int × Int × Int × Int × (List Int)
def S9 : X9 → ASt := fun (v15, v52, v53, h2, h0_0, h0_1, h0_2, h0_3, h0_4, h0_5, h1) => ⟨[(14, .own 2), (12, .ptr 0 0), (15, .sl (.ints .u8 v15)), (51, .own 1), (52, .v (.int .i64 v52)), (53, .v (.int .i64 v53))], [(2, some ⟨.row 5 (.ints .u8 h2), false⟩), (0, some ⟨.box 130 [.v (.int .i64 h0_0), .sl (.ints .u8 h0_1), .v (.int .u32 h0_2), .v (.int .i64 h0_3), .v (.int .i64 h0_4), .v (.int .i64 h0_5)], false⟩), (1, some ⟨.row 71 (.ints .u32 h1), false⟩)], 3, 77⟩
def V9 : ASt → Option X9
 | ⟨[(14, .own 2), (12, .ptr 0 0), (15, .sl (.ints .u8 v15)), (51, .own 1), (52, .v (.int .i64 v52)), (53, .v (.int .i64 v53))], [(2, some ⟨.row 5 (.ints .u8 h2), false⟩), (0, some ⟨.box 130 [.v (.int .i64 h0_0), .sl (.ints .u8 h0_1), .v (.int .u32 h0_2), .v (.int .i64 h0_3), .v (.int .i64 h0_4), .v (.int .i64 h0_5)], false⟩), (1, some ⟨.row 71 (.ints .u32 h1), false⟩)], 3, 77⟩ => some (v15, v52, v53, h2, h0_0, h0_1, h0_2, h0_3, h0_4, h0_5, h1)
 | _ => none
theorem V9_ok (st) (x) (h : V9 st = some x) : st = S9 x := by
 unfold V9 at h
 split at h
 · cases h; rfl
 · cases h
abbrev Y9 := X9
noncomputable def T9 : X9 → (X9 → Option R) → (Y9 → Option R) → Option R := fun (v15, v52, v53, h2, h0_0, h0_1, h0_2, h0_3, h0_4, h0_5, h1) next ex => P.lmots_Candidate_r9 v15 v52 v53 h2 h0_0 h0_1 h0_2 h0_3 h0_4 h0_5 h1 (fun v15 v52 v53 h2 h0_0 h0_1 h0_2 h0_3 h0_4 h0_5 h1 => next (v15, v52, v53, h2, h0_0, h0_1, h0_2, h0_3, h0_4, h0_5, h1)) (fun v15 v52 v53 h2 h0_0 h0_1 h0_2 h0_3 h0_4 h0_5 h1 => ex (v15, v52, v53, h2, h0_0, h0_1, h0_2, h0_3, h0_4, h0_5, h1))
def E9 (K : AExit → ASt → Option R) : Y9 → Option R := (fun x => K (.exit 1) (S9 x))
noncomputable def L9 : LSpec := fun st K => vMap (V9 st) fun (v15, v52, v53, h2, h0_0, h0_1, h0_2, h0_3, h0_4, h0_5, h1) => P.lmots_Candidate_l9 v15 v52 v53 h2 h0_0 h0_1 h0_2 h0_3 h0_4 h0_5 h1 (fun v15 v52 v53 h2 h0_0 h0_1 h0_2 h0_3 h0_4 h0_5 h1 => K (.exit 1) (S9 (v15, v52, v53, h2, h0_0, h0_1, h0_2, h0_3, h0_4, h0_5, h1)))
noncomputable def D : Ctx := ({ P := Tryd.prog, G := [(51, lmots_Size.spec), (75, bits_Num.spec), (83, lmots_leaf_along.spec), (84, lmots_leaf_steps.spec), (86, lmots_leaf_sum.spec), (92, lmots_leaf_digitsOf.spec), (95, lmots_began.spec)], globs := GLO.gB, hints := [(9, ⟨[12, 15, 51, 52, 53], [(14, 5, .ints .u8 [])], [10, 11], [(15, .sl (.ints .u8 []))], none, []⟩)], loops := [(9, L9)], inl := [] } : Ctx)
theorem round9 (K) (next) (x) : roundA D (loopAt Tryd.f49 9) K next (S9 x) = T9 x (fun x => next (S9 x)) (E9 K) := by kernel_rfl
theorem lq9 (st) (K) : L9 st K = vMap (V9 st) (fun x => lp T9 x (E9 K)) := by
 unfold L9
 cases V9 st with
 | none => rfl
 | some x => rw [P.lmots_Candidate_l9_eq]; kernel_rfl
theorem loop9 : LoopOk D (loopAt Tryd.f49 9) := loopOk_lp S9 V9_ok (by kernel_rfl) lq9 round9
theorem body (a0 : Int) (a1 : List Int) (a2 : Int) (a3 : List Int) (a4 : List Int) (K : AVal → Option R) : bodyA D Tryd.f49 [.fr 5 (.ints .u8 []), .any] [.v (.int .i64 a0), .sl (.ints .u8 a1), .v (.int .u32 a2), .sl (.ints .u8 a3), .sl (.ints .u8 a4)] K = P.lmots_Candidate a0 a1 a2 a3 a4 (fun r0 r1 => K (.tuple [.fr 5 (.ints .u8 r0), .v (.int .i64 r1)])) := by
 rw [P.lmots_Candidate_eq]
 kernel_rfl
theorem loops : loopsOf (Tryd.f49.body.getD .skip) = [loopAt Tryd.f49 9] := by kernel_rfl
noncomputable def spec0 : Abs.Spec := fun args K => match args with
 | [.v (.int .i64 a0), .sl (.ints .u8 a1), .v (.int .u32 a2), .sl (.ints .u8 a3), .sl (.ints .u8 a4)] => P.lmots_Candidate a0 a1 a2 a3 a4 (fun r0 r1 => K (.tuple [.fr 5 (.ints .u8 r0), .v (.int .i64 r1)]))
 | _ => none
noncomputable def spec : Abs.Spec := fun args K => spec0 (coerL [.any, .sl (.ints .u8 []), .any, .sl (.ints .u8 []), .sl (.ints .u8 [])] args) K
theorem ok0 : Proved Tryd.prog GLO.gB 49 spec0 := by
 refine proved_of (D := D) (fn := Tryd.f49) (c := Tryd.f49.body.getD .skip) [.fr 5 (.ints .u8 []), .any] (by kernel_rfl) (globsPlain_of (by kernel_rfl)) (by kernel_rfl) (by kernel_rfl) (by kernel_rfl) ⟨lmots_Size.ok, bits_Num.ok, lmots_leaf_along.ok, lmots_leaf_steps.ok, lmots_leaf_sum.ok, lmots_leaf_digitsOf.ok, lmots_began.ok, trivial⟩ trivial ?_ ?_
 · rw [loops]; exact ⟨loop9, trivial⟩
 · intro args K r h
   unfold spec0 at h
   split at h
   · rw [body]; exact h
   · cases h
theorem ok : Proved Tryd.prog GLO.gB 49 spec := proved_coer _ ok0
end lmots_Candidate
end

section
open Go Go.Abs Go.Proofs
set_option maxRecDepth 100000
set_option linter.unusedVariables false
namespace lms_sum
noncomputable def D : Ctx := ({ P := Tryd.prog, G := [(15, sha_Add.spec), (19, sha_End.spec), (21, sha_New.spec), (68, bits_Be.spec), (76, bits_Join.spec)], globs := GLO.gB, hints := [], loops := [], inl := [] } : Ctx)
theorem body (a0 : List Int) (a1 : Int) (a2 : Int) (a3 : List (List Int)) (K : AVal → Option R) : bodyA D Tryd.f128 [.fr 5 (.ints .u8 [])] [.sl (.ints .u8 a0), .v (.int .u64 a1), .v (.int .u64 a2), .sl (.rows .u8 a3)] K = P.lms_sum a0 a1 a2 a3 (fun r0 => K (.fr 5 (.ints .u8 r0))) := by
 rw [P.lms_sum_eq]
 kernel_rfl
theorem loops : loopsOf (Tryd.f128.body.getD .skip) = [] := by kernel_rfl
noncomputable def spec0 : Abs.Spec := fun args K => match args with
 | [.sl (.ints .u8 a0), .v (.int .u64 a1), .v (.int .u64 a2), .sl (.rows .u8 a3)] => P.lms_sum a0 a1 a2 a3 (fun r0 => K (.fr 5 (.ints .u8 r0)))
 | _ => none
noncomputable def spec : Abs.Spec := fun args K => spec0 (coerL [.sl (.ints .u8 []), .any, .any, .sl (.rows .u8 [])] args) K
theorem ok0 : Proved Tryd.prog GLO.gB 128 spec0 := by
 refine proved_of (D := D) (fn := Tryd.f128) (c := Tryd.f128.body.getD .skip) [.fr 5 (.ints .u8 [])] (by kernel_rfl) (globsPlain_of (by kernel_rfl)) (by kernel_rfl) (by kernel_rfl) (by kernel_rfl) ⟨sha_Add.ok, sha_End.ok, sha_New.ok, bits_Be.ok, bits_Join.ok, trivial⟩ trivial ?_ ?_
 · rw [loops]; exact trivial
 · intro args K r h
   unfold spec0 at h
   split at h
   · rw [body]; exact h
   · cases h
theorem ok : Proved Tryd.prog GLO.gB 128 spec := proved_coer _ ok0
end lms_sum
end

section
open Go Go.Abs Go.Proofs
set_option maxRecDepth 100000
set_option linter.unusedVariables false
namespace lms_root
abbrev X2_1 := Int × (List Int) × (List Int) × (List Int) × (List Int)
def S2_1 : X2_1 → ASt := fun (v4, h1_0, h4, h5_0, h6_0) => ⟨[(0, .yld 9 [5, 13, 14] [.ptr 1 0, .ptr 5 0, .ptr 6 0]), (4, .v (.int .u64 v4))], [(1, some ⟨.box 24 [.sl (.ints .u8 h1_0)], false⟩), (4, some ⟨.row 5 (.ints .u8 h4), true⟩), (5, some ⟨.box 24 [.sl (.ints .u8 h5_0)], false⟩), (6, some ⟨.box 24 [.sl (.ints .u8 h6_0)], false⟩)], 840, 19⟩
def V2_1 : ASt → Option X2_1
 | ⟨[(0, .yld 9 [5, 13, 14] [.ptr 1 0, .ptr 5 0, .ptr 6 0]), (4, .v (.int .u64 v4))], [(1, some ⟨.box 24 [.sl (.ints .u8 h1_0)], false⟩), (4, some ⟨.row 5 (.ints .u8 h4), true⟩), (5, some ⟨.box 24 [.sl (.ints .u8 h5_0)], false⟩), (6, some ⟨.box 24 [.sl (.ints .u8 h6_0)], false⟩)], 840, 19⟩ => some (v4, h1_0, h4, h5_0, h6_0)
 | _ => none
theorem V2_1_ok (st) (x) (h : V2_1 st = some x) : st = S2_1 x := by
 unfold V2_1 at h
 split at h
 · cases h; rfl
 · cases h
abbrev Y2_1 := X2_1
noncomputable def T2_1 : X2_1 → (X2_1 → Option R) → (Y2_1 → Option R) → Option R := fun (v4, h1_0, h4, h5_0, h6_0) next ex => P.lms_root_r2_1 v4 h1_0 h4 h5_0 h6_0 (fun v4 h1_0 h4 h5_0 h6_0 => next (v4, h1_0, h4, h5_0, h6_0)) (fun v4 h1_0 h4 h5_0 h6_0 => ex (v4, h1_0, h4, h5_0, h6_0))
def E2_1 (K : AExit → ASt → Option R) : Y2_1 → Option R := (fun x => K (.exit 0) (S2_1 x))
noncomputable def L2_1 : LSpec := fun st K => vMap (V2_1 st) fun (v4, h1_0, h4, h5_0, h6_0) => P.lms_root_l2_1 v4 h1_0 h4 h5_0 h6_0 (fun v4 h1_0 h4 h5_0 h6_0 => K (.exit 0) (S2_1 (v4, h1_0, h4, h5_0, h6_0)))
noncomputable def D3 : Ctx := ({ P := Tryd.prog, G := [(49, lmots_Candidate.spec), (51, lmots_Size.spec), (75, bits_Num.spec), (128, lms_sum.spec)], globs := GLO.gB, hints := [], loops := [], inl := [], y := some (ycOf (rngAt Tryd.f105 8) 74 false) } : Ctx)
noncomputable def D2 : Ctx := ({ P := Tryd.prog, G := [(49, lmots_Candidate.spec), (51, lmots_Size.spec), (75, bits_Num.spec), (128, lms_sum.spec)], globs := GLO.gB, hints := [(1, ⟨[0, 4], [], [], [], some (840, [1, 4, 5, 6]), [1, 5, 6]⟩)], loops := [(1, L2_1)], inl := [], y := some (ycOf (rngAt Tryd.f105 8) 74 true), ys := some (roundY D3 (ycOf (rngAt Tryd.f105 8) 74 true)) } : Ctx)
noncomputable def D1 : Ctx := ({ P := Tryd.prog, G := [(49, lmots_Candidate.spec), (51, lmots_Size.spec), (75, bits_Num.spec), (128, lms_sum.spec)], globs := GLO.gB, hints := [], loops := [], inl := [] } : Ctx)
noncomputable def D : Ctx := ({ P := Tryd.prog, G := [(49, lmots_Candidate.spec), (51, lmots_Size.spec), (75, bits_Num.spec), (128, lms_sum.spec)], globs := GLO.gB, hints := [], loops := [], inl := [(129, bodyIn D1 Tryd.f129)], top := true, rng := [(8, ⟨137, 74, [5, 13, 14], bodyIn D2 Tryd.f137⟩)] } : Ctx)
theorem round2_1 (K) (next) (x) : roundA D2 (loopAt Tryd.f137 1) K next (S2_1 x) = T2_1 x (fun x => next (S2_1 x)) (E2_1 K) := by kernel_rfl
theorem lq2_1 (st) (K) : L2_1 st K = vMap (V2_1 st) (fun x => lp T2_1 x (E2_1 K)) := by
 unfold L2_1
 cases V2_1 st with
 | none => rfl
 | some x => rw [P.lms_root_l2_1_eq]; kernel_rfl
theorem loop2_1 : LoopOk D2 (loopAt Tryd.f137 1) := loopOk_lp S2_1 V2_1_ok (by kernel_rfl) lq2_1 round2_1
theorem body (a0_H : Int) (a0_W : Int) (a1 : List Int) (a2 : List Int) (a3 : List Int) (K : AVal → Option R) : bodyA D Tryd.f105 [.sl (.ints .u8 [])] [.agg [.v (.int .i64 a0_H), .v (.int .i64 a0_W)], .sl (.ints .u8 a1), .sl (.ints .u8 a2), .sl (.ints .u8 a3)] K = P.lms_root a0_H a0_W a1 a2 a3 (fun r0 => K (.sl (.ints .u8 r0))) := by
 rw [P.lms_root_eq]
 kernel_rfl
theorem loops : loopsOf (Tryd.f105.body.getD .skip) = [] := by kernel_rfl
theorem loops1 : loopsOf (Tryd.f129.body.getD .skip) = [] := by kernel_rfl
theorem loops2 : loopsOf (Tryd.f137.body.getD .skip) = [loopAt Tryd.f137 1] := by kernel_rfl
theorem loops3 : loopsOf (rbOf (rngAt Tryd.f105 8)) = [] := by kernel_rfl
theorem ranges : rangesOf (Tryd.f105.body.getD .skip) = [rngAt Tryd.f105 8] := by kernel_rfl
theorem round_y3 : RoundOk D2 (roundY D3 (ycOf (rngAt Tryd.f105 8) 74 true)) := roundY_ok (Y := ycOf (rngAt Tryd.f105 8) 74 true) (gok_of (D := D3) ⟨lmots_Candidate.ok, lmots_Size.ok, bits_Num.ok, lms_sum.ok, trivial⟩) (globsPlain_of (by kernel_rfl)) (inl_of (D := D3) trivial (noYield rfl)) (by kernel_rfl) rfl rfl (by kernel_rfl) (by kernel_rfl) rfl rfl rfl (allLoops _ (by rw [show loopsOf (ycOf (rngAt Tryd.f105 8) 74 true).assign = [] from by kernel_rfl]; exact trivial)) (allLoops _ (by rw [show loopsOf (ycOf (rngAt Tryd.f105 8) 74 true).body = loopsOf (rbOf (rngAt Tryd.f105 8)) from by kernel_rfl, loops3]; exact trivial))
noncomputable def spec0 : Abs.Spec := fun args K => match args with
 | [.agg [.v (.int .i64 a0_H), .v (.int .i64 a0_W)], .sl (.ints .u8 a1), .sl (.ints .u8 a2), .sl (.ints .u8 a3)] => P.lms_root a0_H a0_W a1 a2 a3 (fun r0 => K (.sl (.ints .u8 r0)))
 | _ => none
noncomputable def spec : Abs.Spec := fun args K => spec0 (coerL [.any, .sl (.ints .u8 []), .sl (.ints .u8 []), .sl (.ints .u8 [])] args) K
theorem ok0 : Proved Tryd.prog GLO.gB 105 spec0 := by
 refine proved_of (D := D) (fn := Tryd.f105) (c := Tryd.f105.body.getD .skip) [.sl (.ints .u8 [])] (by kernel_rfl) (globsPlain_of (by kernel_rfl)) (by kernel_rfl) (by kernel_rfl) (by kernel_rfl) ⟨lmots_Candidate.ok, lmots_Size.ok, bits_Num.ok, lms_sum.ok, trivial⟩ ⟨run_of (D := D1) (D' := D) (fn := Tryd.f129) (c := Tryd.f129.body.getD .skip) rfl rfl (by kernel_rfl) (globsPlain_of (by kernel_rfl)) (by kernel_rfl) (by kernel_rfl) (by kernel_rfl) ⟨lmots_Candidate.ok, lmots_Size.ok, bits_Num.ok, lms_sum.ok, trivial⟩ trivial (by rw [loops1]; exact trivial) (fun _ _ _ _ _ h => h), trivial⟩ ?_ ?_ (hRg := by rw [ranges]; exact ⟨rangeOk_of (D := D) (Di := D2) (e := ⟨137, 74, [5, 13, 14], bodyIn D2 Tryd.f137⟩) (by kernel_rfl) rfl rfl (by kernel_rfl) (run_of (D := D2) (D' := D2) (fn := Tryd.f137) (c := Tryd.f137.body.getD .skip) rfl rfl (by kernel_rfl) (globsPlain_of (by kernel_rfl)) (by kernel_rfl) (by kernel_rfl) (by kernel_rfl) ⟨lmots_Candidate.ok, lmots_Size.ok, bits_Num.ok, lms_sum.ok, trivial⟩ trivial (by rw [loops2]; exact ⟨loop2_1, trivial⟩) (fun _ _ _ _ _ h => h) rfl rfl (noRanges rfl _) (fun s hs => by have hs : some (roundY D3 (ycOf (rngAt Tryd.f105 8) 74 true)) = some s := hs; cases hs; exact round_y3)), trivial⟩)
 · rw [loops]; exact trivial
 · intro args K r h
   unfold spec0 at h
   split at h
   · rw [body]; exact h
   · cases h
theorem ok : Proved Tryd.prog GLO.gB 105 spec := proved_coer _ ok0
end lms_root
end

section
open Go Go.Abs Go.Proofs
set_option maxRecDepth 100000
set_option linter.unusedVariables false
namespace lms_Verify
noncomputable def D : Ctx := ({ P := Tryd.prog, G := [(54, lms_Cut.spec), (74, bits_Same.spec), (75, bits_Num.spec), (100, lms_digit.spec), (101, lms_height.spec), (104, lms_head.spec), (105, lms_root.spec)], globs := GLO.gB, hints := [], loops := [], inl := [] } : Ctx)
theorem body (a0 : List Int) (a1 : List Int) (a2 : List Int) (K : AVal → Option R) : bodyA D Tryd.f56 [.any] [.sl (.ints .u8 a0), .sl (.ints .u8 a1), .sl (.ints .u8 a2)] K = P.lms_Verify a0 a1 a2 (fun r0 => K (.v (.int .i64 r0))) := by
 rw [P.lms_Verify_eq]
 kernel_rfl
theorem loops : loopsOf (Tryd.f56.body.getD .skip) = [] := by kernel_rfl
noncomputable def spec0 : Abs.Spec := fun args K => match args with
 | [.sl (.ints .u8 a0), .sl (.ints .u8 a1), .sl (.ints .u8 a2)] => P.lms_Verify a0 a1 a2 (fun r0 => K (.v (.int .i64 r0)))
 | _ => none
noncomputable def spec : Abs.Spec := fun args K => spec0 (coerL [.sl (.ints .u8 []), .sl (.ints .u8 []), .sl (.ints .u8 [])] args) K
theorem ok0 : Proved Tryd.prog GLO.gB 56 spec0 := by
 refine proved_of (D := D) (fn := Tryd.f56) (c := Tryd.f56.body.getD .skip) [.any] (by kernel_rfl) (globsPlain_of (by kernel_rfl)) (by kernel_rfl) (by kernel_rfl) (by kernel_rfl) ⟨lms_Cut.ok, bits_Same.ok, bits_Num.ok, lms_digit.ok, lms_height.ok, lms_head.ok, lms_root.ok, trivial⟩ trivial ?_ ?_
 · rw [loops]; exact trivial
 · intro args K r h
   unfold spec0 at h
   split at h
   · rw [body]; exact h
   · cases h
theorem ok : Proved Tryd.prog GLO.gB 56 spec := proved_coer _ ok0
end lms_Verify
end

section
open Go Go.Abs Go.Proofs
set_option maxRecDepth 100000
set_option linter.unusedVariables false
namespace L15_awake
noncomputable def D : Ctx := ({ P := Tryd.prog, G := [(56, lms_Verify.spec), (98, lms_Size.spec), (99, lms_Fit.spec)], globs := GLO.gB, hints := [], loops := [], inl := [] } : Ctx)
theorem body  (K : AVal → Option R) : bodyA D Tryd.f53 [.any] [] K = P.L15_awake (fun r0 => K (.v (.bool r0))) := by
 rw [P.L15_awake_eq]
 kernel_rfl
theorem loops : loopsOf (Tryd.f53.body.getD .skip) = [] := by kernel_rfl
noncomputable def spec0 : Abs.Spec := fun args K => match args with
 | [] => P.L15_awake (fun r0 => K (.v (.bool r0)))
 | _ => none
noncomputable def spec : Abs.Spec := spec0
theorem ok0 : Proved Tryd.prog GLO.gB 53 spec0 := by
 refine proved_of (D := D) (fn := Tryd.f53) (c := Tryd.f53.body.getD .skip) [.any] (by kernel_rfl) (globsPlain_of (by kernel_rfl)) (by kernel_rfl) (by kernel_rfl) (by kernel_rfl) ⟨lms_Verify.ok, lms_Size.ok, lms_Fit.ok, trivial⟩ trivial ?_ ?_
 · rw [loops]; exact trivial
 · intro args K r h
   unfold spec0 at h
   split at h
   · rw [body]; exact h
   · cases h
theorem ok : Proved Tryd.prog GLO.gB 53 spec := ok0
end L15_awake
end

section
open Go Go.Abs Go.Proofs
set_option maxRecDepth 100000
set_option linter.unusedVariables false
namespace L15_few
abbrev X2 := (List (List Int)) × Int × Int
def S2 : X2 → ASt := fun (v5, v6, v7) => ⟨[(5, .sl (.rows .u8 v5)), (6, .v (.int .i64 v6)), (7, .v (.int .i64 v7))], [], 0, 15⟩
def V2 : ASt → Option X2
 | ⟨[(5, .sl (.rows .u8 v5)), (6, .v (.int .i64 v6)), (7, .v (.int .i64 v7))], [], 0, 15⟩ => some (v5, v6, v7)
 | _ => none
theorem V2_ok (st) (x) (h : V2 st = some x) : st = S2 x := by
 unfold V2 at h
 split at h
 · cases h; rfl
 · cases h
abbrev Y2 := X2 ⊕ (Bool)
noncomputable def T2 : X2 → (X2 → Option R) → (Y2 → Option R) → Option R := fun (v5, v6, v7) next ex => P.L15_few_r2 v5 v6 v7 (fun v5 v6 v7 => next (v5, v6, v7)) (fun v5 v6 v7 => ex (.inl (v5, v6, v7))) (fun v2 => ex (.inr v2))
def E2 (K : AExit → ASt → Option R) : Y2 → Option R := (Sum.elim (fun x => K (.exit 0) (S2 x)) (fun v2 => K .ret ⟨[(2, .v (.bool v2))], [], 0, 15⟩))
noncomputable def L2 : LSpec := fun st K => vMap (V2 st) fun (v5, v6, v7) => P.L15_few_l2 v5 v6 v7 (fun v5 v6 v7 => K (.exit 0) (S2 (v5, v6, v7))) (fun v2 => K .ret ⟨[(2, .v (.bool v2))], [], 0, 15⟩)
noncomputable def D : Ctx := ({ P := Tryd.prog, G := [], globs := GLO.gB, hints := [(2, ⟨[5, 6, 7], [], [2], [], none, []⟩)], loops := [(2, L2)], inl := [] } : Ctx)
theorem round2 (K) (next) (x) : roundA D (loopAt Tryd.f52 2) K next (S2 x) = T2 x (fun x => next (S2 x)) (E2 K) := by kernel_rfl
theorem lq2 (st) (K) : L2 st K = vMap (V2 st) (fun x => lp T2 x (E2 K)) := by
 unfold L2
 cases V2 st with
 | none => rfl
 | some x => rw [P.L15_few_l2_eq]; kernel_rfl
theorem loop2 : LoopOk D (loopAt Tryd.f52 2) := loopOk_lp S2 V2_ok (by kernel_rfl) lq2 round2
theorem body (a0 : List (List Int)) (K : AVal → Option R) : bodyA D Tryd.f52 [.any] [.sl (.rows .u8 a0)] K = P.L15_few a0 (fun r0 => K (.v (.bool r0))) := by
 rw [P.L15_few_eq]
 kernel_rfl
theorem loops : loopsOf (Tryd.f52.body.getD .skip) = [loopAt Tryd.f52 2] := by kernel_rfl
noncomputable def spec0 : Abs.Spec := fun args K => match args with
 | [.sl (.rows .u8 a0)] => P.L15_few a0 (fun r0 => K (.v (.bool r0)))
 | _ => none
noncomputable def spec : Abs.Spec := fun args K => spec0 (coerL [.sl (.rows .u8 [])] args) K
theorem ok0 : Proved Tryd.prog GLO.gB 52 spec0 := by
 refine proved_of (D := D) (fn := Tryd.f52) (c := Tryd.f52.body.getD .skip) [.any] (by kernel_rfl) (globsPlain_of (by kernel_rfl)) (by kernel_rfl) (by kernel_rfl) (by kernel_rfl) trivial trivial ?_ ?_
 · rw [loops]; exact ⟨loop2, trivial⟩
 · intro args K r h
   unfold spec0 at h
   split at h
   · rw [body]; exact h
   · cases h
theorem ok : Proved Tryd.prog GLO.gB 52 spec := proved_coer _ ok0
end L15_few
end

section
open Go Go.Abs Go.Proofs
set_option maxRecDepth 100000
set_option linter.unusedVariables false
namespace R01_Same
abbrev X4 := (List Int) × (List Int) × Int
def S4 : X4 → ASt := fun (v0, v1, v5) => ⟨[(0, .sl (.ints .u8 v0)), (1, .sl (.ints .u8 v1)), (5, .v (.int .i64 v5))], [], 0, 26⟩
def V4 : ASt → Option X4
 | ⟨[(0, .sl (.ints .u8 v0)), (1, .sl (.ints .u8 v1)), (5, .v (.int .i64 v5))], [], 0, 26⟩ => some (v0, v1, v5)
 | _ => none
theorem V4_ok (st) (x) (h : V4 st = some x) : st = S4 x := by
 unfold V4 at h
 split at h
 · cases h; rfl
 · cases h
abbrev Y4 := X4 ⊕ (Bool)
noncomputable def T4 : X4 → (X4 → Option R) → (Y4 → Option R) → Option R := fun (v0, v1, v5) next ex => P.R01_Same_r4 v0 v1 v5 (fun v0 v1 v5 => next (v0, v1, v5)) (fun v0 v1 v5 => ex (.inl (v0, v1, v5))) (fun v4 => ex (.inr v4))
def E4 (K : AExit → ASt → Option R) : Y4 → Option R := (Sum.elim (fun x => K (.exit 0) (S4 x)) (fun v4 => K .ret ⟨[(4, .v (.bool v4))], [], 0, 26⟩))
noncomputable def L4 : LSpec := fun st K => vMap (V4 st) fun (v0, v1, v5) => P.R01_Same_l4 v0 v1 v5 (fun v0 v1 v5 => K (.exit 0) (S4 (v0, v1, v5))) (fun v4 => K .ret ⟨[(4, .v (.bool v4))], [], 0, 26⟩)
noncomputable def D : Ctx := ({ P := Tryd.prog, G := [], globs := GLO.gB, hints := [(4, ⟨[0, 1, 5], [], [4], [], none, []⟩)], loops := [(4, L4)], inl := [] } : Ctx)
theorem round4 (K) (next) (x) : roundA D (loopAt Tryd.f18 4) K next (S4 x) = T4 x (fun x => next (S4 x)) (E4 K) := by kernel_rfl
theorem lq4 (st) (K) : L4 st K = vMap (V4 st) (fun x => lp T4 x (E4 K)) := by
 unfold L4
 cases V4 st with
 | none => rfl
 | some x => rw [P.R01_Same_l4_eq]; kernel_rfl
theorem loop4 : LoopOk D (loopAt Tryd.f18 4) := loopOk_lp S4 V4_ok (by kernel_rfl) lq4 round4
theorem body (a0 : List Int) (a1 : List Int) (K : AVal → Option R) : bodyA D Tryd.f18 [.any] [.sl (.ints .u8 a0), .sl (.ints .u8 a1)] K = P.R01_Same a0 a1 (fun r0 => K (.v (.bool r0))) := by
 rw [P.R01_Same_eq]
 kernel_rfl
theorem loops : loopsOf (Tryd.f18.body.getD .skip) = [loopAt Tryd.f18 4] := by kernel_rfl
noncomputable def spec0 : Abs.Spec := fun args K => match args with
 | [.sl (.ints .u8 a0), .sl (.ints .u8 a1)] => P.R01_Same a0 a1 (fun r0 => K (.v (.bool r0)))
 | _ => none
noncomputable def spec : Abs.Spec := fun args K => spec0 (coerL [.sl (.ints .u8 []), .sl (.ints .u8 [])] args) K
theorem ok0 : Proved Tryd.prog GLO.gB 18 spec0 := by
 refine proved_of (D := D) (fn := Tryd.f18) (c := Tryd.f18.body.getD .skip) [.any] (by kernel_rfl) (globsPlain_of (by kernel_rfl)) (by kernel_rfl) (by kernel_rfl) (by kernel_rfl) trivial trivial ?_ ?_
 · rw [loops]; exact ⟨loop4, trivial⟩
 · intro args K r h
   unfold spec0 at h
   split at h
   · rw [body]; exact h
   · cases h
theorem ok : Proved Tryd.prog GLO.gB 18 spec := proved_coer _ ok0
end R01_Same
end

section
open Go Go.Abs Go.Proofs
set_option maxRecDepth 100000
set_option linter.unusedVariables false
namespace R01_Num
abbrev X3 := (List Int) × Int × Int
def S3 : X3 → ASt := fun (v0, v3, v4) => ⟨[(0, .sl (.ints .u8 v0)), (3, .v (.int .u64 v3)), (4, .v (.int .i64 v4))], [], 0, 20⟩
def V3 : ASt → Option X3
 | ⟨[(0, .sl (.ints .u8 v0)), (3, .v (.int .u64 v3)), (4, .v (.int .i64 v4))], [], 0, 20⟩ => some (v0, v3, v4)
 | _ => none
theorem V3_ok (st) (x) (h : V3 st = some x) : st = S3 x := by
 unfold V3 at h
 split at h
 · cases h; rfl
 · cases h
abbrev Y3 := X3
noncomputable def T3 : X3 → (X3 → Option R) → (Y3 → Option R) → Option R := fun (v0, v3, v4) next ex => P.R01_Num_r3 v0 v3 v4 (fun v0 v3 v4 => next (v0, v3, v4)) (fun v0 v3 v4 => ex (v0, v3, v4))
def E3 (K : AExit → ASt → Option R) : Y3 → Option R := (fun x => K (.exit 0) (S3 x))
noncomputable def L3 : LSpec := fun st K => vMap (V3 st) fun (v0, v3, v4) => P.R01_Num_l3 v0 v3 v4 (fun v0 v3 v4 => K (.exit 0) (S3 (v0, v3, v4)))
noncomputable def D : Ctx := ({ P := Tryd.prog, G := [], globs := GLO.gB, hints := [(3, ⟨[0, 3, 4], [], [2], [], none, []⟩)], loops := [(3, L3)], inl := [] } : Ctx)
theorem round3 (K) (next) (x) : roundA D (loopAt Tryd.f24 3) K next (S3 x) = T3 x (fun x => next (S3 x)) (E3 K) := by kernel_rfl
theorem lq3 (st) (K) : L3 st K = vMap (V3 st) (fun x => lp T3 x (E3 K)) := by
 unfold L3
 cases V3 st with
 | none => rfl
 | some x => rw [P.R01_Num_l3_eq]; kernel_rfl
theorem loop3 : LoopOk D (loopAt Tryd.f24 3) := loopOk_lp S3 V3_ok (by kernel_rfl) lq3 round3
theorem body (a0 : List Int) (K : AVal → Option R) : bodyA D Tryd.f24 [.any] [.sl (.ints .u8 a0)] K = P.R01_Num a0 (fun r0 => K (.v (.int .u64 r0))) := by
 rw [P.R01_Num_eq]
 kernel_rfl
theorem loops : loopsOf (Tryd.f24.body.getD .skip) = [loopAt Tryd.f24 3] := by kernel_rfl
noncomputable def spec0 : Abs.Spec := fun args K => match args with
 | [.sl (.ints .u8 a0)] => P.R01_Num a0 (fun r0 => K (.v (.int .u64 r0)))
 | _ => none
noncomputable def spec : Abs.Spec := fun args K => spec0 (coerL [.sl (.ints .u8 [])] args) K
theorem ok0 : Proved Tryd.prog GLO.gB 24 spec0 := by
 refine proved_of (D := D) (fn := Tryd.f24) (c := Tryd.f24.body.getD .skip) [.any] (by kernel_rfl) (globsPlain_of (by kernel_rfl)) (by kernel_rfl) (by kernel_rfl) (by kernel_rfl) trivial trivial ?_ ?_
 · rw [loops]; exact ⟨loop3, trivial⟩
 · intro args K r h
   unfold spec0 at h
   split at h
   · rw [body]; exact h
   · cases h
theorem ok : Proved Tryd.prog GLO.gB 24 spec := proved_coer _ ok0
end R01_Num
end

section
open Go Go.Abs Go.Proofs
set_option maxRecDepth 100000
set_option linter.unusedVariables false
namespace R14_Kind
noncomputable def D : Ctx := ({ P := Tryd.prog, G := [], globs := GLO.gB, hints := [], loops := [], inl := [] } : Ctx)
theorem body (a0 : Int) (K : AVal → Option R) : bodyA D Tryd.f88 [.any, .any, .any] [.v (.int .i64 a0)] K = P.R14_Kind a0 (fun r0 r1 r2 => K (.tuple [.v (.int .i64 r0), .v (.int .i64 r1), .v (.int .u64 r2)])) := by
 rw [P.R14_Kind_eq]
 kernel_rfl
theorem loops : loopsOf (Tryd.f88.body.getD .skip) = [] := by kernel_rfl
noncomputable def spec0 : Abs.Spec := fun args K => match args with
 | [.v (.int .i64 a0)] => P.R14_Kind a0 (fun r0 r1 r2 => K (.tuple [.v (.int .i64 r0), .v (.int .i64 r1), .v (.int .u64 r2)]))
 | _ => none
noncomputable def spec : Abs.Spec := spec0
theorem ok0 : Proved Tryd.prog GLO.gB 88 spec0 := by
 refine proved_of (D := D) (fn := Tryd.f88) (c := Tryd.f88.body.getD .skip) [.any, .any, .any] (by kernel_rfl) (globsPlain_of (by kernel_rfl)) (by kernel_rfl) (by kernel_rfl) (by kernel_rfl) trivial trivial ?_ ?_
 · rw [loops]; exact trivial
 · intro args K r h
   unfold spec0 at h
   split at h
   · rw [body]; exact h
   · cases h
theorem ok : Proved Tryd.prog GLO.gB 88 spec := ok0
end R14_Kind
end

section
open Go Go.Abs Go.Proofs
set_option maxRecDepth 100000
set_option linter.unusedVariables false
namespace R14_Size
noncomputable def D : Ctx := ({ P := Tryd.prog, G := [(88, R14_Kind.spec)], globs := GLO.gB, hints := [], loops := [], inl := [] } : Ctx)
theorem body (a0 : Int) (K : AVal → Option R) : bodyA D Tryd.f96 [.any] [.v (.int .i64 a0)] K = P.R14_Size a0 (fun r0 => K (.v (.int .i64 r0))) := by
 rw [P.R14_Size_eq]
 kernel_rfl
theorem loops : loopsOf (Tryd.f96.body.getD .skip) = [] := by kernel_rfl
noncomputable def spec0 : Abs.Spec := fun args K => match args with
 | [.v (.int .i64 a0)] => P.R14_Size a0 (fun r0 => K (.v (.int .i64 r0)))
 | _ => none
noncomputable def spec : Abs.Spec := spec0
theorem ok0 : Proved Tryd.prog GLO.gB 96 spec0 := by
 refine proved_of (D := D) (fn := Tryd.f96) (c := Tryd.f96.body.getD .skip) [.any] (by kernel_rfl) (globsPlain_of (by kernel_rfl)) (by kernel_rfl) (by kernel_rfl) (by kernel_rfl) ⟨R14_Kind.ok, trivial⟩ trivial ?_ ?_
 · rw [loops]; exact trivial
 · intro args K r h
   unfold spec0 at h
   split at h
   · rw [body]; exact h
   · cases h
theorem ok : Proved Tryd.prog GLO.gB 96 spec := ok0
end R14_Size
end

section
open Go Go.Abs Go.Proofs
set_option maxRecDepth 100000
set_option linter.unusedVariables false
namespace R15_digit
abbrev X2 := Int × Int
def S2 : X2 → ASt := fun (v0, v3) => ⟨[(0, .v (.int .u64 v0)), (3, .v (.int .i64 v3))], [], 0, 25⟩
def V2 : ASt → Option X2
 | ⟨[(0, .v (.int .u64 v0)), (3, .v (.int .i64 v3))], [], 0, 25⟩ => some (v0, v3)
 | _ => none
theorem V2_ok (st) (x) (h : V2 st = some x) : st = S2 x := by
 unfold V2 at h
 split at h
 · cases h; rfl
 · cases h
abbrev Y2 := X2 ⊕ (Int)
noncomputable def T2 : X2 → (X2 → Option R) → (Y2 → Option R) → Option R := fun (v0, v3) next ex => P.R15_digit_r2 v0 v3 (fun v0 v3 => next (v0, v3)) (fun v0 v3 => ex (.inl (v0, v3))) (fun v2 => ex (.inr v2))
def E2 (K : AExit → ASt → Option R) : Y2 → Option R := (Sum.elim (fun x => K (.exit 0) (S2 x)) (fun v2 => K .ret ⟨[(2, .v (.int .i64 v2))], [], 0, 25⟩))
noncomputable def L2 : LSpec := fun st K => vMap (V2 st) fun (v0, v3) => P.R15_digit_l2 v0 v3 (fun v0 v3 => K (.exit 0) (S2 (v0, v3))) (fun v2 => K .ret ⟨[(2, .v (.int .i64 v2))], [], 0, 25⟩)
noncomputable def D : Ctx := ({ P := Tryd.prog, G := [(88, R14_Kind.spec)], globs := GLO.gB, hints := [(2, ⟨[0, 3], [], [2], [], none, []⟩)], loops := [(2, L2)], inl := [] } : Ctx)
theorem round2 (K) (next) (x) : roundA D (loopAt Tryd.f102 2) K next (S2 x) = T2 x (fun x => next (S2 x)) (E2 K) := by kernel_rfl
theorem lq2 (st) (K) : L2 st K = vMap (V2 st) (fun x => lp T2 x (E2 K)) := by
 unfold L2
 cases V2 st with
 | none => rfl
 | some x => rw [P.R15_digit_l2_eq]; kernel_rfl
theorem loop2 : LoopOk D (loopAt Tryd.f102 2) := loopOk_lp S2 V2_ok (by kernel_rfl) lq2 round2
theorem body (a0 : Int) (K : AVal → Option R) : bodyA D Tryd.f102 [.any] [.v (.int .u64 a0)] K = P.R15_digit a0 (fun r0 => K (.v (.int .i64 r0))) := by
 rw [P.R15_digit_eq]
 kernel_rfl
theorem loops : loopsOf (Tryd.f102.body.getD .skip) = [loopAt Tryd.f102 2] := by kernel_rfl
noncomputable def spec0 : Abs.Spec := fun args K => match args with
 | [.v (.int .u64 a0)] => P.R15_digit a0 (fun r0 => K (.v (.int .i64 r0)))
 | _ => none
noncomputable def spec : Abs.Spec := spec0
theorem ok0 : Proved Tryd.prog GLO.gB 102 spec0 := by
 refine proved_of (D := D) (fn := Tryd.f102) (c := Tryd.f102.body.getD .skip) [.any] (by kernel_rfl) (globsPlain_of (by kernel_rfl)) (by kernel_rfl) (by kernel_rfl) (by kernel_rfl) ⟨R14_Kind.ok, trivial⟩ trivial ?_ ?_
 · rw [loops]; exact ⟨loop2, trivial⟩
 · intro args K r h
   unfold spec0 at h
   split at h
   · rw [body]; exact h
   · cases h
theorem ok : Proved Tryd.prog GLO.gB 102 spec := ok0
end R15_digit
end

section
open Go Go.Abs Go.Proofs
set_option maxRecDepth 100000
set_option linter.unusedVariables false
namespace R15_Code
noncomputable def D : Ctx := ({ P := Tryd.prog, G := [], globs := GLO.gB, hints := [], loops := [], inl := [] } : Ctx)
theorem body (a0 : Int) (K : AVal → Option R) : bodyA D Tryd.f127 [.any] [.v (.int .i64 a0)] K = P.R15_Code a0 (fun r0 => K (.v (.int .u64 r0))) := by
 rw [P.R15_Code_eq]
 kernel_rfl
theorem loops : loopsOf (Tryd.f127.body.getD .skip) = [] := by kernel_rfl
noncomputable def spec0 : Abs.Spec := fun args K => match args with
 | [.v (.int .i64 a0)] => P.R15_Code a0 (fun r0 => K (.v (.int .u64 r0)))
 | _ => none
noncomputable def spec : Abs.Spec := spec0
theorem ok0 : Proved Tryd.prog GLO.gB 127 spec0 := by
 refine proved_of (D := D) (fn := Tryd.f127) (c := Tryd.f127.body.getD .skip) [.any] (by kernel_rfl) (globsPlain_of (by kernel_rfl)) (by kernel_rfl) (by kernel_rfl) (by kernel_rfl) trivial trivial ?_ ?_
 · rw [loops]; exact trivial
 · intro args K r h
   unfold spec0 at h
   split at h
   · rw [body]; exact h
   · cases h
theorem ok : Proved Tryd.prog GLO.gB 127 spec := ok0
end R15_Code
end

section
open Go Go.Abs Go.Proofs
set_option maxRecDepth 100000
set_option linter.unusedVariables false
namespace R15_height
abbrev X2 := Int × Int
def S2 : X2 → ASt := fun (v0, v3) => ⟨[(0, .v (.int .u64 v0)), (3, .v (.int .i64 v3))], [], 0, 17⟩
def V2 : ASt → Option X2
 | ⟨[(0, .v (.int .u64 v0)), (3, .v (.int .i64 v3))], [], 0, 17⟩ => some (v0, v3)
 | _ => none
theorem V2_ok (st) (x) (h : V2 st = some x) : st = S2 x := by
 unfold V2 at h
 split at h
 · cases h; rfl
 · cases h
abbrev Y2 := X2 ⊕ (Int)
noncomputable def T2 : X2 → (X2 → Option R) → (Y2 → Option R) → Option R := fun (v0, v3) next ex => P.R15_height_r2 v0 v3 (fun v0 v3 => next (v0, v3)) (fun v0 v3 => ex (.inl (v0, v3))) (fun v2 => ex (.inr v2))
def E2 (K : AExit → ASt → Option R) : Y2 → Option R := (Sum.elim (fun x => K (.exit 0) (S2 x)) (fun v2 => K .ret ⟨[(2, .v (.int .i64 v2))], [], 0, 17⟩))
noncomputable def L2 : LSpec := fun st K => vMap (V2 st) fun (v0, v3) => P.R15_height_l2 v0 v3 (fun v0 v3 => K (.exit 0) (S2 (v0, v3))) (fun v2 => K .ret ⟨[(2, .v (.int .i64 v2))], [], 0, 17⟩)
noncomputable def D : Ctx := ({ P := Tryd.prog, G := [(127, R15_Code.spec)], globs := GLO.gB, hints := [(2, ⟨[0, 3], [], [2], [], none, []⟩)], loops := [(2, L2)], inl := [] } : Ctx)
theorem round2 (K) (next) (x) : roundA D (loopAt Tryd.f103 2) K next (S2 x) = T2 x (fun x => next (S2 x)) (E2 K) := by kernel_rfl
theorem lq2 (st) (K) : L2 st K = vMap (V2 st) (fun x => lp T2 x (E2 K)) := by
 unfold L2
 cases V2 st with
 | none => rfl
 | some x => rw [P.R15_height_l2_eq]; kernel_rfl
theorem loop2 : LoopOk D (loopAt Tryd.f103 2) := loopOk_lp S2 V2_ok (by kernel_rfl) lq2 round2
theorem body (a0 : Int) (K : AVal → Option R) : bodyA D Tryd.f103 [.any] [.v (.int .u64 a0)] K = P.R15_height a0 (fun r0 => K (.v (.int .i64 r0))) := by
 rw [P.R15_height_eq]
 kernel_rfl
theorem loops : loopsOf (Tryd.f103.body.getD .skip) = [loopAt Tryd.f103 2] := by kernel_rfl
noncomputable def spec0 : Abs.Spec := fun args K => match args with
 | [.v (.int .u64 a0)] => P.R15_height a0 (fun r0 => K (.v (.int .i64 r0)))
 | _ => none
noncomputable def spec : Abs.Spec := spec0
theorem ok0 : Proved Tryd.prog GLO.gB 103 spec0 := by
 refine proved_of (D := D) (fn := Tryd.f103) (c := Tryd.f103.body.getD .skip) [.any] (by kernel_rfl) (globsPlain_of (by kernel_rfl)) (by kernel_rfl) (by kernel_rfl) (by kernel_rfl) ⟨R15_Code.ok, trivial⟩ trivial ?_ ?_
 · rw [loops]; exact ⟨loop2, trivial⟩
 · intro args K r h
   unfold spec0 at h
   split at h
   · rw [body]; exact h
   · cases h
theorem ok : Proved Tryd.prog GLO.gB 103 spec := ok0
end R15_height
end

section
open Go Go.Abs Go.Proofs
set_option maxRecDepth 100000
set_option linter.unusedVariables false
namespace R15_Cut
noncomputable def D : Ctx := ({ P := Tryd.prog, G := [(24, R01_Num.spec), (96, R14_Size.spec), (102, R15_digit.spec), (103, R15_height.spec)], globs := GLO.gB, hints := [], loops := [], inl := [] } : Ctx)
theorem body (a0 : List Int) (K : AVal → Option R) : bodyA D Tryd.f55 [.sl (.ints .u8 []), .any, .sl (.ints .u8 []), .any] [.sl (.ints .u8 a0)] K = P.R15_Cut a0 (fun r0 r1_H r1_W r2 r3 => K (.tuple [.sl (.ints .u8 r0), .agg [.v (.int .i64 r1_H), .v (.int .i64 r1_W)], .sl (.ints .u8 r2), .v (.int .i64 r3)])) := by
 rw [P.R15_Cut_eq]
 kernel_rfl
theorem loops : loopsOf (Tryd.f55.body.getD .skip) = [] := by kernel_rfl
noncomputable def spec0 : Abs.Spec := fun args K => match args with
 | [.sl (.ints .u8 a0)] => P.R15_Cut a0 (fun r0 r1_H r1_W r2 r3 => K (.tuple [.sl (.ints .u8 r0), .agg [.v (.int .i64 r1_H), .v (.int .i64 r1_W)], .sl (.ints .u8 r2), .v (.int .i64 r3)]))
 | _ => none
noncomputable def spec : Abs.Spec := fun args K => spec0 (coerL [.sl (.ints .u8 [])] args) K
theorem ok0 : Proved Tryd.prog GLO.gB 55 spec0 := by
 refine proved_of (D := D) (fn := Tryd.f55) (c := Tryd.f55.body.getD .skip) [.sl (.ints .u8 []), .any, .sl (.ints .u8 []), .any] (by kernel_rfl) (globsPlain_of (by kernel_rfl)) (by kernel_rfl) (by kernel_rfl) (by kernel_rfl) ⟨R01_Num.ok, R14_Size.ok, R15_digit.ok, R15_height.ok, trivial⟩ trivial ?_ ?_
 · rw [loops]; exact trivial
 · intro args K r h
   unfold spec0 at h
   split at h
   · rw [body]; exact h
   · cases h
theorem ok : Proved Tryd.prog GLO.gB 55 spec := proved_coer _ ok0
end R15_Cut
end

section
open Go Go.Abs Go.Proofs
set_option maxRecDepth 100000
set_option linter.unusedVariables false
namespace R01_Be
abbrev X5 := Int × Int × (List Int)
def S5 : X5 → ASt := fun (v0, v6, h0) => ⟨[(0, .v (.int .u64 v0)), (5, .own 0), (6, .v (.int .i64 v6))], [(0, some ⟨.row 5 (.ints .u8 h0), false⟩)], 1, 30⟩
def V5 : ASt → Option X5
 | ⟨[(0, .v (.int .u64 v0)), (5, .own 0), (6, .v (.int .i64 v6))], [(0, some ⟨.row 5 (.ints .u8 h0), false⟩)], 1, 30⟩ => some (v0, v6, h0)
 | _ => none
theorem V5_ok (st) (x) (h : V5 st = some x) : st = S5 x := by
 unfold V5 at h
 split at h
 · cases h; rfl
 · cases h
abbrev Y5 := X5
noncomputable def T5 : X5 → (X5 → Option R) → (Y5 → Option R) → Option R := fun (v0, v6, h0) next ex => P.R01_Be_r5 v0 v6 h0 (fun v0 v6 h0 => next (v0, v6, h0)) (fun v0 v6 h0 => ex (v0, v6, h0))
def E5 (K : AExit → ASt → Option R) : Y5 → Option R := (fun x => K (.exit 0) (S5 x))
noncomputable def L5 : LSpec := fun st K => vMap (V5 st) fun (v0, v6, h0) => P.R01_Be_l5 v0 v6 h0 (fun v0 v6 h0 => K (.exit 0) (S5 (v0, v6, h0)))
noncomputable def D : Ctx := ({ P := Tryd.prog, G := [], globs := GLO.gB, hints := [(5, ⟨[0, 5, 6], [], [4], [], none, []⟩)], loops := [(5, L5)], inl := [] } : Ctx)
theorem round5 (K) (next) (x) : roundA D (loopAt Tryd.f22 5) K next (S5 x) = T5 x (fun x => next (S5 x)) (E5 K) := by kernel_rfl
theorem lq5 (st) (K) : L5 st K = vMap (V5 st) (fun x => lp T5 x (E5 K)) := by
 unfold L5
 cases V5 st with
 | none => rfl
 | some x => rw [P.R01_Be_l5_eq]; kernel_rfl
theorem loop5 : LoopOk D (loopAt Tryd.f22 5) := loopOk_lp S5 V5_ok (by kernel_rfl) lq5 round5
theorem body (a0 : Int) (a1 : Int) (K : AVal → Option R) : bodyA D Tryd.f22 [.fr 5 (.ints .u8 [])] [.v (.int .u64 a0), .v (.int .i64 a1)] K = P.R01_Be a0 a1 (fun r0 => K (.fr 5 (.ints .u8 r0))) := by
 rw [P.R01_Be_eq]
 kernel_rfl
theorem loops : loopsOf (Tryd.f22.body.getD .skip) = [loopAt Tryd.f22 5] := by kernel_rfl
noncomputable def spec0 : Abs.Spec := fun args K => match args with
 | [.v (.int .u64 a0), .v (.int .i64 a1)] => P.R01_Be a0 a1 (fun r0 => K (.fr 5 (.ints .u8 r0)))
 | _ => none
noncomputable def spec : Abs.Spec := spec0
theorem ok0 : Proved Tryd.prog GLO.gB 22 spec0 := by
 refine proved_of (D := D) (fn := Tryd.f22) (c := Tryd.f22.body.getD .skip) [.fr 5 (.ints .u8 [])] (by kernel_rfl) (globsPlain_of (by kernel_rfl)) (by kernel_rfl) (by kernel_rfl) (by kernel_rfl) trivial trivial ?_ ?_
 · rw [loops]; exact ⟨loop5, trivial⟩
 · intro args K r h
   unfold spec0 at h
   split at h
   · rw [body]; exact h
   · cases h
theorem ok : Proved Tryd.prog GLO.gB 22 spec := ok0
end R01_Be
end

section
open Go Go.Abs Go.Proofs
set_option maxRecDepth 100000
set_option linter.unusedVariables false
namespace R01_such
noncomputable def D : Ctx := ({ P := Tryd.prog, G := [], globs := GLO.gB, hints := [], loops := [], inl := [] } : Ctx)
theorem body (a0 : List Int) (a1 : Int) (a2 : Int) (K : AVal → Option R) : bodyA D Tryd.f136 [.any] [.sl (.ints .u8 a0), .v (.int .i64 a1), .v (.int .i64 a2)] K = P.R01_such a0 a1 a2 (fun r0 => K (.v (.bool r0))) := by
 rw [P.R01_such_eq]
 kernel_rfl
theorem loops : loopsOf (Tryd.f136.body.getD .skip) = [] := by kernel_rfl
noncomputable def spec0 : Abs.Spec := fun args K => match args with
 | [.sl (.ints .u8 a0), .v (.int .i64 a1), .v (.int .i64 a2)] => P.R01_such a0 a1 a2 (fun r0 => K (.v (.bool r0)))
 | _ => none
noncomputable def spec : Abs.Spec := fun args K => spec0 (coerL [.sl (.ints .u8 []), .any, .any] args) K
theorem ok0 : Proved Tryd.prog GLO.gB 136 spec0 := by
 refine proved_of (D := D) (fn := Tryd.f136) (c := Tryd.f136.body.getD .skip) [.any] (by kernel_rfl) (globsPlain_of (by kernel_rfl)) (by kernel_rfl) (by kernel_rfl) (by kernel_rfl) trivial trivial ?_ ?_
 · rw [loops]; exact trivial
 · intro args K r h
   unfold spec0 at h
   split at h
   · rw [body]; exact h
   · cases h
theorem ok : Proved Tryd.prog GLO.gB 136 spec := proved_coer _ ok0
end R01_such
end

section
open Go Go.Abs Go.Proofs
set_option maxRecDepth 100000
set_option linter.unusedVariables false
namespace R01_Digits
abbrev X9 := (List Int) × Int × Int × Int × Int × Int × (List Int)
def S9 : X9 → ASt := fun (v0, v1, v2, v8, v9, v10, h0) => ⟨[(0, .sl (.ints .u8 v0)), (1, .v (.int .i64 v1)), (2, .v (.int .i64 v2)), (7, .own 0), (8, .v (.int .i64 v8)), (9, .v (.int .u32 v9)), (10, .v (.int .i64 v10))], [(0, some ⟨.row 71 (.ints .u32 h0), false⟩)], 1, 51⟩
def V9 : ASt → Option X9
 | ⟨[(0, .sl (.ints .u8 v0)), (1, .v (.int .i64 v1)), (2, .v (.int .i64 v2)), (7, .own 0), (8, .v (.int .i64 v8)), (9, .v (.int .u32 v9)), (10, .v (.int .i64 v10))], [(0, some ⟨.row 71 (.ints .u32 h0), false⟩)], 1, 51⟩ => some (v0, v1, v2, v8, v9, v10, h0)
 | _ => none
theorem V9_ok (st) (x) (h : V9 st = some x) : st = S9 x := by
 unfold V9 at h
 split at h
 · cases h; rfl
 · cases h
abbrev Y9 := X9
noncomputable def T9 : X9 → (X9 → Option R) → (Y9 → Option R) → Option R := fun (v0, v1, v2, v8, v9, v10, h0) next ex => P.R01_Digits_r9 v0 v1 v2 v8 v9 v10 h0 (fun v0 v1 v2 v8 v9 v10 h0 => next (v0, v1, v2, v8, v9, v10, h0)) (fun v0 v1 v2 v8 v9 v10 h0 => ex (v0, v1, v2, v8, v9, v10, h0))
abbrev X5 := (List Int) × Int × Int × Int × (List Int)
def S5 : X5 → ASt := fun (v0, v1, v2, v8, h0) => ⟨[(7, .own 0), (0, .sl (.ints .u8 v0)), (1, .v (.int .i64 v1)), (2, .v (.int .i64 v2)), (8, .v (.int .i64 v8))], [(0, some ⟨.row 71 (.ints .u32 h0), false⟩)], 1, 51⟩
def V5 : ASt → Option X5
 | ⟨[(7, .own 0), (0, .sl (.ints .u8 v0)), (1, .v (.int .i64 v1)), (2, .v (.int .i64 v2)), (8, .v (.int .i64 v8))], [(0, some ⟨.row 71 (.ints .u32 h0), false⟩)], 1, 51⟩ => some (v0, v1, v2, v8, h0)
 | _ => none
theorem V5_ok (st) (x) (h : V5 st = some x) : st = S5 x := by
 unfold V5 at h
 split at h
 · cases h; rfl
 · cases h
abbrev Y5 := X5
noncomputable def T5 : X5 → (X5 → Option R) → (Y5 → Option R) → Option R := fun (v0, v1, v2, v8, h0) next ex => P.R01_Digits_r5 v0 v1 v2 v8 h0 (fun v0 v1 v2 v8 h0 => next (v0, v1, v2, v8, h0)) (fun v0 v1 v2 v8 h0 => ex (v0, v1, v2, v8, h0))
def E9 (K : AExit → ASt → Option R) : Y9 → Option R := (fun x => K (.exit 2) (S9 x))
noncomputable def L9 : LSpec := fun st K => vMap (V9 st) fun (v0, v1, v2, v8, v9, v10, h0) => P.R01_Digits_l9 v0 v1 v2 v8 v9 v10 h0 (fun v0 v1 v2 v8 v9 v10 h0 => K (.exit 2) (S9 (v0, v1, v2, v8, v9, v10, h0)))
def E5 (K : AExit → ASt → Option R) : Y5 → Option R := (fun x => K (.exit 0) (S5 x))
noncomputable def L5 : LSpec := fun st K => vMap (V5 st) fun (v0, v1, v2, v8, h0) => P.R01_Digits_l5 v0 v1 v2 v8 h0 (fun v0 v1 v2 v8 h0 => K (.exit 0) (S5 (v0, v1, v2, v8, h0)))
noncomputable def D : Ctx := ({ P := Tryd.prog, G := [(136, R01_such.spec)], globs := GLO.gB, hints := [(9, ⟨[0, 1, 2, 7, 8, 9, 10], [], [6], [], none, []⟩), (5, ⟨[0, 1, 2, 8], [(7, 71, .ints .u32 [])], [6], [], none, []⟩)], loops := [(9, L9), (5, L5)], inl := [] } : Ctx)
theorem round9 (K) (next) (x) : roundA D (loopAt Tryd.f124 9) K next (S9 x) = T9 x (fun x => next (S9 x)) (E9 K) := by kernel_rfl
theorem lq9 (st) (K) : L9 st K = vMap (V9 st) (fun x => lp T9 x (E9 K)) := by
 unfold L9
 cases V9 st with
 | none => rfl
 | some x => rw [P.R01_Digits_l9_eq]; kernel_rfl
theorem loop9 : LoopOk D (loopAt Tryd.f124 9) := loopOk_lp S9 V9_ok (by kernel_rfl) lq9 round9
theorem round5 (K) (next) (x) : roundA D (loopAt Tryd.f124 5) K next (S5 x) = T5 x (fun x => next (S5 x)) (E5 K) := by kernel_rfl
theorem lq5 (st) (K) : L5 st K = vMap (V5 st) (fun x => lp T5 x (E5 K)) := by
 unfold L5
 cases V5 st with
 | none => rfl
 | some x => rw [P.R01_Digits_l5_eq]; kernel_rfl
theorem loop5 : LoopOk D (loopAt Tryd.f124 5) := loopOk_lp S5 V5_ok (by kernel_rfl) lq5 round5
theorem body (a0 : List Int) (a1 : Int) (a2 : Int) (K : AVal → Option R) : bodyA D Tryd.f124 [.fr 71 (.ints .u32 [])] [.sl (.ints .u8 a0), .v (.int .i64 a1), .v (.int .i64 a2)] K = P.R01_Digits a0 a1 a2 (fun r0 => K (.fr 71 (.ints .u32 r0))) := by
 rw [P.R01_Digits_eq]
 kernel_rfl
theorem loops : loopsOf (Tryd.f124.body.getD .skip) = [loopAt Tryd.f124 5, loopAt Tryd.f124 9] := by kernel_rfl
noncomputable def spec0 : Abs.Spec := fun args K => match args with
 | [.sl (.ints .u8 a0), .v (.int .i64 a1), .v (.int .i64 a2)] => P.R01_Digits a0 a1 a2 (fun r0 => K (.fr 71 (.ints .u32 r0)))
 | _ => none
noncomputable def spec : Abs.Spec := fun args K => spec0 (coerL [.sl (.ints .u8 []), .any, .any] args) K
theorem ok0 : Proved Tryd.prog GLO.gB 124 spec0 := by
 refine proved_of (D := D) (fn := Tryd.f124) (c := Tryd.f124.body.getD .skip) [.fr 71 (.ints .u32 [])] (by kernel_rfl) (globsPlain_of (by kernel_rfl)) (by kernel_rfl) (by kernel_rfl) (by kernel_rfl) ⟨R01_such.ok, trivial⟩ trivial ?_ ?_
 · rw [loops]; exact ⟨loop5, loop9, trivial⟩
 · intro args K r h
   unfold spec0 at h
   split at h
   · rw [body]; exact h
   · cases h
theorem ok : Proved Tryd.prog GLO.gB 124 spec := proved_coer _ ok0
end R01_Digits
end

section
open Go Go.Abs Go.Proofs
set_option maxRecDepth 100000
set_option linter.unusedVariables false
namespace R01_Join
abbrev X3 := (List (List Int)) × Int × (List Int)
def S3 : X3 → ASt := fun (v0, v4, h0) => ⟨[(3, .own 0), (0, .sl (.rows .u8 v0)), (4, .v (.int .i64 v4))], [(0, some ⟨.row 5 (.ints .u8 h0), false⟩)], 1, 18⟩
def V3 : ASt → Option X3
 | ⟨[(3, .own 0), (0, .sl (.rows .u8 v0)), (4, .v (.int .i64 v4))], [(0, some ⟨.row 5 (.ints .u8 h0), false⟩)], 1, 18⟩ => some (v0, v4, h0)
 | _ => none
theorem V3_ok (st) (x) (h : V3 st = some x) : st = S3 x := by
 unfold V3 at h
 split at h
 · cases h; rfl
 · cases h
abbrev Y3 := X3
noncomputable def T3 : X3 → (X3 → Option R) → (Y3 → Option R) → Option R := fun (v0, v4, h0) next ex => P.R01_Join_r3 v0 v4 h0 (fun v0 v4 h0 => next (v0, v4, h0)) (fun v0 v4 h0 => ex (v0, v4, h0))
def E3 (K : AExit → ASt → Option R) : Y3 → Option R := (fun x => K (.exit 0) (S3 x))
noncomputable def L3 : LSpec := fun st K => vMap (V3 st) fun (v0, v4, h0) => P.R01_Join_l3 v0 v4 h0 (fun v0 v4 h0 => K (.exit 0) (S3 (v0, v4, h0)))
noncomputable def D : Ctx := ({ P := Tryd.prog, G := [], globs := GLO.gB, hints := [(3, ⟨[0, 4], [(3, 5, .ints .u8 [])], [2], [], none, []⟩)], loops := [(3, L3)], inl := [] } : Ctx)
theorem round3 (K) (next) (x) : roundA D (loopAt Tryd.f65 3) K next (S3 x) = T3 x (fun x => next (S3 x)) (E3 K) := by kernel_rfl
theorem lq3 (st) (K) : L3 st K = vMap (V3 st) (fun x => lp T3 x (E3 K)) := by
 unfold L3
 cases V3 st with
 | none => rfl
 | some x => rw [P.R01_Join_l3_eq]; kernel_rfl
theorem loop3 : LoopOk D (loopAt Tryd.f65 3) := loopOk_lp S3 V3_ok (by kernel_rfl) lq3 round3
theorem body (a0 : List (List Int)) (K : AVal → Option R) : bodyA D Tryd.f65 [.fr 5 (.ints .u8 [])] [.sl (.rows .u8 a0)] K = P.R01_Join a0 (fun r0 => K (.fr 5 (.ints .u8 r0))) := by
 rw [P.R01_Join_eq]
 kernel_rfl
theorem loops : loopsOf (Tryd.f65.body.getD .skip) = [loopAt Tryd.f65 3] := by kernel_rfl
noncomputable def spec0 : Abs.Spec := fun args K => match args with
 | [.sl (.rows .u8 a0)] => P.R01_Join a0 (fun r0 => K (.fr 5 (.ints .u8 r0)))
 | _ => none
noncomputable def spec : Abs.Spec := fun args K => spec0 (coerL [.sl (.rows .u8 [])] args) K
theorem ok0 : Proved Tryd.prog GLO.gB 65 spec0 := by
 refine proved_of (D := D) (fn := Tryd.f65) (c := Tryd.f65.body.getD .skip) [.fr 5 (.ints .u8 [])] (by kernel_rfl) (globsPlain_of (by kernel_rfl)) (by kernel_rfl) (by kernel_rfl) (by kernel_rfl) trivial trivial ?_ ?_
 · rw [loops]; exact ⟨loop3, trivial⟩
 · intro args K r h
   unfold spec0 at h
   split at h
   · rw [body]; exact h
   · cases h
theorem ok : Proved Tryd.prog GLO.gB 65 spec := proved_coer _ ok0
end R01_Join
end

section
open Go Go.Abs Go.Proofs
set_option maxRecDepth 100000
set_option linter.unusedVariables false
namespace R14_Digits
abbrev X9 := Int × (List Int) × Int × Int × Int × Int × (List Int)
def S9 : X9 → ASt := fun (v0, v1, v6, v7, v10, v11, h0) => ⟨[(0, .v (.int .i64 v0)), (1, .sl (.ints .u8 v1)), (6, .v (.int .i64 v6)), (7, .v (.int .i64 v7)), (9, .own 0), (10, .v (.int .u64 v10)), (11, .v (.int .i64 v11))], [(0, some ⟨.row 71 (.ints .u32 h0), false⟩)], 1, 55⟩
def V9 : ASt → Option X9
 | ⟨[(0, .v (.int .i64 v0)), (1, .sl (.ints .u8 v1)), (6, .v (.int .i64 v6)), (7, .v (.int .i64 v7)), (9, .own 0), (10, .v (.int .u64 v10)), (11, .v (.int .i64 v11))], [(0, some ⟨.row 71 (.ints .u32 h0), false⟩)], 1, 55⟩ => some (v0, v1, v6, v7, v10, v11, h0)
 | _ => none
theorem V9_ok (st) (x) (h : V9 st = some x) : st = S9 x := by
 unfold V9 at h
 split at h
 · cases h; rfl
 · cases h
abbrev Y9 := X9
noncomputable def T9 : X9 → (X9 → Option R) → (Y9 → Option R) → Option R := fun (v0, v1, v6, v7, v10, v11, h0) next ex => P.R14_Digits_r9 v0 v1 v6 v7 v10 v11 h0 (fun v0 v1 v6 v7 v10 v11 h0 => next (v0, v1, v6, v7, v10, v11, h0)) (fun v0 v1 v6 v7 v10 v11 h0 => ex (v0, v1, v6, v7, v10, v11, h0))
def E9 (K : AExit → ASt → Option R) : Y9 → Option R := (fun x => K (.exit 0) (S9 x))
noncomputable def L9 : LSpec := fun st K => vMap (V9 st) fun (v0, v1, v6, v7, v10, v11, h0) => P.R14_Digits_l9 v0 v1 v6 v7 v10 v11 h0 (fun v0 v1 v6 v7 v10 v11 h0 => K (.exit 0) (S9 (v0, v1, v6, v7, v10, v11, h0)))
noncomputable def D : Ctx := ({ P := Tryd.prog, G := [(22, R01_Be.spec), (65, R01_Join.spec), (88, R14_Kind.spec), (124, R01_Digits.spec)], globs := GLO.gB, hints := [(9, ⟨[0, 1, 6, 7, 9, 10, 11], [], [4, 5], [], none, []⟩)], loops := [(9, L9)], inl := [] } : Ctx)
theorem round9 (K) (next) (x) : roundA D (loopAt Tryd.f93 9) K next (S9 x) = T9 x (fun x => next (S9 x)) (E9 K) := by kernel_rfl
theorem lq9 (st) (K) : L9 st K = vMap (V9 st) (fun x => lp T9 x (E9 K)) := by
 unfold L9
 cases V9 st with
 | none => rfl
 | some x => rw [P.R14_Digits_l9_eq]; kernel_rfl
theorem loop9 : LoopOk D (loopAt Tryd.f93 9) := loopOk_lp S9 V9_ok (by kernel_rfl) lq9 round9
theorem body (a0 : Int) (a1 : List Int) (K : AVal → Option R) : bodyA D Tryd.f93 [.fr 71 (.ints .u32 []), .any] [.v (.int .i64 a0), .sl (.ints .u8 a1)] K = P.R14_Digits a0 a1 (fun r0 r1 => K (.tuple [.fr 71 (.ints .u32 r0), .v (.int .i64 r1)])) := by
 rw [P.R14_Digits_eq]
 kernel_rfl
theorem loops : loopsOf (Tryd.f93.body.getD .skip) = [loopAt Tryd.f93 9] := by kernel_rfl
noncomputable def spec0 : Abs.Spec := fun args K => match args with
 | [.v (.int .i64 a0), .sl (.ints .u8 a1)] => P.R14_Digits a0 a1 (fun r0 r1 => K (.tuple [.fr 71 (.ints .u32 r0), .v (.int .i64 r1)]))
 | _ => none
noncomputable def spec : Abs.Spec := fun args K => spec0 (coerL [.any, .sl (.ints .u8 [])] args) K
theorem ok0 : Proved Tryd.prog GLO.gB 93 spec0 := by
 refine proved_of (D := D) (fn := Tryd.f93) (c := Tryd.f93.body.getD .skip) [.fr 71 (.ints .u32 []), .any] (by kernel_rfl) (globsPlain_of (by kernel_rfl)) (by kernel_rfl) (by kernel_rfl) (by kernel_rfl) ⟨R01_Be.ok, R01_Join.ok, R14_Kind.ok, R01_Digits.ok, trivial⟩ trivial ?_ ?_
 · rw [loops]; exact ⟨loop9, trivial⟩
 · intro args K r h
   unfold spec0 at h
   split at h
   · rw [body]; exact h
   · cases h
theorem ok : Proved Tryd.prog GLO.gB 93 spec := proved_coer _ ok0
end R14_Digits
end

section
open Go Go.Abs Go.Proofs
set_option maxRecDepth 100000
set_option linter.unusedVariables false
namespace R07_Block
noncomputable def D : Ctx := ({ P := Tryd.prog, G := [], globs := GLO.gB, hints := [], loops := [], inl := [] } : Ctx)
theorem body (a0 : Int) (K : AVal → Option R) : bodyA D Tryd.f58 [.any] [.v (.int .i64 a0)] K = P.R07_Block a0 (fun r0 => K (.v (.int .i64 r0))) := by
 rw [P.R07_Block_eq]
 kernel_rfl
theorem loops : loopsOf (Tryd.f58.body.getD .skip) = [] := by kernel_rfl
noncomputable def spec0 : Abs.Spec := fun args K => match args with
 | [.v (.int .i64 a0)] => P.R07_Block a0 (fun r0 => K (.v (.int .i64 r0)))
 | _ => none
noncomputable def spec : Abs.Spec := spec0
theorem ok0 : Proved Tryd.prog GLO.gB 58 spec0 := by
 refine proved_of (D := D) (fn := Tryd.f58) (c := Tryd.f58.body.getD .skip) [.any] (by kernel_rfl) (globsPlain_of (by kernel_rfl)) (by kernel_rfl) (by kernel_rfl) (by kernel_rfl) trivial trivial ?_ ?_
 · rw [loops]; exact trivial
 · intro args K r h
   unfold spec0 at h
   split at h
   · rw [body]; exact h
   · cases h
theorem ok : Proved Tryd.prog GLO.gB 58 spec := ok0
end R07_Block
end

section
open Go Go.Abs Go.Proofs
set_option maxRecDepth 100000
set_option linter.unusedVariables false
namespace R07_right
noncomputable def D : Ctx := ({ P := Tryd.prog, G := [], globs := GLO.gB, hints := [], loops := [], inl := [] } : Ctx)
theorem body (a0 : Int) (a1 : Int) (a2 : Bool) (K : AVal → Option R) : bodyA D Tryd.f134 [.any] [.v (.int .u64 a0), .v (.int .i64 a1), .v (.bool a2)] K = P.R07_right a0 a1 a2 (fun r0 => K (.v (.int .u64 r0))) := by
 rw [P.R07_right_eq]
 kernel_rfl
theorem loops : loopsOf (Tryd.f134.body.getD .skip) = [] := by kernel_rfl
noncomputable def spec0 : Abs.Spec := fun args K => match args with
 | [.v (.int .u64 a0), .v (.int .i64 a1), .v (.bool a2)] => P.R07_right a0 a1 a2 (fun r0 => K (.v (.int .u64 r0)))
 | _ => none
noncomputable def spec : Abs.Spec := spec0
theorem ok0 : Proved Tryd.prog GLO.gB 134 spec0 := by
 refine proved_of (D := D) (fn := Tryd.f134) (c := Tryd.f134.body.getD .skip) [.any] (by kernel_rfl) (globsPlain_of (by kernel_rfl)) (by kernel_rfl) (by kernel_rfl) (by kernel_rfl) trivial trivial ?_ ?_
 · rw [loops]; exact trivial
 · intro args K r h
   unfold spec0 at h
   split at h
   · rw [body]; exact h
   · cases h
theorem ok : Proved Tryd.prog GLO.gB 134 spec := ok0
end R07_right
end

section
open Go Go.Abs Go.Proofs
set_option maxRecDepth 100000
set_option linter.unusedVariables false
namespace R07_mix
noncomputable def D : Ctx := ({ P := Tryd.prog, G := [(134, R07_right.spec)], globs := GLO.gB, hints := [], loops := [], inl := [] } : Ctx)
theorem body (a0 : Int) (a1 : Int) (a2 : Int) (a3 : Int) (a4 : Bool) (a5 : Bool) (K : AVal → Option R) : bodyA D Tryd.f117 [.any] [.v (.int .u64 a0), .v (.int .i64 a1), .v (.int .i64 a2), .v (.int .i64 a3), .v (.bool a4), .v (.bool a5)] K = P.R07_mix a0 a1 a2 a3 a4 a5 (fun r0 => K (.v (.int .u64 r0))) := by
 rw [P.R07_mix_eq]
 kernel_rfl
theorem loops : loopsOf (Tryd.f117.body.getD .skip) = [] := by kernel_rfl
noncomputable def spec0 : Abs.Spec := fun args K => match args with
 | [.v (.int .u64 a0), .v (.int .i64 a1), .v (.int .i64 a2), .v (.int .i64 a3), .v (.bool a4), .v (.bool a5)] => P.R07_mix a0 a1 a2 a3 a4 a5 (fun r0 => K (.v (.int .u64 r0)))
 | _ => none
noncomputable def spec : Abs.Spec := spec0
theorem ok0 : Proved Tryd.prog GLO.gB 117 spec0 := by
 refine proved_of (D := D) (fn := Tryd.f117) (c := Tryd.f117.body.getD .skip) [.any] (by kernel_rfl) (globsPlain_of (by kernel_rfl)) (by kernel_rfl) (by kernel_rfl) (by kernel_rfl) ⟨R07_right.ok, trivial⟩ trivial ?_ ?_
 · rw [loops]; exact trivial
 · intro args K r h
   unfold spec0 at h
   split at h
   · rw [body]; exact h
   · cases h
theorem ok : Proved Tryd.prog GLO.gB 117 spec := ok0
end R07_mix
end

section
open Go Go.Abs Go.Proofs
set_option maxRecDepth 100000
set_option linter.unusedVariables false
namespace R07_roots256
noncomputable def D : Ctx := ({ P := Tryd.prog, G := [], globs := GLO.gB, hints := [], loops := [], inl := [] } : Ctx)
theorem body  (K : AVal → Option R) : bodyA D Tryd.f114 [.any] [] K = P.R07_roots256 (fun r0 => K (.arr .u64 64 r0)) := by
 rw [P.R07_roots256_eq]
 kernel_rfl
theorem loops : loopsOf (Tryd.f114.body.getD .skip) = [] := by kernel_rfl
noncomputable def spec0 : Abs.Spec := fun args K => match args with
 | [] => P.R07_roots256 (fun r0 => K (.arr .u64 64 r0))
 | _ => none
noncomputable def spec : Abs.Spec := spec0
theorem ok0 : Proved Tryd.prog GLO.gB 114 spec0 := by
 refine proved_of (D := D) (fn := Tryd.f114) (c := Tryd.f114.body.getD .skip) [.any] (by kernel_rfl) (globsPlain_of (by kernel_rfl)) (by kernel_rfl) (by kernel_rfl) (by kernel_rfl) trivial trivial ?_ ?_
 · rw [loops]; exact trivial
 · intro args K r h
   unfold spec0 at h
   split at h
   · rw [body]; exact h
   · cases h
theorem ok : Proved Tryd.prog GLO.gB 114 spec := ok0
end R07_roots256
end

section
open Go Go.Abs Go.Proofs
set_option maxRecDepth 100000
set_option linter.unusedVariables false
namespace R07_roots512
noncomputable def D : Ctx := ({ P := Tryd.prog, G := [], globs := GLO.gB, hints := [], loops := [], inl := [] } : Ctx)
theorem body  (K : AVal → Option R) : bodyA D Tryd.f115 [.any] [] K = P.R07_roots512 (fun r0 => K (.arr .u64 80 r0)) := by
 rw [P.R07_roots512_eq]
 kernel_rfl
theorem loops : loopsOf (Tryd.f115.body.getD .skip) = [] := by kernel_rfl
noncomputable def spec0 : Abs.Spec := fun args K => match args with
 | [] => P.R07_roots512 (fun r0 => K (.arr .u64 80 r0))
 | _ => none
noncomputable def spec : Abs.Spec := spec0
theorem ok0 : Proved Tryd.prog GLO.gB 115 spec0 := by
 refine proved_of (D := D) (fn := Tryd.f115) (c := Tryd.f115.body.getD .skip) [.any] (by kernel_rfl) (globsPlain_of (by kernel_rfl)) (by kernel_rfl) (by kernel_rfl) (by kernel_rfl) trivial trivial ?_ ?_
 · rw [loops]; exact trivial
 · intro args K r h
   unfold spec0 at h
   split at h
   · rw [body]; exact h
   · cases h
theorem ok : Proved Tryd.prog GLO.gB 115 spec := ok0
end R07_roots512
end

section
open Go Go.Abs Go.Proofs
set_option maxRecDepth 100000
set_option linter.unusedVariables false
namespace R07_words
abbrev X6 := (List Int) × Bool × Int × Int × Int × Int × (List Int)
def S6 : X6 → ASt := fun (v0, v1, v2, v3, v9, v11, h0) => ⟨[(10, .own 0), (0, .sl (.ints .u8 v0)), (1, .v (.bool v1)), (2, .v (.int .i64 v2)), (3, .v (.int .u64 v3)), (9, .v (.int .i64 v9)), (11, .v (.int .i64 v11))], [(0, some ⟨.row 22 (.ints .u64 h0), false⟩)], 1, 82⟩
def V6 : ASt → Option X6
 | ⟨[(10, .own 0), (0, .sl (.ints .u8 v0)), (1, .v (.bool v1)), (2, .v (.int .i64 v2)), (3, .v (.int .u64 v3)), (9, .v (.int .i64 v9)), (11, .v (.int .i64 v11))], [(0, some ⟨.row 22 (.ints .u64 h0), false⟩)], 1, 82⟩ => some (v0, v1, v2, v3, v9, v11, h0)
 | _ => none
theorem V6_ok (st) (x) (h : V6 st = some x) : st = S6 x := by
 unfold V6 at h
 split at h
 · cases h; rfl
 · cases h
abbrev Y6 := X6
noncomputable def T6 : X6 → (X6 → Option R) → (Y6 → Option R) → Option R := fun (v0, v1, v2, v3, v9, v11, h0) next ex => P.R07_words_r6 v0 v1 v2 v3 v9 v11 h0 (fun v0 v1 v2 v3 v9 v11 h0 => next (v0, v1, v2, v3, v9, v11, h0)) (fun v0 v1 v2 v3 v9 v11 h0 => ex (v0, v1, v2, v3, v9, v11, h0))
def E6 (K : AExit → ASt → Option R) : Y6 → Option R := (fun x => K (.exit 0) (S6 x))
noncomputable def L6 : LSpec := fun st K => vMap (V6 st) fun (v0, v1, v2, v3, v9, v11, h0) => P.R07_words_l6 v0 v1 v2 v3 v9 v11 h0 (fun v0 v1 v2 v3 v9 v11 h0 => K (.exit 0) (S6 (v0, v1, v2, v3, v9, v11, h0)))
noncomputable def D : Ctx := ({ P := Tryd.prog, G := [(24, R01_Num.spec), (117, R07_mix.spec)], globs := GLO.gB, hints := [(6, ⟨[0, 1, 2, 3, 9, 11], [(10, 22, .ints .u64 [])], [8], [], none, []⟩)], loops := [(6, L6)], inl := [] } : Ctx)
theorem round6 (K) (next) (x) : roundA D (loopAt Tryd.f116 6) K next (S6 x) = T6 x (fun x => next (S6 x)) (E6 K) := by kernel_rfl
theorem lq6 (st) (K) : L6 st K = vMap (V6 st) (fun x => lp T6 x (E6 K)) := by
 unfold L6
 cases V6 st with
 | none => rfl
 | some x => rw [P.R07_words_l6_eq]; kernel_rfl
theorem loop6 : LoopOk D (loopAt Tryd.f116 6) := loopOk_lp S6 V6_ok (by kernel_rfl) lq6 round6
theorem body (a0 : List Int) (a1 : Bool) (a2 : Int) (a3 : Int) (K : AVal → Option R) : bodyA D Tryd.f116 [.fr 22 (.ints .u64 [])] [.sl (.ints .u8 a0), .v (.bool a1), .v (.int .i64 a2), .v (.int .u64 a3)] K = P.R07_words a0 a1 a2 a3 (fun r0 => K (.fr 22 (.ints .u64 r0))) := by
 rw [P.R07_words_eq]
 kernel_rfl
theorem loops : loopsOf (Tryd.f116.body.getD .skip) = [loopAt Tryd.f116 6] := by kernel_rfl
noncomputable def spec0 : Abs.Spec := fun args K => match args with
 | [.sl (.ints .u8 a0), .v (.bool a1), .v (.int .i64 a2), .v (.int .u64 a3)] => P.R07_words a0 a1 a2 a3 (fun r0 => K (.fr 22 (.ints .u64 r0)))
 | _ => none
noncomputable def spec : Abs.Spec := fun args K => spec0 (coerL [.sl (.ints .u8 []), .any, .any, .any] args) K
theorem ok0 : Proved Tryd.prog GLO.gB 116 spec0 := by
 refine proved_of (D := D) (fn := Tryd.f116) (c := Tryd.f116.body.getD .skip) [.fr 22 (.ints .u64 [])] (by kernel_rfl) (globsPlain_of (by kernel_rfl)) (by kernel_rfl) (by kernel_rfl) (by kernel_rfl) ⟨R01_Num.ok, R07_mix.ok, trivial⟩ trivial ?_ ?_
 · rw [loops]; exact ⟨loop6, trivial⟩
 · intro args K r h
   unfold spec0 at h
   split at h
   · rw [body]; exact h
   · cases h
theorem ok : Proved Tryd.prog GLO.gB 116 spec := proved_coer _ ok0
end R07_words
end

section
open Go Go.Abs Go.Proofs
set_option maxRecDepth 100000
set_option linter.unusedVariables false
namespace R07_block
abbrev X11 := Bool × Int × Int × Int × (List Int) × (List Int) × (List Int) × (List Int) × (List Int) × (List Int)
def S11 : X11 → ASt := fun (v2, v7, v8, v13, h0_0, h1_0, h2_0, h3_0, h4, h5_0) => ⟨[(2, .v (.bool v2)), (3, .ptr 0 0), (6, .ptr 1 0), (7, .v (.int .i64 v7)), (8, .v (.int .u64 v8)), (9, .ptr 2 0), (10, .ptr 3 0), (11, .own 4), (12, .ptr 5 0), (13, .v (.int .i64 v13))], [(0, some ⟨.box 23 [.arr .u64 8 h0_0], false⟩), (1, some ⟨.box 23 [.arr .u64 8 h1_0], false⟩), (2, some ⟨.box 161 [.arr .u64 64 h2_0], false⟩), (3, some ⟨.box 163 [.arr .u64 80 h3_0], false⟩), (4, some ⟨.row 22 (.ints .u64 h4), false⟩), (5, some ⟨.box 23 [.arr .u64 8 h5_0], false⟩)], 6, 137⟩
def V11 : ASt → Option X11
 | ⟨[(2, .v (.bool v2)), (3, .ptr 0 0), (6, .ptr 1 0), (7, .v (.int .i64 v7)), (8, .v (.int .u64 v8)), (9, .ptr 2 0), (10, .ptr 3 0), (11, .own 4), (12, .ptr 5 0), (13, .v (.int .i64 v13))], [(0, some ⟨.box 23 [.arr .u64 8 h0_0], false⟩), (1, some ⟨.box 23 [.arr .u64 8 h1_0], false⟩), (2, some ⟨.box 161 [.arr .u64 64 h2_0], false⟩), (3, some ⟨.box 163 [.arr .u64 80 h3_0], false⟩), (4, some ⟨.row 22 (.ints .u64 h4), false⟩), (5, some ⟨.box 23 [.arr .u64 8 h5_0], false⟩)], 6, 137⟩ => some (v2, v7, v8, v13, h0_0, h1_0, h2_0, h3_0, h4, h5_0)
 | _ => none
theorem V11_ok (st) (x) (h : V11 st = some x) : st = S11 x := by
 unfold V11 at h
 split at h
 · cases h; rfl
 · cases h
abbrev Y11 := X11
noncomputable def T11 : X11 → (X11 → Option R) → (Y11 → Option R) → Option R := fun (v2, v7, v8, v13, h0_0, h1_0, h2_0, h3_0, h4, h5_0) next ex => P.R07_block_r11 v2 v7 v8 v13 h0_0 h1_0 h2_0 h3_0 h4 h5_0 (fun v2 v7 v8 v13 h0_0 h1_0 h2_0 h3_0 h4 h5_0 => next (v2, v7, v8, v13, h0_0, h1_0, h2_0, h3_0, h4, h5_0)) (fun v2 v7 v8 v13 h0_0 h1_0 h2_0 h3_0 h4 h5_0 => ex (v2, v7, v8, v13, h0_0, h1_0, h2_0, h3_0, h4, h5_0))
abbrev X25 := Int × Int × (List Int) × (List Int) × (List Int)
def S25 : X25 → ASt := fun (v8, v19, h0_0, h1_0, h5_0) => ⟨[(3, .ptr 0 0), (6, .ptr 1 0), (8, .v (.int .u64 v8)), (12, .ptr 5 0), (19, .v (.int .i64 v19))], [(0, some ⟨.box 23 [.arr .u64 8 h0_0], false⟩), (1, some ⟨.box 23 [.arr .u64 8 h1_0], false⟩), (5, some ⟨.box 23 [.arr .u64 8 h5_0], false⟩)], 80, 137⟩
def V25 : ASt → Option X25
 | ⟨[(3, .ptr 0 0), (6, .ptr 1 0), (8, .v (.int .u64 v8)), (12, .ptr 5 0), (19, .v (.int .i64 v19))], [(0, some ⟨.box 23 [.arr .u64 8 h0_0], false⟩), (1, some ⟨.box 23 [.arr .u64 8 h1_0], false⟩), (5, some ⟨.box 23 [.arr .u64 8 h5_0], false⟩)], 80, 137⟩ => some (v8, v19, h0_0, h1_0, h5_0)
 | _ => none
theorem V25_ok (st) (x) (h : V25 st = some x) : st = S25 x := by
 unfold V25 at h
 split at h
 · cases h; rfl
 · cases h
abbrev Y25 := X25
noncomputable def T25 : X25 → (X25 → Option R) → (Y25 → Option R) → Option R := fun (v8, v19, h0_0, h1_0, h5_0) next ex => P.R07_block_r25 v8 v19 h0_0 h1_0 h5_0 (fun v8 v19 h0_0 h1_0 h5_0 => next (v8, v19, h0_0, h1_0, h5_0)) (fun v8 v19 h0_0 h1_0 h5_0 => ex (v8, v19, h0_0, h1_0, h5_0))
def E11 (K : AExit → ASt → Option R) : Y11 → Option R := (fun x => K (.exit 0) (S11 x))
noncomputable def L11 : LSpec := fun st K => vMap (V11 st) fun (v2, v7, v8, v13, h0_0, h1_0, h2_0, h3_0, h4, h5_0) => P.R07_block_l11 v2 v7 v8 v13 h0_0 h1_0 h2_0 h3_0 h4 h5_0 (fun v2 v7 v8 v13 h0_0 h1_0 h2_0 h3_0 h4 h5_0 => K (.exit 0) (S11 (v2, v7, v8, v13, h0_0, h1_0, h2_0, h3_0, h4, h5_0)))
def E25 (K : AExit → ASt → Option R) : Y25 → Option R := (fun x => K (.exit 2) (S25 x))
noncomputable def L25 : LSpec := fun st K => vMap (V25 st) fun (v8, v19, h0_0, h1_0, h5_0) => P.R07_block_l25 v8 v19 h0_0 h1_0 h5_0 (fun v8 v19 h0_0 h1_0 h5_0 => K (.exit 2) (S25 (v8, v19, h0_0, h1_0, h5_0)))
noncomputable def D : Ctx := ({ P := Tryd.prog, G := [(114, R07_roots256.spec), (115, R07_roots512.spec), (116, R07_words.spec), (117, R07_mix.spec)], globs := GLO.gB, hints := [(25, ⟨[3, 6, 8, 12, 19], [], [6], [], some (80, [0, 1, 5]), []⟩), (11, ⟨[2, 3, 6, 7, 8, 9, 10, 11, 12, 13], [], [6], [], none, []⟩)], loops := [(11, L11), (25, L25)], inl := [] } : Ctx)
theorem round11 (K) (next) (x) : roundA D (loopAt Tryd.f66 11) K next (S11 x) = T11 x (fun x => next (S11 x)) (E11 K) := by kernel_rfl
theorem lq11 (st) (K) : L11 st K = vMap (V11 st) (fun x => lp T11 x (E11 K)) := by
 unfold L11
 cases V11 st with
 | none => rfl
 | some x => rw [P.R07_block_l11_eq]; kernel_rfl
theorem loop11 : LoopOk D (loopAt Tryd.f66 11) := loopOk_lp S11 V11_ok (by kernel_rfl) lq11 round11
theorem round25 (K) (next) (x) : roundA D (loopAt Tryd.f66 25) K next (S25 x) = T25 x (fun x => next (S25 x)) (E25 K) := by kernel_rfl
theorem lq25 (st) (K) : L25 st K = vMap (V25 st) (fun x => lp T25 x (E25 K)) := by
 unfold L25
 cases V25 st with
 | none => rfl
 | some x => rw [P.R07_block_l25_eq]; kernel_rfl
theorem loop25 : LoopOk D (loopAt Tryd.f66 25) := loopOk_lp S25 V25_ok (by kernel_rfl) lq25 round25
theorem body (a0 : List Int) (a1 : List Int) (a2 : Bool) (K : AVal → Option R) : bodyA D Tryd.f66 [.any] [.arr .u64 8 a0, .sl (.ints .u8 a1), .v (.bool a2)] K = P.R07_block a0 a1 a2 (fun r0 => K (.arr .u64 8 r0)) := by
 rw [P.R07_block_eq]
 kernel_rfl
theorem loops : loopsOf (Tryd.f66.body.getD .skip) = [loopAt Tryd.f66 11, loopAt Tryd.f66 25] := by kernel_rfl
noncomputable def spec0 : Abs.Spec := fun args K => match args with
 | [.arr .u64 8 a0, .sl (.ints .u8 a1), .v (.bool a2)] => P.R07_block a0 a1 a2 (fun r0 => K (.arr .u64 8 r0))
 | _ => none
noncomputable def spec : Abs.Spec := fun args K => spec0 (coerL [.any, .sl (.ints .u8 []), .any] args) K
theorem ok0 : Proved Tryd.prog GLO.gB 66 spec0 := by
 refine proved_of (D := D) (fn := Tryd.f66) (c := Tryd.f66.body.getD .skip) [.any] (by kernel_rfl) (globsPlain_of (by kernel_rfl)) (by kernel_rfl) (by kernel_rfl) (by kernel_rfl) ⟨R07_roots256.ok, R07_roots512.ok, R07_words.ok, R07_mix.ok, trivial⟩ trivial ?_ ?_
 · rw [loops]; exact ⟨loop11, loop25, trivial⟩
 · intro args K r h
   unfold spec0 at h
   split at h
   · rw [body]; exact h
   · cases h
theorem ok : Proved Tryd.prog GLO.gB 66 spec := proved_coer _ ok0
end R07_block
end

section
open Go Go.Abs Go.Proofs
set_option maxRecDepth 100000
set_option linter.unusedVariables false
namespace R07_Add
abbrev X4 := Int × (List Int) × Int × (List Int) × (List Int) × Int × Int × (List Int) × Int
def S4 : X4 → ASt := fun (v5, v6, h0_0, h0_1, h0_2, h0_3, h1_0, h1_1, h1_3) => ⟨[(2, .ptr 0 0), (4, .ptr 1 0), (5, .v (.int .i64 v5)), (6, .sl (.ints .u8 v6))], [(0, some ⟨.box 26 [.v (.int .i64 h0_0), .arr .u64 8 h0_1, .sl (.ints .u8 h0_2), .v (.int .u64 h0_3)], false⟩), (1, some ⟨.box 26 [.v (.int .i64 h1_0), .arr .u64 8 h1_1, .v (.slice none 0 0), .v (.int .u64 h1_3)], false⟩)], 40, 41⟩
def V4 : ASt → Option X4
 | ⟨[(2, .ptr 0 0), (4, .ptr 1 0), (5, .v (.int .i64 v5)), (6, .sl (.ints .u8 v6))], [(0, some ⟨.box 26 [.v (.int .i64 h0_0), .arr .u64 8 h0_1, .sl (.ints .u8 h0_2), .v (.int .u64 h0_3)], false⟩), (1, some ⟨.box 26 [.v (.int .i64 h1_0), .arr .u64 8 h1_1, .v (.slice none 0 0), .v (.int .u64 h1_3)], false⟩)], 40, 41⟩ => some (v5, v6, h0_0, h0_1, h0_2, h0_3, h1_0, h1_1, h1_3)
 | _ => none
theorem V4_ok (st) (x) (h : V4 st = some x) : st = S4 x := by
 unfold V4 at h
 split at h
 · cases h; rfl
 · cases h
abbrev Y4 := X4
noncomputable def T4 : X4 → (X4 → Option R) → (Y4 → Option R) → Option R := fun (v5, v6, h0_0, h0_1, h0_2, h0_3, h1_0, h1_1, h1_3) next ex => P.R07_Add_r4 v5 v6 h0_0 h0_1 h0_2 h0_3 h1_0 h1_1 h1_3 (fun v5 v6 h0_0 h0_1 h0_2 h0_3 h1_0 h1_1 h1_3 => next (v5, v6, h0_0, h0_1, h0_2, h0_3, h1_0, h1_1, h1_3)) (fun v5 v6 h0_0 h0_1 h0_2 h0_3 h1_0 h1_1 h1_3 => ex (v5, v6, h0_0, h0_1, h0_2, h0_3, h1_0, h1_1, h1_3))
def E4 (K : AExit → ASt → Option R) : Y4 → Option R := (fun x => K (.exit 0) (S4 x))
noncomputable def L4 : LSpec := fun st K => vMap (V4 st) fun (v5, v6, h0_0, h0_1, h0_2, h0_3, h1_0, h1_1, h1_3) => P.R07_Add_l4 v5 v6 h0_0 h0_1 h0_2 h0_3 h1_0 h1_1 h1_3 (fun v5 v6 h0_0 h0_1 h0_2 h0_3 h1_0 h1_1 h1_3 => K (.exit 0) (S4 (v5, v6, h0_0, h0_1, h0_2, h0_3, h1_0, h1_1, h1_3)))
noncomputable def D : Ctx := ({ P := Tryd.prog, G := [(58, R07_Block.spec), (65, R01_Join.spec), (66, R07_block.spec)], globs := GLO.gB, hints := [(4, ⟨[2, 4, 5, 6], [], [4], [(6, .sl (.ints .u8 []))], some (40, [0, 1]), []⟩)], loops := [(4, L4)], inl := [] } : Ctx)
theorem round4 (K) (next) (x) : roundA D (loopAt Tryd.f17 4) K next (S4 x) = T4 x (fun x => next (S4 x)) (E4 K) := by kernel_rfl
theorem lq4 (st) (K) : L4 st K = vMap (V4 st) (fun x => lp T4 x (E4 K)) := by
 unfold L4
 cases V4 st with
 | none => rfl
 | some x => rw [P.R07_Add_l4_eq]; kernel_rfl
theorem loop4 : LoopOk D (loopAt Tryd.f17 4) := loopOk_lp S4 V4_ok (by kernel_rfl) lq4 round4
theorem body (a0_Kind : Int) (a0_Words : List Int) (a0_Tail : List Int) (a0_Size : Int) (a1 : List Int) (K : AVal → Option R) : bodyA D Tryd.f17 [.agg [.any, .any, .sl (.ints .u8 []), .any]] [.agg [.v (.int .i64 a0_Kind), .arr .u64 8 a0_Words, .sl (.ints .u8 a0_Tail), .v (.int .u64 a0_Size)], .sl (.ints .u8 a1)] K = P.R07_Add a0_Kind a0_Words a0_Tail a0_Size a1 (fun r0_Kind r0_Words r0_Tail r0_Size => K (.agg [.v (.int .i64 r0_Kind), .arr .u64 8 r0_Words, .sl (.ints .u8 r0_Tail), .v (.int .u64 r0_Size)])) := by
 rw [P.R07_Add_eq]
 kernel_rfl
theorem loops : loopsOf (Tryd.f17.body.getD .skip) = [loopAt Tryd.f17 4] := by kernel_rfl
noncomputable def spec0 : Abs.Spec := fun args K => match args with
 | [.agg [.v (.int .i64 a0_Kind), .arr .u64 8 a0_Words, .sl (.ints .u8 a0_Tail), .v (.int .u64 a0_Size)], .sl (.ints .u8 a1)] => P.R07_Add a0_Kind a0_Words a0_Tail a0_Size a1 (fun r0_Kind r0_Words r0_Tail r0_Size => K (.agg [.v (.int .i64 r0_Kind), .arr .u64 8 r0_Words, .sl (.ints .u8 r0_Tail), .v (.int .u64 r0_Size)]))
 | _ => none
noncomputable def spec : Abs.Spec := fun args K => spec0 (coerL [.agg [.any, .any, .sl (.ints .u8 []), .any], .sl (.ints .u8 [])] args) K
theorem ok0 : Proved Tryd.prog GLO.gB 17 spec0 := by
 refine proved_of (D := D) (fn := Tryd.f17) (c := Tryd.f17.body.getD .skip) [.agg [.any, .any, .sl (.ints .u8 []), .any]] (by kernel_rfl) (globsPlain_of (by kernel_rfl)) (by kernel_rfl) (by kernel_rfl) (by kernel_rfl) ⟨R07_Block.ok, R01_Join.ok, R07_block.ok, trivial⟩ trivial ?_ ?_
 · rw [loops]; exact ⟨loop4, trivial⟩
 · intro args K r h
   unfold spec0 at h
   split at h
   · rw [body]; exact h
   · cases h
theorem ok : Proved Tryd.prog GLO.gB 17 spec := proved_coer _ ok0
end R07_Add
end

section
open Go Go.Abs Go.Proofs
set_option maxRecDepth 100000
set_option linter.unusedVariables false
namespace R07_End
abbrev X4 := Int × Int × (List Int) × Int × (List Int) × (List Int) × Int
def S4 : X4 → ASt := fun (v3, v4, h40, h0_0, h0_1, h0_2, h0_3) => ⟨[(5, .own 40), (1, .ptr 0 0), (3, .v (.int .i64 v3)), (4, .v (.int .u64 v4))], [(40, some ⟨.row 5 (.ints .u8 h40), false⟩), (0, some ⟨.box 26 [.v (.int .i64 h0_0), .arr .u64 8 h0_1, .sl (.ints .u8 h0_2), .v (.int .u64 h0_3)], false⟩)], 41, 77⟩
def V4 : ASt → Option X4
 | ⟨[(5, .own 40), (1, .ptr 0 0), (3, .v (.int .i64 v3)), (4, .v (.int .u64 v4))], [(40, some ⟨.row 5 (.ints .u8 h40), false⟩), (0, some ⟨.box 26 [.v (.int .i64 h0_0), .arr .u64 8 h0_1, .sl (.ints .u8 h0_2), .v (.int .u64 h0_3)], false⟩)], 41, 77⟩ => some (v3, v4, h40, h0_0, h0_1, h0_2, h0_3)
 | _ => none
theorem V4_ok (st) (x) (h : V4 st = some x) : st = S4 x := by
 unfold V4 at h
 split at h
 · cases h; rfl
 · cases h
abbrev Y4 := X4
noncomputable def T4 : X4 → (X4 → Option R) → (Y4 → Option R) → Option R := fun (v3, v4, h40, h0_0, h0_1, h0_2, h0_3) next ex => P.R07_End_r4 v3 v4 h40 h0_0 h0_1 h0_2 h0_3 (fun v3 v4 h40 h0_0 h0_1 h0_2 h0_3 => next (v3, v4, h40, h0_0, h0_1, h0_2, h0_3)) (fun v3 v4 h40 h0_0 h0_1 h0_2 h0_3 => ex (v3, v4, h40, h0_0, h0_1, h0_2, h0_3))
abbrev X8 := Int × Int × (List Int) × Int × (List Int) × (List Int) × Int
def S8 : X8 → ASt := fun (v3, v4, h80, h0_0, h0_1, h0_2, h0_3) => ⟨[(5, .own 80), (1, .ptr 0 0), (3, .v (.int .i64 v3)), (4, .v (.int .u64 v4))], [(80, some ⟨.row 5 (.ints .u8 h80), false⟩), (0, some ⟨.box 26 [.v (.int .i64 h0_0), .arr .u64 8 h0_1, .sl (.ints .u8 h0_2), .v (.int .u64 h0_3)], false⟩)], 81, 77⟩
def V8 : ASt → Option X8
 | ⟨[(5, .own 80), (1, .ptr 0 0), (3, .v (.int .i64 v3)), (4, .v (.int .u64 v4))], [(80, some ⟨.row 5 (.ints .u8 h80), false⟩), (0, some ⟨.box 26 [.v (.int .i64 h0_0), .arr .u64 8 h0_1, .sl (.ints .u8 h0_2), .v (.int .u64 h0_3)], false⟩)], 81, 77⟩ => some (v3, v4, h80, h0_0, h0_1, h0_2, h0_3)
 | _ => none
theorem V8_ok (st) (x) (h : V8 st = some x) : st = S8 x := by
 unfold V8 at h
 split at h
 · cases h; rfl
 · cases h
abbrev Y8 := X8
noncomputable def T8 : X8 → (X8 → Option R) → (Y8 → Option R) → Option R := fun (v3, v4, h80, h0_0, h0_1, h0_2, h0_3) next ex => P.R07_End_r8 v3 v4 h80 h0_0 h0_1 h0_2 h0_3 (fun v3 v4 h80 h0_0 h0_1 h0_2 h0_3 => next (v3, v4, h80, h0_0, h0_1, h0_2, h0_3)) (fun v3 v4 h80 h0_0 h0_1 h0_2 h0_3 => ex (v3, v4, h80, h0_0, h0_1, h0_2, h0_3))
abbrev X14 := Int × Int × (List Int) × Int × (List Int) × (List Int) × Int
def S14 : X14 → ASt := fun (v3, v7, h120, h0_0, h0_1, h0_2, h0_3) => ⟨[(6, .own 120), (1, .ptr 0 0), (3, .v (.int .i64 v3)), (7, .v (.int .i64 v7))], [(120, some ⟨.row 5 (.ints .u8 h120), false⟩), (0, some ⟨.box 26 [.v (.int .i64 h0_0), .arr .u64 8 h0_1, .sl (.ints .u8 h0_2), .v (.int .u64 h0_3)], false⟩)], 121, 77⟩
def V14 : ASt → Option X14
 | ⟨[(6, .own 120), (1, .ptr 0 0), (3, .v (.int .i64 v3)), (7, .v (.int .i64 v7))], [(120, some ⟨.row 5 (.ints .u8 h120), false⟩), (0, some ⟨.box 26 [.v (.int .i64 h0_0), .arr .u64 8 h0_1, .sl (.ints .u8 h0_2), .v (.int .u64 h0_3)], false⟩)], 121, 77⟩ => some (v3, v7, h120, h0_0, h0_1, h0_2, h0_3)
 | _ => none
theorem V14_ok (st) (x) (h : V14 st = some x) : st = S14 x := by
 unfold V14 at h
 split at h
 · cases h; rfl
 · cases h
abbrev Y14 := X14
noncomputable def T14 : X14 → (X14 → Option R) → (Y14 → Option R) → Option R := fun (v3, v7, h120, h0_0, h0_1, h0_2, h0_3) next ex => P.R07_End_r14 v3 v7 h120 h0_0 h0_1 h0_2 h0_3 (fun v3 v7 h120 h0_0 h0_1 h0_2 h0_3 => next (v3, v7, h120, h0_0, h0_1, h0_2, h0_3)) (fun v3 v7 h120 h0_0 h0_1 h0_2 h0_3 => ex (v3, v7, h120, h0_0, h0_1, h0_2, h0_3))
def E4 (K : AExit → ASt → Option R) : Y4 → Option R := (fun x => K (.exit 0) (S4 x))
noncomputable def L4 : LSpec := fun st K => vMap (V4 st) fun (v3, v4, h40, h0_0, h0_1, h0_2, h0_3) => P.R07_End_l4 v3 v4 h40 h0_0 h0_1 h0_2 h0_3 (fun v3 v4 h40 h0_0 h0_1 h0_2 h0_3 => K (.exit 0) (S4 (v3, v4, h40, h0_0, h0_1, h0_2, h0_3)))
def E8 (K : AExit → ASt → Option R) : Y8 → Option R := (fun x => K (.exit 2) (S8 x))
noncomputable def L8 : LSpec := fun st K => vMap (V8 st) fun (v3, v4, h80, h0_0, h0_1, h0_2, h0_3) => P.R07_End_l8 v3 v4 h80 h0_0 h0_1 h0_2 h0_3 (fun v3 v4 h80 h0_0 h0_1 h0_2 h0_3 => K (.exit 2) (S8 (v3, v4, h80, h0_0, h0_1, h0_2, h0_3)))
def E14 (K : AExit → ASt → Option R) : Y14 → Option R := (fun x => K (.exit 4) (S14 x))
noncomputable def L14 : LSpec := fun st K => vMap (V14 st) fun (v3, v7, h120, h0_0, h0_1, h0_2, h0_3) => P.R07_End_l14 v3 v7 h120 h0_0 h0_1 h0_2 h0_3 (fun v3 v7 h120 h0_0 h0_1 h0_2 h0_3 => K (.exit 4) (S14 (v3, v7, h120, h0_0, h0_1, h0_2, h0_3)))
noncomputable def D : Ctx := ({ P := Tryd.prog, G := [(17, R07_Add.spec), (22, R01_Be.spec), (58, R07_Block.spec)], globs := GLO.gB, hints := [(14, ⟨[1, 3, 7], [(6, 5, .ints .u8 [])], [2], [], some (120, [0]), [0]⟩), (8, ⟨[1, 3, 4], [(5, 5, .ints .u8 [])], [2], [], some (80, [0]), [0]⟩), (4, ⟨[1, 3, 4], [(5, 5, .ints .u8 [])], [2], [], some (40, [0]), [0]⟩)], loops := [(4, L4), (8, L8), (14, L14)], inl := [] } : Ctx)
theorem round4 (K) (next) (x) : roundA D (loopAt Tryd.f20 4) K next (S4 x) = T4 x (fun x => next (S4 x)) (E4 K) := by kernel_rfl
theorem lq4 (st) (K) : L4 st K = vMap (V4 st) (fun x => lp T4 x (E4 K)) := by
 unfold L4
 cases V4 st with
 | none => rfl
 | some x => rw [P.R07_End_l4_eq]; kernel_rfl
theorem loop4 : LoopOk D (loopAt Tryd.f20 4) := loopOk_lp S4 V4_ok (by kernel_rfl) lq4 round4
theorem round8 (K) (next) (x) : roundA D (loopAt Tryd.f20 8) K next (S8 x) = T8 x (fun x => next (S8 x)) (E8 K) := by kernel_rfl
theorem lq8 (st) (K) : L8 st K = vMap (V8 st) (fun x => lp T8 x (E8 K)) := by
 unfold L8
 cases V8 st with
 | none => rfl
 | some x => rw [P.R07_End_l8_eq]; kernel_rfl
theorem loop8 : LoopOk D (loopAt Tryd.f20 8) := loopOk_lp S8 V8_ok (by kernel_rfl) lq8 round8
theorem round14 (K) (next) (x) : roundA D (loopAt Tryd.f20 14) K next (S14 x) = T14 x (fun x => next (S14 x)) (E14 K) := by kernel_rfl
theorem lq14 (st) (K) : L14 st K = vMap (V14 st) (fun x => lp T14 x (E14 K)) := by
 unfold L14
 cases V14 st with
 | none => rfl
 | some x => rw [P.R07_End_l14_eq]; kernel_rfl
theorem loop14 : LoopOk D (loopAt Tryd.f20 14) := loopOk_lp S14 V14_ok (by kernel_rfl) lq14 round14
theorem body (a0_Kind : Int) (a0_Words : List Int) (a0_Tail : List Int) (a0_Size : Int) (K : AVal → Option R) : bodyW D Tryd.f20 5 (.ints .u8 []) [.agg [.v (.int .i64 a0_Kind), .arr .u64 8 a0_Words, .sl (.ints .u8 a0_Tail), .v (.int .u64 a0_Size)]] K = P.R07_End a0_Kind a0_Words a0_Tail a0_Size (fun r0 => K (.fr 5 (.ints .u8 r0))) := by
 rw [P.R07_End_eq]
 kernel_rfl
theorem loops : loopsOf (Tryd.f20.body.getD .skip) = [loopAt Tryd.f20 4, loopAt Tryd.f20 8, loopAt Tryd.f20 14] := by kernel_rfl
noncomputable def spec0 : Abs.Spec := fun args K => match args with
 | [.agg [.v (.int .i64 a0_Kind), .arr .u64 8 a0_Words, .sl (.ints .u8 a0_Tail), .v (.int .u64 a0_Size)]] => P.R07_End a0_Kind a0_Words a0_Tail a0_Size (fun r0 => K (.fr 5 (.ints .u8 r0)))
 | _ => none
noncomputable def spec : Abs.Spec := fun args K => spec0 (coerL [.agg [.any, .any, .sl (.ints .u8 []), .any]] args) K
theorem ok0 : Proved Tryd.prog GLO.gB 20 spec0 := by
 refine provedW_of (D := D) (fn := Tryd.f20) (c := Tryd.f20.body.getD .skip) 5 (.ints .u8 []) (by kernel_rfl) (globsPlain_of (by kernel_rfl)) (by kernel_rfl) (by kernel_rfl) (by kernel_rfl) ⟨R07_Add.ok, R01_Be.ok, R07_Block.ok, trivial⟩ trivial ?_ ?_
 · rw [loops]; exact ⟨loop4, loop8, loop14, trivial⟩
 · intro args K r h
   unfold spec0 at h
   split at h
   · rw [body]; exact h
   · cases h
theorem ok : Proved Tryd.prog GLO.gB 20 spec := proved_coer _ ok0
end R07_End
end

section
open Go Go.Abs Go.Proofs
set_option maxRecDepth 100000
set_option linter.unusedVariables false
namespace R07_New
noncomputable def D : Ctx := ({ P := Tryd.prog, G := [], globs := GLO.gB, hints := [], loops := [], inl := [] } : Ctx)
theorem body (a0 : Int) (K : AVal → Option R) : bodyA D Tryd.f26 [.agg [.any, .any, .fr 5 (.ints .u8 []), .any], .any] [.v (.int .i64 a0)] K = P.R07_New a0 (fun r0_Kind r0_Words r0_Tail r0_Size r1 => K (.tuple [.agg [.v (.int .i64 r0_Kind), .arr .u64 8 r0_Words, .fr 5 (.ints .u8 r0_Tail), .v (.int .u64 r0_Size)], .v (.int .i64 r1)])) := by
 rw [P.R07_New_eq]
 kernel_rfl
theorem loops : loopsOf (Tryd.f26.body.getD .skip) = [] := by kernel_rfl
noncomputable def spec0 : Abs.Spec := fun args K => match args with
 | [.v (.int .i64 a0)] => P.R07_New a0 (fun r0_Kind r0_Words r0_Tail r0_Size r1 => K (.tuple [.agg [.v (.int .i64 r0_Kind), .arr .u64 8 r0_Words, .fr 5 (.ints .u8 r0_Tail), .v (.int .u64 r0_Size)], .v (.int .i64 r1)]))
 | _ => none
noncomputable def spec : Abs.Spec := spec0
theorem ok0 : Proved Tryd.prog GLO.gB 26 spec0 := by
 refine proved_of (D := D) (fn := Tryd.f26) (c := Tryd.f26.body.getD .skip) [.agg [.any, .any, .fr 5 (.ints .u8 []), .any], .any] (by kernel_rfl) (globsPlain_of (by kernel_rfl)) (by kernel_rfl) (by kernel_rfl) (by kernel_rfl) trivial trivial ?_ ?_
 · rw [loops]; exact trivial
 · intro args K r h
   unfold spec0 at h
   split at h
   · rw [body]; exact h
   · cases h
theorem ok : Proved Tryd.prog GLO.gB 26 spec := ok0
end R07_New
end

section
open Go Go.Abs Go.Proofs
set_option maxRecDepth 100000
set_option linter.unusedVariables false
namespace R07_Sum
noncomputable def D : Ctx := ({ P := Tryd.prog, G := [(17, R07_Add.spec), (20, R07_End.spec), (26, R07_New.spec)], globs := GLO.gB, hints := [], loops := [], inl := [] } : Ctx)
theorem body (a0 : Int) (a1 : List Int) (K : AVal → Option R) : bodyA D Tryd.f25 [.fr 5 (.ints .u8 []), .any] [.v (.int .i64 a0), .sl (.ints .u8 a1)] K = P.R07_Sum a0 a1 (fun r0 r1 => K (.tuple [.fr 5 (.ints .u8 r0), .v (.int .i64 r1)])) := by
 rw [P.R07_Sum_eq]
 kernel_rfl
theorem loops : loopsOf (Tryd.f25.body.getD .skip) = [] := by kernel_rfl
noncomputable def spec0 : Abs.Spec := fun args K => match args with
 | [.v (.int .i64 a0), .sl (.ints .u8 a1)] => P.R07_Sum a0 a1 (fun r0 r1 => K (.tuple [.fr 5 (.ints .u8 r0), .v (.int .i64 r1)]))
 | _ => none
noncomputable def spec : Abs.Spec := fun args K => spec0 (coerL [.any, .sl (.ints .u8 [])] args) K
theorem ok0 : Proved Tryd.prog GLO.gB 25 spec0 := by
 refine proved_of (D := D) (fn := Tryd.f25) (c := Tryd.f25.body.getD .skip) [.fr 5 (.ints .u8 []), .any] (by kernel_rfl) (globsPlain_of (by kernel_rfl)) (by kernel_rfl) (by kernel_rfl) (by kernel_rfl) ⟨R07_Add.ok, R07_End.ok, R07_New.ok, trivial⟩ trivial ?_ ?_
 · rw [loops]; exact trivial
 · intro args K r h
   unfold spec0 at h
   split at h
   · rw [body]; exact h
   · cases h
theorem ok : Proved Tryd.prog GLO.gB 25 spec := proved_coer _ ok0
end R07_Sum
end

section
open Go Go.Abs Go.Proofs
set_option maxRecDepth 100000
set_option linter.unusedVariables false
namespace R14_H
noncomputable def D : Ctx := ({ P := Tryd.prog, G := [(25, R07_Sum.spec), (65, R01_Join.spec)], globs := GLO.gB, hints := [], loops := [], inl := [] } : Ctx)
theorem body (a0 : List (List Int)) (K : AVal → Option R) : bodyA D Tryd.f123 [.fr 5 (.ints .u8 [])] [.sl (.rows .u8 a0)] K = P.R14_H a0 (fun r0 => K (.fr 5 (.ints .u8 r0))) := by
 rw [P.R14_H_eq]
 kernel_rfl
theorem loops : loopsOf (Tryd.f123.body.getD .skip) = [] := by kernel_rfl
noncomputable def spec0 : Abs.Spec := fun args K => match args with
 | [.sl (.rows .u8 a0)] => P.R14_H a0 (fun r0 => K (.fr 5 (.ints .u8 r0)))
 | _ => none
noncomputable def spec : Abs.Spec := fun args K => spec0 (coerL [.sl (.rows .u8 [])] args) K
theorem ok0 : Proved Tryd.prog GLO.gB 123 spec0 := by
 refine proved_of (D := D) (fn := Tryd.f123) (c := Tryd.f123.body.getD .skip) [.fr 5 (.ints .u8 [])] (by kernel_rfl) (globsPlain_of (by kernel_rfl)) (by kernel_rfl) (by kernel_rfl) (by kernel_rfl) ⟨R07_Sum.ok, R01_Join.ok, trivial⟩ trivial ?_ ?_
 · rw [loops]; exact trivial
 · intro args K r h
   unfold spec0 at h
   split at h
   · rw [body]; exact h
   · cases h
theorem ok : Proved Tryd.prog GLO.gB 123 spec := proved_coer _ ok0
end R14_H
end

section
open Go Go.Abs Go.Proofs
set_option maxRecDepth 100000
set_option linter.unusedVariables false
namespace R14_chain
abbrev X2 := (List Int) × Int × Int × Int × (List Int) × Int
def S2 : X2 → ASt := fun (v0, v1, v2, v4, v5, v13) => ⟨[(0, .sl (.ints .u8 v0)), (1, .v (.int .u32 v1)), (2, .v (.int .i64 v2)), (4, .v (.int .i64 v4)), (5, .sl (.ints .u8 v5)), (13, .v (.int .i64 v13))], [], 0, 34⟩
def V2 : ASt → Option X2
 | ⟨[(0, .sl (.ints .u8 v0)), (1, .v (.int .u32 v1)), (2, .v (.int .i64 v2)), (4, .v (.int .i64 v4)), (5, .sl (.ints .u8 v5)), (13, .v (.int .i64 v13))], [], 0, 34⟩ => some (v0, v1, v2, v4, v5, v13)
 | _ => none
theorem V2_ok (st) (x) (h : V2 st = some x) : st = S2 x := by
 unfold V2 at h
 split at h
 · cases h; rfl
 · cases h
abbrev Y2 := X2
noncomputable def T2 : X2 → (X2 → Option R) → (Y2 → Option R) → Option R := fun (v0, v1, v2, v4, v5, v13) next ex => P.R14_chain_r2 v0 v1 v2 v4 v5 v13 (fun v0 v1 v2 v4 v5 v13 => next (v0, v1, v2, v4, v5, v13)) (fun v0 v1 v2 v4 v5 v13 => ex (v0, v1, v2, v4, v5, v13))
def E2 (K : AExit → ASt → Option R) : Y2 → Option R := (fun x => K (.exit 0) (S2 x))
noncomputable def L2 : LSpec := fun st K => vMap (V2 st) fun (v0, v1, v2, v4, v5, v13) => P.R14_chain_l2 v0 v1 v2 v4 v5 v13 (fun v0 v1 v2 v4 v5 v13 => K (.exit 0) (S2 (v0, v1, v2, v4, v5, v13)))
noncomputable def D : Ctx := ({ P := Tryd.prog, G := [(22, R01_Be.spec), (123, R14_H.spec)], globs := GLO.gB, hints := [(2, ⟨[0, 1, 2, 4, 5, 13], [], [12], [(5, .sl (.ints .u8 []))], none, []⟩)], loops := [(2, L2)], inl := [] } : Ctx)
theorem round2 (K) (next) (x) : roundA D (loopAt Tryd.f89 2) K next (S2 x) = T2 x (fun x => next (S2 x)) (E2 K) := by kernel_rfl
theorem lq2 (st) (K) : L2 st K = vMap (V2 st) (fun x => lp T2 x (E2 K)) := by
 unfold L2
 cases V2 st with
 | none => rfl
 | some x => rw [P.R14_chain_l2_eq]; kernel_rfl
theorem loop2 : LoopOk D (loopAt Tryd.f89 2) := loopOk_lp S2 V2_ok (by kernel_rfl) lq2 round2
theorem body (a0 : List Int) (a1 : Int) (a2 : Int) (a3 : Int) (a4 : Int) (a5 : List Int) (K : AVal → Option R) : bodyA D Tryd.f89 [.sl (.ints .u8 [])] [.sl (.ints .u8 a0), .v (.int .u32 a1), .v (.int .i64 a2), .v (.int .i64 a3), .v (.int .i64 a4), .sl (.ints .u8 a5)] K = P.R14_chain a0 a1 a2 a3 a4 a5 (fun r0 => K (.sl (.ints .u8 r0))) := by
 rw [P.R14_chain_eq]
 kernel_rfl
theorem loops : loopsOf (Tryd.f89.body.getD .skip) = [loopAt Tryd.f89 2] := by kernel_rfl
noncomputable def spec0 : Abs.Spec := fun args K => match args with
 | [.sl (.ints .u8 a0), .v (.int .u32 a1), .v (.int .i64 a2), .v (.int .i64 a3), .v (.int .i64 a4), .sl (.ints .u8 a5)] => P.R14_chain a0 a1 a2 a3 a4 a5 (fun r0 => K (.sl (.ints .u8 r0)))
 | _ => none
noncomputable def spec : Abs.Spec := fun args K => spec0 (coerL [.sl (.ints .u8 []), .any, .any, .any, .any, .sl (.ints .u8 [])] args) K
theorem ok0 : Proved Tryd.prog GLO.gB 89 spec0 := by
 refine proved_of (D := D) (fn := Tryd.f89) (c := Tryd.f89.body.getD .skip) [.sl (.ints .u8 [])] (by kernel_rfl) (globsPlain_of (by kernel_rfl)) (by kernel_rfl) (by kernel_rfl) (by kernel_rfl) ⟨R01_Be.ok, R14_H.ok, trivial⟩ trivial ?_ ?_
 · rw [loops]; exact ⟨loop2, trivial⟩
 · intro args K r h
   unfold spec0 at h
   split at h
   · rw [body]; exact h
   · cases h
theorem ok : Proved Tryd.prog GLO.gB 89 spec := proved_coer _ ok0
end R14_chain
end

section
open Go Go.Abs Go.Proofs
set_option maxRecDepth 100000
set_option linter.unusedVariables false
namespace R14_digest
noncomputable def D : Ctx := ({ P := Tryd.prog, G := [(22, R01_Be.spec), (123, R14_H.spec)], globs := GLO.gB, hints := [], loops := [], inl := [] } : Ctx)
theorem body (a0 : List Int) (a1 : Int) (a2 : List Int) (a3 : List Int) (K : AVal → Option R) : bodyA D Tryd.f94 [.fr 5 (.ints .u8 [])] [.sl (.ints .u8 a0), .v (.int .u32 a1), .sl (.ints .u8 a2), .sl (.ints .u8 a3)] K = P.R14_digest a0 a1 a2 a3 (fun r0 => K (.fr 5 (.ints .u8 r0))) := by
 rw [P.R14_digest_eq]
 kernel_rfl
theorem loops : loopsOf (Tryd.f94.body.getD .skip) = [] := by kernel_rfl
noncomputable def spec0 : Abs.Spec := fun args K => match args with
 | [.sl (.ints .u8 a0), .v (.int .u32 a1), .sl (.ints .u8 a2), .sl (.ints .u8 a3)] => P.R14_digest a0 a1 a2 a3 (fun r0 => K (.fr 5 (.ints .u8 r0)))
 | _ => none
noncomputable def spec : Abs.Spec := fun args K => spec0 (coerL [.sl (.ints .u8 []), .any, .sl (.ints .u8 []), .sl (.ints .u8 [])] args) K
theorem ok0 : Proved Tryd.prog GLO.gB 94 spec0 := by
 refine proved_of (D := D) (fn := Tryd.f94) (c := Tryd.f94.body.getD .skip) [.fr 5 (.ints .u8 [])] (by kernel_rfl) (globsPlain_of (by kernel_rfl)) (by kernel_rfl) (by kernel_rfl) (by kernel_rfl) ⟨R01_Be.ok, R14_H.ok, trivial⟩ trivial ?_ ?_
 · rw [loops]; exact trivial
 · intro args K r h
   unfold spec0 at h
   split at h
   · rw [body]; exact h
   · cases h
theorem ok : Proved Tryd.prog GLO.gB 94 spec := proved_coer _ ok0
end R14_digest
end

section
open Go Go.Abs Go.Proofs
set_option maxRecDepth 100000
set_option linter.unusedVariables false
namespace R14_key
noncomputable def D : Ctx := ({ P := Tryd.prog, G := [(22, R01_Be.spec), (65, R01_Join.spec), (123, R14_H.spec)], globs := GLO.gB, hints := [], loops := [], inl := [] } : Ctx)
theorem body (a0 : List Int) (a1 : Int) (a2 : List (List Int)) (K : AVal → Option R) : bodyA D Tryd.f91 [.fr 5 (.ints .u8 [])] [.sl (.ints .u8 a0), .v (.int .u32 a1), .sl (.rows .u8 a2)] K = P.R14_key a0 a1 a2 (fun r0 => K (.fr 5 (.ints .u8 r0))) := by
 rw [P.R14_key_eq]
 kernel_rfl
theorem loops : loopsOf (Tryd.f91.body.getD .skip) = [] := by kernel_rfl
noncomputable def spec0 : Abs.Spec := fun args K => match args with
 | [.sl (.ints .u8 a0), .v (.int .u32 a1), .sl (.rows .u8 a2)] => P.R14_key a0 a1 a2 (fun r0 => K (.fr 5 (.ints .u8 r0)))
 | _ => none
noncomputable def spec : Abs.Spec := fun args K => spec0 (coerL [.sl (.ints .u8 []), .any, .sl (.rows .u8 [])] args) K
theorem ok0 : Proved Tryd.prog GLO.gB 91 spec0 := by
 refine proved_of (D := D) (fn := Tryd.f91) (c := Tryd.f91.body.getD .skip) [.fr 5 (.ints .u8 [])] (by kernel_rfl) (globsPlain_of (by kernel_rfl)) (by kernel_rfl) (by kernel_rfl) (by kernel_rfl) ⟨R01_Be.ok, R01_Join.ok, R14_H.ok, trivial⟩ trivial ?_ ?_
 · rw [loops]; exact trivial
 · intro args K r h
   unfold spec0 at h
   split at h
   · rw [body]; exact h
   · cases h
theorem ok : Proved Tryd.prog GLO.gB 91 spec := proved_coer _ ok0
end R14_key
end

section
open Go Go.Abs Go.Proofs
set_option maxRecDepth 100000
set_option linter.unusedVariables false
namespace R14_Candidate
abbrev X11 := Int × (List Int) × Int × (List Int) × Int × Int × (List (List Int)) × (List Int)
def S11 : X11 → ASt := fun (v0, v1, v2, v4, v12, v18, h40, h1) => ⟨[(17, .own 40), (0, .v (.int .i64 v0)), (1, .sl (.ints .u8 v1)), (2, .v (.int .u32 v2)), (4, .sl (.ints .u8 v4)), (12, .v (.int .i64 v12)), (15, .own 1), (18, .v (.int .i64 v18))], [(40, some ⟨.row 24 (.rows .u8 h40), false⟩), (1, some ⟨.row 71 (.ints .u32 h1), false⟩)], 41, 85⟩
def V11 : ASt → Option X11
 | ⟨[(17, .own 40), (0, .v (.int .i64 v0)), (1, .sl (.ints .u8 v1)), (2, .v (.int .u32 v2)), (4, .sl (.ints .u8 v4)), (12, .v (.int .i64 v12)), (15, .own 1), (18, .v (.int .i64 v18))], [(40, some ⟨.row 24 (.rows .u8 h40), false⟩), (1, some ⟨.row 71 (.ints .u32 h1), false⟩)], 41, 85⟩ => some (v0, v1, v2, v4, v12, v18, h40, h1)
 | _ => none
theorem V11_ok (st) (x) (h : V11 st = some x) : st = S11 x := by
 unfold V11 at h
 split at h
 · cases h; rfl
 · cases h
abbrev Y11 := X11
noncomputable def T11 : X11 → (X11 → Option R) → (Y11 → Option R) → Option R := fun (v0, v1, v2, v4, v12, v18, h40, h1) next ex => P.R14_Candidate_r11 v0 v1 v2 v4 v12 v18 h40 h1 (fun v0 v1 v2 v4 v12 v18 h40 h1 => next (v0, v1, v2, v4, v12, v18, h40, h1)) (fun v0 v1 v2 v4 v12 v18 h40 h1 => ex (v0, v1, v2, v4, v12, v18, h40, h1))
def E11 (K : AExit → ASt → Option R) : Y11 → Option R := (fun x => K (.exit 0) (S11 x))
noncomputable def L11 : LSpec := fun st K => vMap (V11 st) fun (v0, v1, v2, v4, v12, v18, h40, h1) => P.R14_Candidate_l11 v0 v1 v2 v4 v12 v18 h40 h1 (fun v0 v1 v2 v4 v12 v18 h40 h1 => K (.exit 0) (S11 (v0, v1, v2, v4, v12, v18, h40, h1)))
noncomputable def D : Ctx := ({ P := Tryd.prog, G := [(24, R01_Num.spec), (88, R14_Kind.spec), (89, R14_chain.spec), (91, R14_key.spec), (93, R14_Digits.spec), (94, R14_digest.spec), (96, R14_Size.spec)], globs := GLO.gB, hints := [(11, ⟨[0, 1, 2, 4, 12, 15, 18], [(17, 24, .rows .u8 [])], [10, 11], [], some (40, [1]), []⟩)], loops := [(11, L11)], inl := [] } : Ctx)
theorem round11 (K) (next) (x) : roundA D (loopAt Tryd.f50 11) K next (S11 x) = T11 x (fun x => next (S11 x)) (E11 K) := by kernel_rfl
theorem lq11 (st) (K) : L11 st K = vMap (V11 st) (fun x => lp T11 x (E11 K)) := by
 unfold L11
 cases V11 st with
 | none => rfl
 | some x => rw [P.R14_Candidate_l11_eq]; kernel_rfl
theorem loop11 : LoopOk D (loopAt Tryd.f50 11) := loopOk_lp S11 V11_ok (by kernel_rfl) lq11 round11
theorem body (a0 : Int) (a1 : List Int) (a2 : Int) (a3 : List Int) (a4 : List Int) (K : AVal → Option R) : bodyA D Tryd.f50 [.fr 5 (.ints .u8 []), .any] [.v (.int .i64 a0), .sl (.ints .u8 a1), .v (.int .u32 a2), .sl (.ints .u8 a3), .sl (.ints .u8 a4)] K = P.R14_Candidate a0 a1 a2 a3 a4 (fun r0 r1 => K (.tuple [.fr 5 (.ints .u8 r0), .v (.int .i64 r1)])) := by
 rw [P.R14_Candidate_eq]
 kernel_rfl
theorem loops : loopsOf (Tryd.f50.body.getD .skip) = [loopAt Tryd.f50 11] := by kernel_rfl
noncomputable def spec0 : Abs.Spec := fun args K => match args with
 | [.v (.int .i64 a0), .sl (.ints .u8 a1), .v (.int .u32 a2), .sl (.ints .u8 a3), .sl (.ints .u8 a4)] => P.R14_Candidate a0 a1 a2 a3 a4 (fun r0 r1 => K (.tuple [.fr 5 (.ints .u8 r0), .v (.int .i64 r1)]))
 | _ => none
noncomputable def spec : Abs.Spec := fun args K => spec0 (coerL [.any, .sl (.ints .u8 []), .any, .sl (.ints .u8 []), .sl (.ints .u8 [])] args) K
theorem ok0 : Proved Tryd.prog GLO.gB 50 spec0 := by
 refine proved_of (D := D) (fn := Tryd.f50) (c := Tryd.f50.body.getD .skip) [.fr 5 (.ints .u8 []), .any] (by kernel_rfl) (globsPlain_of (by kernel_rfl)) (by kernel_rfl) (by kernel_rfl) (by kernel_rfl) ⟨R01_Num.ok, R14_Kind.ok, R14_chain.ok, R14_key.ok, R14_Digits.ok, R14_digest.ok, R14_Size.ok, trivial⟩ trivial ?_ ?_
 · rw [loops]; exact ⟨loop11, trivial⟩
 · intro args K r h
   unfold spec0 at h
   split at h
   · rw [body]; exact h
   · cases h
theorem ok : Proved Tryd.prog GLO.gB 50 spec := proved_coer _ ok0
end R14_Candidate
end

section
open Go Go.Abs Go.Proofs
set_option maxRecDepth 100000
set_option linter.unusedVariables false
namespace R15_head
noncomputable def D : Ctx := ({ P := Tryd.prog, G := [(22, R01_Be.spec), (88, R14_Kind.spec), (127, R15_Code.spec)], globs := GLO.gB, hints := [], loops := [], inl := [] } : Ctx)
theorem body (a0_H : Int) (a0_W : Int) (K : AVal → Option R) : bodyA D Tryd.f106 [.fr 5 (.ints .u8 [])] [.agg [.v (.int .i64 a0_H), .v (.int .i64 a0_W)]] K = P.R15_head a0_H a0_W (fun r0 => K (.fr 5 (.ints .u8 r0))) := by
 rw [P.R15_head_eq]
 kernel_rfl
theorem loops : loopsOf (Tryd.f106.body.getD .skip) = [] := by kernel_rfl
noncomputable def spec0 : Abs.Spec := fun args K => match args with
 | [.agg [.v (.int .i64 a0_H), .v (.int .i64 a0_W)]] => P.R15_head a0_H a0_W (fun r0 => K (.fr 5 (.ints .u8 r0)))
 | _ => none
noncomputable def spec : Abs.Spec := spec0
theorem ok0 : Proved Tryd.prog GLO.gB 106 spec0 := by
 refine proved_of (D := D) (fn := Tryd.f106) (c := Tryd.f106.body.getD .skip) [.fr 5 (.ints .u8 [])] (by kernel_rfl) (globsPlain_of (by kernel_rfl)) (by kernel_rfl) (by kernel_rfl) (by kernel_rfl) ⟨R01_Be.ok, R14_Kind.ok, R15_Code.ok, trivial⟩ trivial ?_ ?_
 · rw [loops]; exact trivial
 · intro args K r h
   unfold spec0 at h
   split at h
   · rw [body]; exact h
   · cases h
theorem ok : Proved Tryd.prog GLO.gB 106 spec := ok0
end R15_head
end

section
open Go Go.Abs Go.Proofs
set_option maxRecDepth 100000
set_option linter.unusedVariables false
namespace R15_leafSum
noncomputable def D : Ctx := ({ P := Tryd.prog, G := [(22, R01_Be.spec), (123, R14_H.spec)], globs := GLO.gB, hints := [], loops := [], inl := [] } : Ctx)
theorem body (a0 : List Int) (a1 : Int) (a2 : List Int) (K : AVal → Option R) : bodyA D Tryd.f107 [.fr 5 (.ints .u8 [])] [.sl (.ints .u8 a0), .v (.int .u64 a1), .sl (.ints .u8 a2)] K = P.R15_leafSum a0 a1 a2 (fun r0 => K (.fr 5 (.ints .u8 r0))) := by
 rw [P.R15_leafSum_eq]
 kernel_rfl
theorem loops : loopsOf (Tryd.f107.body.getD .skip) = [] := by kernel_rfl
noncomputable def spec0 : Abs.Spec := fun args K => match args with
 | [.sl (.ints .u8 a0), .v (.int .u64 a1), .sl (.ints .u8 a2)] => P.R15_leafSum a0 a1 a2 (fun r0 => K (.fr 5 (.ints .u8 r0)))
 | _ => none
noncomputable def spec : Abs.Spec := fun args K => spec0 (coerL [.sl (.ints .u8 []), .any, .sl (.ints .u8 [])] args) K
theorem ok0 : Proved Tryd.prog GLO.gB 107 spec0 := by
 refine proved_of (D := D) (fn := Tryd.f107) (c := Tryd.f107.body.getD .skip) [.fr 5 (.ints .u8 [])] (by kernel_rfl) (globsPlain_of (by kernel_rfl)) (by kernel_rfl) (by kernel_rfl) (by kernel_rfl) ⟨R01_Be.ok, R14_H.ok, trivial⟩ trivial ?_ ?_
 · rw [loops]; exact trivial
 · intro args K r h
   unfold spec0 at h
   split at h
   · rw [body]; exact h
   · cases h
theorem ok : Proved Tryd.prog GLO.gB 107 spec := proved_coer _ ok0
end R15_leafSum
end
