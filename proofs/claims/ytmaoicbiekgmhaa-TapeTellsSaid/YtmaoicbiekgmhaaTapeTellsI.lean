/-
  TapeTells, part I: an interpreter of my own over abstract values, the pure functions, the walks and the plain law.
-/

import Derived.Test.YtmaoicbiekgmhaaTapeTellsG
import Derived.Test.YtmaoicbiekgmhaaTapeTellsF
import Derived.Test.YtmaoicbiekgmhaaTapeTellsH
import Derived.Test.YtmaoicbiekgmhaaProg
import Derived.KernelRfl

section
open Go Go.Abs Go.Proofs
set_option maxRecDepth 100000
set_option linter.unusedVariables false
namespace slices_Clone_byte
noncomputable def D : Ctx := { P := Try.prog, G := [], globs := [], hints := [], loops := [] }
noncomputable def c : Code := Try.f78.body.getD .skip
noncomputable def o0 : Oper := (regOps (sq1 c)).getD 0 anOper
noncomputable def o1 : Oper := (regOps (sq1 (sq1 (sq2 c)))).getD 0 anOper
noncomputable def o2 : Oper := (regOps (sq1 (sq1 (sq2 c)))).getD 1 anOper
noncomputable def X : Code := condX (sq2 (sq1 (sq2 c)))
noncomputable def rest : Code := sq2 (sq2 c)
noncomputable def ox : Oper := (regOps (sq1 X)).getD 0 anOper
theorem rest_eq (a0 : List Int) : codeA D rest ⟨[(0, .sl (.ints .u8 a0)), (2, .v (.slice none 0 0))], [], 0, Try.f78.ntmps⟩ (outK D [.fr 5 (.ints .u8 a0)] Try.f78) = br (decide ((0 + a0.length) * 1 ≤ 140737488355328)) (some (.fr 5 (.ints .u8 a0))) none := by kernel_rfl
noncomputable def spec0 : Abs.Spec := fun args K => match args with
  | [.sl (.ints .u8 a0)] => P.slices_Clone_byte a0 (fun a0 => K (.fr 5 (.ints .u8 a0)))
  | _ => none
theorem body_eq : Try.f78.body = some (.seq (.region 0 #[o0] false) (.seq (.seq (.region 1 #[o1, o2] false) (.cond (.tmp 4) X .skip)) rest)) := by kernel_rfl
theorem ok0 : Proved Try.prog [] 78 spec0 := by
  refine ⟨⟨Try.f78, by kernel_rfl, by kernel_rfl, by kernel_rfl⟩, fun args K r h => ?_⟩
  unfold spec0 at h
  split at h
  · rename_i a0
    unfold P.slices_Clone_byte at h
    obtain ⟨hp, hK⟩ := pre_some h
    refine ⟨_, hK, clone_ok (D := D) (fn := Try.f78) (t := 22) (e := 5) trivial (globsPlain_of (by kernel_rfl)) trivial (by kernel_rfl) (by kernel_rfl) body_eq ⟨by kernel_rfl, by kernel_rfl, by kernel_rfl⟩ ⟨by kernel_rfl, by kernel_rfl, by kernel_rfl⟩ ⟨by kernel_rfl, by kernel_rfl, by kernel_rfl⟩ (by kernel_rfl) (by decide +kernel) (by kernel_rfl) (by kernel_rfl) ⟨2, ox, by kernel_rfl, by kernel_rfl, by kernel_rfl, by kernel_rfl⟩ (by kernel_rfl) ?_⟩
    rw [rest_eq, br_pos (by omega)]
  · cases h
noncomputable def spec : Abs.Spec := fun args K => spec0 (coerL [.sl (.ints .u8 [])] args) K
theorem ok : Proved Try.prog [] 78 spec := proved_coer _ ok0
end slices_Clone_byte
end

section
open Go Go.Abs Go.Proofs
set_option maxRecDepth 100000
set_option linter.unusedVariables false
namespace tape_Fit
noncomputable def D : Ctx := ({ P := Try.prog, G := [], globs := [], hints := [], loops := [], inl := [] } : Ctx)
theorem body (a0_Bytes : List Int) (a0_At : Int) (K : AVal → Option R) : bodyA D Try.f24 [.any] [.agg [.sl (.ints .u8 a0_Bytes), .v (.int .i64 a0_At)]] K = P.tape_Fit a0_Bytes a0_At (fun r0 => K (.v (.bool r0))) := by
  rw [P.tape_Fit_eq]
  kernel_rfl
theorem loops : loopsOf (Try.f24.body.getD .skip) = [] := by kernel_rfl
noncomputable def spec0 : Abs.Spec := fun args K => match args with
  | [.agg [.sl (.ints .u8 a0_Bytes), .v (.int .i64 a0_At)]] => P.tape_Fit a0_Bytes a0_At (fun r0 => K (.v (.bool r0)))
  | _ => none
noncomputable def spec : Abs.Spec := fun args K => spec0 (coerL [.agg [.sl (.ints .u8 []), .any]] args) K
theorem ok0 : Proved Try.prog [] 24 spec0 := by
  refine proved_of (D := D) (fn := Try.f24) (c := Try.f24.body.getD .skip) [.any] (by kernel_rfl) (globsPlain_of (by kernel_rfl)) (by kernel_rfl) (by kernel_rfl) (by kernel_rfl) trivial trivial ?_ ?_
  · rw [loops]; exact trivial
  · intro args K r h
    unfold spec0 at h
    split at h
    · rw [body]; exact h
    · cases h
theorem ok : Proved Try.prog [] 24 spec := proved_coer _ ok0
end tape_Fit
end

section
open Go Go.Abs Go.Proofs
set_option maxRecDepth 100000
set_option linter.unusedVariables false
namespace tape_Take
noncomputable def D1 : Ctx := ({ P := Try.prog, G := [(24, tape_Fit.spec), (78, slices_Clone_byte.spec)], globs := [], hints := [], loops := [], inl := [] } : Ctx)
noncomputable def D : Ctx := ({ P := Try.prog, G := [(24, tape_Fit.spec), (78, slices_Clone_byte.spec)], globs := [], hints := [], loops := [], inl := [(68, bodyIn D1 Try.f68)] } : Ctx)
theorem body (a0_Bytes : List Int) (a0_At : Int) (a1 : Int) (K : AVal → Option R) : bodyA D Try.f16 [.agg [.sl (.ints .u8 []), .any], .fr 5 (.ints .u8 []), .any] [.agg [.sl (.ints .u8 a0_Bytes), .v (.int .i64 a0_At)], .v (.int .i64 a1)] K = P.tape_Take a0_Bytes a0_At a1 (fun r0_Bytes r0_At r1 r2 => K (.tuple [.agg [.sl (.ints .u8 r0_Bytes), .v (.int .i64 r0_At)], .fr 5 (.ints .u8 r1), .v (.int .i64 r2)])) := by
  rw [P.tape_Take_eq]
  kernel_rfl
theorem loops : loopsOf (Try.f16.body.getD .skip) = [] := by kernel_rfl
theorem loops1 : loopsOf (Try.f68.body.getD .skip) = [] := by kernel_rfl
noncomputable def spec0 : Abs.Spec := fun args K => match args with
  | [.agg [.sl (.ints .u8 a0_Bytes), .v (.int .i64 a0_At)], .v (.int .i64 a1)] => P.tape_Take a0_Bytes a0_At a1 (fun r0_Bytes r0_At r1 r2 => K (.tuple [.agg [.sl (.ints .u8 r0_Bytes), .v (.int .i64 r0_At)], .fr 5 (.ints .u8 r1), .v (.int .i64 r2)]))
  | _ => none
noncomputable def spec : Abs.Spec := fun args K => spec0 (coerL [.agg [.sl (.ints .u8 []), .any], .any] args) K
theorem ok0 : Proved Try.prog [] 16 spec0 := by
  refine proved_of (D := D) (fn := Try.f16) (c := Try.f16.body.getD .skip) [.agg [.sl (.ints .u8 []), .any], .fr 5 (.ints .u8 []), .any] (by kernel_rfl) (globsPlain_of (by kernel_rfl)) (by kernel_rfl) (by kernel_rfl) (by kernel_rfl) ⟨tape_Fit.ok, slices_Clone_byte.ok, trivial⟩ ⟨run_of (D := D1) (D' := D) (fn := Try.f68) (c := Try.f68.body.getD .skip) rfl rfl (by kernel_rfl) (globsPlain_of (by kernel_rfl)) (by kernel_rfl) (by kernel_rfl) (by kernel_rfl) ⟨tape_Fit.ok, slices_Clone_byte.ok, trivial⟩ trivial (by rw [loops1]; exact trivial) (fun _ _ _ _ _ h => h), trivial⟩ ?_ ?_
  · rw [loops]; exact trivial
  · intro args K r h
    unfold spec0 at h
    split at h
    · rw [body]; exact h
    · cases h
theorem ok : Proved Try.prog [] 16 spec := proved_coer _ ok0
end tape_Take
end

section
open Go Go.Abs Go.Proofs
set_option maxRecDepth 100000
set_option linter.unusedVariables false
namespace L13_awake
noncomputable def D : Ctx := ({ P := Try.prog, G := [(16, tape_Take.spec), (19, R01_Same.spec)], globs := [], hints := [], loops := [], inl := [] } : Ctx)
theorem body  (K : AVal → Option R) : bodyA D Try.f15 [.any] [] K = P.L13_awake (fun r0 => K (.v (.bool r0))) := by
  rw [P.L13_awake_eq]
  kernel_rfl
theorem loops : loopsOf (Try.f15.body.getD .skip) = [] := by kernel_rfl
noncomputable def spec0 : Abs.Spec := fun args K => match args with
  | [] => P.L13_awake (fun r0 => K (.v (.bool r0)))
  | _ => none
noncomputable def spec : Abs.Spec := spec0
theorem ok0 : Proved Try.prog [] 15 spec0 := by
  refine proved_of (D := D) (fn := Try.f15) (c := Try.f15.body.getD .skip) [.any] (by kernel_rfl) (globsPlain_of (by kernel_rfl)) (by kernel_rfl) (by kernel_rfl) (by kernel_rfl) ⟨tape_Take.ok, R01_Same.ok, trivial⟩ trivial ?_ ?_
  · rw [loops]; exact trivial
  · intro args K r h
    unfold spec0 at h
    split at h
    · rw [body]; exact h
    · cases h
theorem ok : Proved Try.prog [] 15 spec := ok0
end L13_awake
end

section
open Go Go.Abs Go.Proofs
set_option maxRecDepth 100000
set_option linter.unusedVariables false
namespace R04_Less
def S2 (v0 : List Int) (v1 : List Int) (v5 : Int) : ASt := ⟨[(0, .sl (.ints .u8 v0)), (1, .sl (.ints .u8 v1)), (5, .v (.int .i64 v5))], [], 0, 41⟩
def V2 : ASt → Option ((List Int) × (List Int) × Int)
  | ⟨[(0, .sl (.ints .u8 v0)), (1, .sl (.ints .u8 v1)), (5, .v (.int .i64 v5))], [], 0, 41⟩ => some (v0, v1, v5)
  | _ => none
theorem V2_ok (st : ASt) (x : (List Int) × (List Int) × Int) (h : V2 st = some x) : st = S2 x.1 x.2.1 x.2.2 := by
  unfold V2 at h
  split at h
  · cases h; rfl
  · cases h
noncomputable def L2 : LSpec := fun st K => match V2 st with
  | some x => P.R04_Less_l2 x.1 x.2.1 x.2.2 (fun v0 v1 v5 => K (.exit 0) (S2 v0 v1 v5)) (fun v4 => K .ret ⟨[(4, .v (.bool v4))], [], 0, 41⟩)
  | none => none
noncomputable def D : Ctx := ({ P := Try.prog, G := [], globs := [], hints := [(2, ⟨[0, 1, 5], [], [4], []⟩)], loops := [(2, L2)], inl := [] } : Ctx)
def E2 (K : AExit → ASt → Option R) : (((List Int) × (List Int) × Int) ⊕ ((Bool))) → Option R := (Sum.elim (fun x => K (.exit 0) (S2 x.1 x.2.1 x.2.2)) (fun x => K .ret ⟨[(4, .v (.bool x))], [], 0, 41⟩))
theorem round2 (K : AExit → ASt → Option R) (next : ASt → Option R) (x : (List Int) × (List Int) × Int) : roundA D (loopAt Try.f58 2) K next (S2 x.1 x.2.1 x.2.2) = (fun (x : (List Int) × (List Int) × Int) (next : ((List Int) × (List Int) × Int) → Option R) (ex : (((List Int) × (List Int) × Int) ⊕ ((Bool))) → Option R) => P.R04_Less_r2 x.1 x.2.1 x.2.2 (fun v0 v1 v5 => next (v0, v1, v5)) (fun v0 v1 v5 => ex (.inl (v0, v1, v5))) (fun v4 => ex (.inr v4))) x (fun x => next (S2 x.1 x.2.1 x.2.2)) (E2 K) := by kernel_rfl
theorem lq2 (st : ASt) (K : AExit → ASt → Option R) : L2 st K = vMap (V2 st) (fun x => lp (fun (x : (List Int) × (List Int) × Int) (next : ((List Int) × (List Int) × Int) → Option R) (ex : (((List Int) × (List Int) × Int) ⊕ ((Bool))) → Option R) => P.R04_Less_r2 x.1 x.2.1 x.2.2 (fun v0 v1 v5 => next (v0, v1, v5)) (fun v0 v1 v5 => ex (.inl (v0, v1, v5))) (fun v4 => ex (.inr v4))) x (E2 K)) := by
  unfold L2
  cases V2 st with
  | none => rfl
  | some x => simp only [P.R04_Less_l2_eq]; rfl
theorem loop2 : LoopOk D (loopAt Try.f58 2) := loopOk_lp (X := (List Int) × (List Int) × Int) (Y := ((List Int) × (List Int) × Int) ⊕ ((Bool))) (fun x => S2 x.1 x.2.1 x.2.2) V2_ok (stp := (fun (x : (List Int) × (List Int) × Int) (next : ((List Int) × (List Int) × Int) → Option R) (ex : (((List Int) × (List Int) × Int) ⊕ ((Bool))) → Option R) => P.R04_Less_r2 x.1 x.2.1 x.2.2 (fun v0 v1 v5 => next (v0, v1, v5)) (fun v0 v1 v5 => ex (.inl (v0, v1, v5))) (fun v4 => ex (.inr v4)))) (enc := E2) (L := L2) (by kernel_rfl) lq2 round2
theorem body (a0 : List Int) (a1 : List Int) (K : AVal → Option R) : bodyA D Try.f58 [.any] [.sl (.ints .u8 a0), .sl (.ints .u8 a1)] K = P.R04_Less a0 a1 (fun r0 => K (.v (.bool r0))) := by
  rw [P.R04_Less_eq]
  kernel_rfl
theorem loops : loopsOf (Try.f58.body.getD .skip) = [loopAt Try.f58 2] := by kernel_rfl
noncomputable def spec0 : Abs.Spec := fun args K => match args with
  | [.sl (.ints .u8 a0), .sl (.ints .u8 a1)] => P.R04_Less a0 a1 (fun r0 => K (.v (.bool r0)))
  | _ => none
noncomputable def spec : Abs.Spec := fun args K => spec0 (coerL [.sl (.ints .u8 []), .sl (.ints .u8 [])] args) K
theorem ok0 : Proved Try.prog [] 58 spec0 := by
  refine proved_of (D := D) (fn := Try.f58) (c := Try.f58.body.getD .skip) [.any] (by kernel_rfl) (globsPlain_of (by kernel_rfl)) (by kernel_rfl) (by kernel_rfl) (by kernel_rfl) trivial trivial ?_ ?_
  · rw [loops]; exact ⟨loop2, trivial⟩
  · intro args K r h
    unfold spec0 at h
    split at h
    · rw [body]; exact h
    · cases h
theorem ok : Proved Try.prog [] 58 spec := proved_coer _ ok0
end R04_Less
end

section
open Go Go.Abs Go.Proofs
set_option maxRecDepth 100000
set_option linter.unusedVariables false
namespace R04_Same
def S4 (v0 : List (List Int)) (v1 : List (List Int)) (v5 : Int) : ASt := ⟨[(0, .sl (.rows .u8 v0)), (1, .sl (.rows .u8 v1)), (5, .v (.int .i64 v5))], [], 0, 37⟩
def V4 : ASt → Option ((List (List Int)) × (List (List Int)) × Int)
  | ⟨[(0, .sl (.rows .u8 v0)), (1, .sl (.rows .u8 v1)), (5, .v (.int .i64 v5))], [], 0, 37⟩ => some (v0, v1, v5)
  | _ => none
theorem V4_ok (st : ASt) (x : (List (List Int)) × (List (List Int)) × Int) (h : V4 st = some x) : st = S4 x.1 x.2.1 x.2.2 := by
  unfold V4 at h
  split at h
  · cases h; rfl
  · cases h
noncomputable def L4 : LSpec := fun st K => match V4 st with
  | some x => P.R04_Same_l4 x.1 x.2.1 x.2.2 (fun v0 v1 v5 => K (.exit 0) (S4 v0 v1 v5)) (fun v4 => K .ret ⟨[(4, .v (.bool v4))], [], 0, 37⟩)
  | none => none
noncomputable def D : Ctx := ({ P := Try.prog, G := [(58, R04_Less.spec)], globs := [], hints := [(4, ⟨[0, 1, 5], [], [4], []⟩)], loops := [(4, L4)], inl := [] } : Ctx)
def E4 (K : AExit → ASt → Option R) : (((List (List Int)) × (List (List Int)) × Int) ⊕ ((Bool))) → Option R := (Sum.elim (fun x => K (.exit 0) (S4 x.1 x.2.1 x.2.2)) (fun x => K .ret ⟨[(4, .v (.bool x))], [], 0, 37⟩))
theorem round4 (K : AExit → ASt → Option R) (next : ASt → Option R) (x : (List (List Int)) × (List (List Int)) × Int) : roundA D (loopAt Try.f27 4) K next (S4 x.1 x.2.1 x.2.2) = (fun (x : (List (List Int)) × (List (List Int)) × Int) (next : ((List (List Int)) × (List (List Int)) × Int) → Option R) (ex : (((List (List Int)) × (List (List Int)) × Int) ⊕ ((Bool))) → Option R) => P.R04_Same_r4 x.1 x.2.1 x.2.2 (fun v0 v1 v5 => next (v0, v1, v5)) (fun v0 v1 v5 => ex (.inl (v0, v1, v5))) (fun v4 => ex (.inr v4))) x (fun x => next (S4 x.1 x.2.1 x.2.2)) (E4 K) := by kernel_rfl
theorem lq4 (st : ASt) (K : AExit → ASt → Option R) : L4 st K = vMap (V4 st) (fun x => lp (fun (x : (List (List Int)) × (List (List Int)) × Int) (next : ((List (List Int)) × (List (List Int)) × Int) → Option R) (ex : (((List (List Int)) × (List (List Int)) × Int) ⊕ ((Bool))) → Option R) => P.R04_Same_r4 x.1 x.2.1 x.2.2 (fun v0 v1 v5 => next (v0, v1, v5)) (fun v0 v1 v5 => ex (.inl (v0, v1, v5))) (fun v4 => ex (.inr v4))) x (E4 K)) := by
  unfold L4
  cases V4 st with
  | none => rfl
  | some x => simp only [P.R04_Same_l4_eq]; rfl
theorem loop4 : LoopOk D (loopAt Try.f27 4) := loopOk_lp (X := (List (List Int)) × (List (List Int)) × Int) (Y := ((List (List Int)) × (List (List Int)) × Int) ⊕ ((Bool))) (fun x => S4 x.1 x.2.1 x.2.2) V4_ok (stp := (fun (x : (List (List Int)) × (List (List Int)) × Int) (next : ((List (List Int)) × (List (List Int)) × Int) → Option R) (ex : (((List (List Int)) × (List (List Int)) × Int) ⊕ ((Bool))) → Option R) => P.R04_Same_r4 x.1 x.2.1 x.2.2 (fun v0 v1 v5 => next (v0, v1, v5)) (fun v0 v1 v5 => ex (.inl (v0, v1, v5))) (fun v4 => ex (.inr v4)))) (enc := E4) (L := L4) (by kernel_rfl) lq4 round4
theorem body (a0 : List (List Int)) (a1 : List (List Int)) (K : AVal → Option R) : bodyA D Try.f27 [.any] [.sl (.rows .u8 a0), .sl (.rows .u8 a1)] K = P.R04_Same a0 a1 (fun r0 => K (.v (.bool r0))) := by
  rw [P.R04_Same_eq]
  kernel_rfl
theorem loops : loopsOf (Try.f27.body.getD .skip) = [loopAt Try.f27 4] := by kernel_rfl
noncomputable def spec0 : Abs.Spec := fun args K => match args with
  | [.sl (.rows .u8 a0), .sl (.rows .u8 a1)] => P.R04_Same a0 a1 (fun r0 => K (.v (.bool r0)))
  | _ => none
noncomputable def spec : Abs.Spec := fun args K => spec0 (coerL [.sl (.rows .u8 []), .sl (.rows .u8 [])] args) K
theorem ok0 : Proved Try.prog [] 27 spec0 := by
  refine proved_of (D := D) (fn := Try.f27) (c := Try.f27.body.getD .skip) [.any] (by kernel_rfl) (globsPlain_of (by kernel_rfl)) (by kernel_rfl) (by kernel_rfl) (by kernel_rfl) ⟨R04_Less.ok, trivial⟩ trivial ?_ ?_
  · rw [loops]; exact ⟨loop4, trivial⟩
  · intro args K r h
    unfold spec0 at h
    split at h
    · rw [body]; exact h
    · cases h
theorem ok : Proved Try.prog [] 27 spec := proved_coer _ ok0
end R04_Same
end

section
open Go Go.Abs Go.Proofs
set_option maxRecDepth 100000
set_option linter.unusedVariables false
namespace R13_Fit
noncomputable def D : Ctx := ({ P := Try.prog, G := [], globs := [], hints := [], loops := [], inl := [] } : Ctx)
theorem body (a0_Bytes : List Int) (a0_At : Int) (K : AVal → Option R) : bodyA D Try.f25 [.any] [.agg [.sl (.ints .u8 a0_Bytes), .v (.int .i64 a0_At)]] K = P.R13_Fit a0_Bytes a0_At (fun r0 => K (.v (.bool r0))) := by
  rw [P.R13_Fit_eq]
  kernel_rfl
theorem loops : loopsOf (Try.f25.body.getD .skip) = [] := by kernel_rfl
noncomputable def spec0 : Abs.Spec := fun args K => match args with
  | [.agg [.sl (.ints .u8 a0_Bytes), .v (.int .i64 a0_At)]] => P.R13_Fit a0_Bytes a0_At (fun r0 => K (.v (.bool r0)))
  | _ => none
noncomputable def spec : Abs.Spec := fun args K => spec0 (coerL [.agg [.sl (.ints .u8 []), .any]] args) K
theorem ok0 : Proved Try.prog [] 25 spec0 := by
  refine proved_of (D := D) (fn := Try.f25) (c := Try.f25.body.getD .skip) [.any] (by kernel_rfl) (globsPlain_of (by kernel_rfl)) (by kernel_rfl) (by kernel_rfl) (by kernel_rfl) trivial trivial ?_ ?_
  · rw [loops]; exact trivial
  · intro args K r h
    unfold spec0 at h
    split at h
    · rw [body]; exact h
    · cases h
theorem ok : Proved Try.prog [] 25 spec := proved_coer _ ok0
end R13_Fit
end

section
open Go Go.Abs Go.Proofs
set_option maxRecDepth 100000
set_option linter.unusedVariables false
namespace R13_Left
noncomputable def D : Ctx := ({ P := Try.prog, G := [(25, R13_Fit.spec)], globs := [], hints := [], loops := [], inl := [] } : Ctx)
theorem body (a0_Bytes : List Int) (a0_At : Int) (K : AVal → Option R) : bodyA D Try.f26 [.any] [.agg [.sl (.ints .u8 a0_Bytes), .v (.int .i64 a0_At)]] K = P.R13_Left a0_Bytes a0_At (fun r0 => K (.v (.int .i64 r0))) := by
  rw [P.R13_Left_eq]
  kernel_rfl
theorem loops : loopsOf (Try.f26.body.getD .skip) = [] := by kernel_rfl
noncomputable def spec0 : Abs.Spec := fun args K => match args with
  | [.agg [.sl (.ints .u8 a0_Bytes), .v (.int .i64 a0_At)]] => P.R13_Left a0_Bytes a0_At (fun r0 => K (.v (.int .i64 r0)))
  | _ => none
noncomputable def spec : Abs.Spec := fun args K => spec0 (coerL [.agg [.sl (.ints .u8 []), .any]] args) K
theorem ok0 : Proved Try.prog [] 26 spec0 := by
  refine proved_of (D := D) (fn := Try.f26) (c := Try.f26.body.getD .skip) [.any] (by kernel_rfl) (globsPlain_of (by kernel_rfl)) (by kernel_rfl) (by kernel_rfl) (by kernel_rfl) ⟨R13_Fit.ok, trivial⟩ trivial ?_ ?_
  · rw [loops]; exact trivial
  · intro args K r h
    unfold spec0 at h
    split at h
    · rw [body]; exact h
    · cases h
theorem ok : Proved Try.prog [] 26 spec := proved_coer _ ok0
end R13_Left
end

section
open Go Go.Abs Go.Proofs
set_option maxRecDepth 100000
set_option linter.unusedVariables false
namespace R13_Take
noncomputable def D : Ctx := ({ P := Try.prog, G := [(25, R13_Fit.spec), (26, R13_Left.spec)], globs := [], hints := [], loops := [], inl := [] } : Ctx)
theorem body (a0_Bytes : List Int) (a0_At : Int) (a1 : Int) (K : AVal → Option R) : bodyA D Try.f22 [.agg [.sl (.ints .u8 []), .any], .sl (.ints .u8 []), .any] [.agg [.sl (.ints .u8 a0_Bytes), .v (.int .i64 a0_At)], .v (.int .i64 a1)] K = P.R13_Take a0_Bytes a0_At a1 (fun r0_Bytes r0_At r1 r2 => K (.tuple [.agg [.sl (.ints .u8 r0_Bytes), .v (.int .i64 r0_At)], .sl (.ints .u8 r1), .v (.int .i64 r2)])) := by
  rw [P.R13_Take_eq]
  kernel_rfl
theorem loops : loopsOf (Try.f22.body.getD .skip) = [] := by kernel_rfl
noncomputable def spec0 : Abs.Spec := fun args K => match args with
  | [.agg [.sl (.ints .u8 a0_Bytes), .v (.int .i64 a0_At)], .v (.int .i64 a1)] => P.R13_Take a0_Bytes a0_At a1 (fun r0_Bytes r0_At r1 r2 => K (.tuple [.agg [.sl (.ints .u8 r0_Bytes), .v (.int .i64 r0_At)], .sl (.ints .u8 r1), .v (.int .i64 r2)]))
  | _ => none
noncomputable def spec : Abs.Spec := fun args K => spec0 (coerL [.agg [.sl (.ints .u8 []), .any], .any] args) K
theorem ok0 : Proved Try.prog [] 22 spec0 := by
  refine proved_of (D := D) (fn := Try.f22) (c := Try.f22.body.getD .skip) [.agg [.sl (.ints .u8 []), .any], .sl (.ints .u8 []), .any] (by kernel_rfl) (globsPlain_of (by kernel_rfl)) (by kernel_rfl) (by kernel_rfl) (by kernel_rfl) ⟨R13_Fit.ok, R13_Left.ok, trivial⟩ trivial ?_ ?_
  · rw [loops]; exact trivial
  · intro args K r h
    unfold spec0 at h
    split at h
    · rw [body]; exact h
    · cases h
theorem ok : Proved Try.prog [] 22 spec := proved_coer _ ok0
end R13_Take
end

section
open Go Go.Abs Go.Proofs
set_option maxRecDepth 100000
set_option linter.unusedVariables false
namespace R13_Parts
def S4 (v1 : List Int) (v9 : Int) (h3 : List (List Int)) (h0_0 : List Int) (h0_1 : Int) (h1_1 : Int) (h2_0 : List Int) (h2_1 : Int) : ASt := ⟨[(8, .own 3), (1, .sl (.ints .i64 v1)), (2, .ptr 0 0), (4, .ptr 1 0), (7, .ptr 2 0), (9, .v (.int .i64 v9))], [(3, some ⟨.row 22 (.rows .u8 h3), false⟩), (0, some ⟨.box 24 [.sl (.ints .u8 h0_0), .v (.int .i64 h0_1)], false⟩), (1, some ⟨.box 24 [.v (.slice none 0 0), .v (.int .i64 h1_1)], false⟩), (2, some ⟨.box 24 [.sl (.ints .u8 h2_0), .v (.int .i64 h2_1)], false⟩)], 4, 41⟩
def V4 : ASt → Option ((List Int) × Int × (List (List Int)) × (List Int) × Int × Int × (List Int) × Int)
  | ⟨[(8, .own 3), (1, .sl (.ints .i64 v1)), (2, .ptr 0 0), (4, .ptr 1 0), (7, .ptr 2 0), (9, .v (.int .i64 v9))], [(3, some ⟨.row 22 (.rows .u8 h3), false⟩), (0, some ⟨.box 24 [.sl (.ints .u8 h0_0), .v (.int .i64 h0_1)], false⟩), (1, some ⟨.box 24 [.v (.slice none 0 0), .v (.int .i64 h1_1)], false⟩), (2, some ⟨.box 24 [.sl (.ints .u8 h2_0), .v (.int .i64 h2_1)], false⟩)], 4, 41⟩ => some (v1, v9, h3, h0_0, h0_1, h1_1, h2_0, h2_1)
  | _ => none
theorem V4_ok (st : ASt) (x : (List Int) × Int × (List (List Int)) × (List Int) × Int × Int × (List Int) × Int) (h : V4 st = some x) : st = S4 x.1 x.2.1 x.2.2.1 x.2.2.2.1 x.2.2.2.2.1 x.2.2.2.2.2.1 x.2.2.2.2.2.2.1 x.2.2.2.2.2.2.2 := by
  unfold V4 at h
  split at h
  · cases h; rfl
  · cases h
noncomputable def L4 : LSpec := fun st K => match V4 st with
  | some x => P.R13_Parts_l4 x.1 x.2.1 x.2.2.1 x.2.2.2.1 x.2.2.2.2.1 x.2.2.2.2.2.1 x.2.2.2.2.2.2.1 x.2.2.2.2.2.2.2 (fun v1 v9 h3 h0_0 h0_1 h1_1 h2_0 h2_1 => K (.exit 0) (S4 v1 v9 h3 h0_0 h0_1 h1_1 h2_0 h2_1)) (fun v6 h1_0 h1_1 h4_0 h4_1 h4'_1 h3 h0_0 h0_1 h1'_1 h2_0 h2_1 => K .ret ⟨[(4, .ptr 1 0), (5, .v (.slice none 0 0)), (6, .v (.int .i64 v6))], [(1, some ⟨.box 24 [.sl (.ints .u8 h1_0), .v (.int .i64 h1_1)], false⟩), (4, some ⟨.box 24 [.sl (.ints .u8 h4_0), .v (.int .i64 h4_1)], false⟩), (4, some ⟨.box 24 [.v (.slice none 0 0), .v (.int .i64 h4'_1)], false⟩), (3, some ⟨.row 22 (.rows .u8 h3), false⟩), (0, some ⟨.box 24 [.sl (.ints .u8 h0_0), .v (.int .i64 h0_1)], false⟩), (1, some ⟨.box 24 [.v (.slice none 0 0), .v (.int .i64 h1'_1)], false⟩), (2, some ⟨.box 24 [.sl (.ints .u8 h2_0), .v (.int .i64 h2_1)], false⟩)], 5, 41⟩)
  | none => none
noncomputable def D : Ctx := ({ P := Try.prog, G := [(22, R13_Take.spec)], globs := [], hints := [(4, ⟨[1, 2, 4, 7, 9], [(8, 22, .rows .u8 [])], [4, 5, 6], []⟩)], loops := [(4, L4)], inl := [] } : Ctx)
def E4 (K : AExit → ASt → Option R) : (((List Int) × Int × (List (List Int)) × (List Int) × Int × Int × (List Int) × Int) ⊕ ((Int × (List Int) × Int × (List Int) × Int × Int × (List (List Int)) × (List Int) × Int × Int × (List Int) × Int))) → Option R := (Sum.elim (fun x => K (.exit 0) (S4 x.1 x.2.1 x.2.2.1 x.2.2.2.1 x.2.2.2.2.1 x.2.2.2.2.2.1 x.2.2.2.2.2.2.1 x.2.2.2.2.2.2.2)) (fun x => K .ret ⟨[(4, .ptr 1 0), (5, .v (.slice none 0 0)), (6, .v (.int .i64 x.1))], [(1, some ⟨.box 24 [.sl (.ints .u8 x.2.1), .v (.int .i64 x.2.2.1)], false⟩), (4, some ⟨.box 24 [.sl (.ints .u8 x.2.2.2.1), .v (.int .i64 x.2.2.2.2.1)], false⟩), (4, some ⟨.box 24 [.v (.slice none 0 0), .v (.int .i64 x.2.2.2.2.2.1)], false⟩), (3, some ⟨.row 22 (.rows .u8 x.2.2.2.2.2.2.1), false⟩), (0, some ⟨.box 24 [.sl (.ints .u8 x.2.2.2.2.2.2.2.1), .v (.int .i64 x.2.2.2.2.2.2.2.2.1)], false⟩), (1, some ⟨.box 24 [.v (.slice none 0 0), .v (.int .i64 x.2.2.2.2.2.2.2.2.2.1)], false⟩), (2, some ⟨.box 24 [.sl (.ints .u8 x.2.2.2.2.2.2.2.2.2.2.1), .v (.int .i64 x.2.2.2.2.2.2.2.2.2.2.2)], false⟩)], 5, 41⟩))
theorem round4 (K : AExit → ASt → Option R) (next : ASt → Option R) (x : (List Int) × Int × (List (List Int)) × (List Int) × Int × Int × (List Int) × Int) : roundA D (loopAt Try.f23 4) K next (S4 x.1 x.2.1 x.2.2.1 x.2.2.2.1 x.2.2.2.2.1 x.2.2.2.2.2.1 x.2.2.2.2.2.2.1 x.2.2.2.2.2.2.2) = (fun (x : (List Int) × Int × (List (List Int)) × (List Int) × Int × Int × (List Int) × Int) (next : ((List Int) × Int × (List (List Int)) × (List Int) × Int × Int × (List Int) × Int) → Option R) (ex : (((List Int) × Int × (List (List Int)) × (List Int) × Int × Int × (List Int) × Int) ⊕ ((Int × (List Int) × Int × (List Int) × Int × Int × (List (List Int)) × (List Int) × Int × Int × (List Int) × Int))) → Option R) => P.R13_Parts_r4 x.1 x.2.1 x.2.2.1 x.2.2.2.1 x.2.2.2.2.1 x.2.2.2.2.2.1 x.2.2.2.2.2.2.1 x.2.2.2.2.2.2.2 (fun v1 v9 h3 h0_0 h0_1 h1_1 h2_0 h2_1 => next (v1, v9, h3, h0_0, h0_1, h1_1, h2_0, h2_1)) (fun v1 v9 h3 h0_0 h0_1 h1_1 h2_0 h2_1 => ex (.inl (v1, v9, h3, h0_0, h0_1, h1_1, h2_0, h2_1))) (fun v6 h1_0 h1_1 h4_0 h4_1 h4'_1 h3 h0_0 h0_1 h1'_1 h2_0 h2_1 => ex (.inr (v6, h1_0, h1_1, h4_0, h4_1, h4'_1, h3, h0_0, h0_1, h1'_1, h2_0, h2_1)))) x (fun x => next (S4 x.1 x.2.1 x.2.2.1 x.2.2.2.1 x.2.2.2.2.1 x.2.2.2.2.2.1 x.2.2.2.2.2.2.1 x.2.2.2.2.2.2.2)) (E4 K) := by kernel_rfl
theorem lq4 (st : ASt) (K : AExit → ASt → Option R) : L4 st K = vMap (V4 st) (fun x => lp (fun (x : (List Int) × Int × (List (List Int)) × (List Int) × Int × Int × (List Int) × Int) (next : ((List Int) × Int × (List (List Int)) × (List Int) × Int × Int × (List Int) × Int) → Option R) (ex : (((List Int) × Int × (List (List Int)) × (List Int) × Int × Int × (List Int) × Int) ⊕ ((Int × (List Int) × Int × (List Int) × Int × Int × (List (List Int)) × (List Int) × Int × Int × (List Int) × Int))) → Option R) => P.R13_Parts_r4 x.1 x.2.1 x.2.2.1 x.2.2.2.1 x.2.2.2.2.1 x.2.2.2.2.2.1 x.2.2.2.2.2.2.1 x.2.2.2.2.2.2.2 (fun v1 v9 h3 h0_0 h0_1 h1_1 h2_0 h2_1 => next (v1, v9, h3, h0_0, h0_1, h1_1, h2_0, h2_1)) (fun v1 v9 h3 h0_0 h0_1 h1_1 h2_0 h2_1 => ex (.inl (v1, v9, h3, h0_0, h0_1, h1_1, h2_0, h2_1))) (fun v6 h1_0 h1_1 h4_0 h4_1 h4'_1 h3 h0_0 h0_1 h1'_1 h2_0 h2_1 => ex (.inr (v6, h1_0, h1_1, h4_0, h4_1, h4'_1, h3, h0_0, h0_1, h1'_1, h2_0, h2_1)))) x (E4 K)) := by
  unfold L4
  cases V4 st with
  | none => rfl
  | some x => simp only [P.R13_Parts_l4_eq]; rfl
theorem loop4 : LoopOk D (loopAt Try.f23 4) := loopOk_lp (X := (List Int) × Int × (List (List Int)) × (List Int) × Int × Int × (List Int) × Int) (Y := ((List Int) × Int × (List (List Int)) × (List Int) × Int × Int × (List Int) × Int) ⊕ ((Int × (List Int) × Int × (List Int) × Int × Int × (List (List Int)) × (List Int) × Int × Int × (List Int) × Int))) (fun x => S4 x.1 x.2.1 x.2.2.1 x.2.2.2.1 x.2.2.2.2.1 x.2.2.2.2.2.1 x.2.2.2.2.2.2.1 x.2.2.2.2.2.2.2) V4_ok (stp := (fun (x : (List Int) × Int × (List (List Int)) × (List Int) × Int × Int × (List Int) × Int) (next : ((List Int) × Int × (List (List Int)) × (List Int) × Int × Int × (List Int) × Int) → Option R) (ex : (((List Int) × Int × (List (List Int)) × (List Int) × Int × Int × (List Int) × Int) ⊕ ((Int × (List Int) × Int × (List Int) × Int × Int × (List (List Int)) × (List Int) × Int × Int × (List Int) × Int))) → Option R) => P.R13_Parts_r4 x.1 x.2.1 x.2.2.1 x.2.2.2.1 x.2.2.2.2.1 x.2.2.2.2.2.1 x.2.2.2.2.2.2.1 x.2.2.2.2.2.2.2 (fun v1 v9 h3 h0_0 h0_1 h1_1 h2_0 h2_1 => next (v1, v9, h3, h0_0, h0_1, h1_1, h2_0, h2_1)) (fun v1 v9 h3 h0_0 h0_1 h1_1 h2_0 h2_1 => ex (.inl (v1, v9, h3, h0_0, h0_1, h1_1, h2_0, h2_1))) (fun v6 h1_0 h1_1 h4_0 h4_1 h4'_1 h3 h0_0 h0_1 h1'_1 h2_0 h2_1 => ex (.inr (v6, h1_0, h1_1, h4_0, h4_1, h4'_1, h3, h0_0, h0_1, h1'_1, h2_0, h2_1))))) (enc := E4) (L := L4) (by kernel_rfl) lq4 round4
theorem body (a0_Bytes : List Int) (a0_At : Int) (a1 : List Int) (K : AVal → Option R) : bodyA D Try.f23 [.agg [.sl (.ints .u8 []), .any], .fr 22 (.rows .u8 []), .any] [.agg [.sl (.ints .u8 a0_Bytes), .v (.int .i64 a0_At)], .sl (.ints .i64 a1)] K = P.R13_Parts a0_Bytes a0_At a1 (fun r0_Bytes r0_At r1 r2 => K (.tuple [.agg [.sl (.ints .u8 r0_Bytes), .v (.int .i64 r0_At)], .fr 22 (.rows .u8 r1), .v (.int .i64 r2)])) := by
  rw [P.R13_Parts_eq]
  kernel_rfl
theorem loops : loopsOf (Try.f23.body.getD .skip) = [loopAt Try.f23 4] := by kernel_rfl
noncomputable def spec0 : Abs.Spec := fun args K => match args with
  | [.agg [.sl (.ints .u8 a0_Bytes), .v (.int .i64 a0_At)], .sl (.ints .i64 a1)] => P.R13_Parts a0_Bytes a0_At a1 (fun r0_Bytes r0_At r1 r2 => K (.tuple [.agg [.sl (.ints .u8 r0_Bytes), .v (.int .i64 r0_At)], .fr 22 (.rows .u8 r1), .v (.int .i64 r2)]))
  | _ => none
noncomputable def spec : Abs.Spec := fun args K => spec0 (coerL [.agg [.sl (.ints .u8 []), .any], .sl (.ints .i64 [])] args) K
theorem ok0 : Proved Try.prog [] 23 spec0 := by
  refine proved_of (D := D) (fn := Try.f23) (c := Try.f23.body.getD .skip) [.agg [.sl (.ints .u8 []), .any], .fr 22 (.rows .u8 []), .any] (by kernel_rfl) (globsPlain_of (by kernel_rfl)) (by kernel_rfl) (by kernel_rfl) (by kernel_rfl) ⟨R13_Take.ok, trivial⟩ trivial ?_ ?_
  · rw [loops]; exact ⟨loop4, trivial⟩
  · intro args K r h
    unfold spec0 at h
    split at h
    · rw [body]; exact h
    · cases h
theorem ok : Proved Try.prog [] 23 spec := proved_coer _ ok0
end R13_Parts
end

section
open Go Go.Abs Go.Proofs
set_option maxRecDepth 100000
set_option linter.unusedVariables false
namespace R13_Same
noncomputable def D : Ctx := ({ P := Try.prog, G := [(19, R01_Same.spec)], globs := [], hints := [], loops := [], inl := [] } : Ctx)
theorem body (a0_Bytes : List Int) (a0_At : Int) (a1_Bytes : List Int) (a1_At : Int) (K : AVal → Option R) : bodyA D Try.f18 [.any] [.agg [.sl (.ints .u8 a0_Bytes), .v (.int .i64 a0_At)], .agg [.sl (.ints .u8 a1_Bytes), .v (.int .i64 a1_At)]] K = P.R13_Same a0_Bytes a0_At a1_Bytes a1_At (fun r0 => K (.v (.bool r0))) := by
  rw [P.R13_Same_eq]
  kernel_rfl
theorem loops : loopsOf (Try.f18.body.getD .skip) = [] := by kernel_rfl
noncomputable def spec0 : Abs.Spec := fun args K => match args with
  | [.agg [.sl (.ints .u8 a0_Bytes), .v (.int .i64 a0_At)], .agg [.sl (.ints .u8 a1_Bytes), .v (.int .i64 a1_At)]] => P.R13_Same a0_Bytes a0_At a1_Bytes a1_At (fun r0 => K (.v (.bool r0)))
  | _ => none
noncomputable def spec : Abs.Spec := fun args K => spec0 (coerL [.agg [.sl (.ints .u8 []), .any], .agg [.sl (.ints .u8 []), .any]] args) K
theorem ok0 : Proved Try.prog [] 18 spec0 := by
  refine proved_of (D := D) (fn := Try.f18) (c := Try.f18.body.getD .skip) [.any] (by kernel_rfl) (globsPlain_of (by kernel_rfl)) (by kernel_rfl) (by kernel_rfl) (by kernel_rfl) ⟨R01_Same.ok, trivial⟩ trivial ?_ ?_
  · rw [loops]; exact trivial
  · intro args K r h
    unfold spec0 at h
    split at h
    · rw [body]; exact h
    · cases h
theorem ok : Proved Try.prog [] 18 spec := proved_coer _ ok0
end R13_Same
end

section
open Go Go.Abs Go.Proofs
set_option maxRecDepth 100000
set_option linter.unusedVariables false
namespace tape_Left
noncomputable def D : Ctx := ({ P := Try.prog, G := [(24, tape_Fit.spec)], globs := [], hints := [], loops := [], inl := [] } : Ctx)
theorem body (a0_Bytes : List Int) (a0_At : Int) (K : AVal → Option R) : bodyA D Try.f21 [.any] [.agg [.sl (.ints .u8 a0_Bytes), .v (.int .i64 a0_At)]] K = P.tape_Left a0_Bytes a0_At (fun r0 => K (.v (.int .i64 r0))) := by
  rw [P.tape_Left_eq]
  kernel_rfl
theorem loops : loopsOf (Try.f21.body.getD .skip) = [] := by kernel_rfl
noncomputable def spec0 : Abs.Spec := fun args K => match args with
  | [.agg [.sl (.ints .u8 a0_Bytes), .v (.int .i64 a0_At)]] => P.tape_Left a0_Bytes a0_At (fun r0 => K (.v (.int .i64 r0)))
  | _ => none
noncomputable def spec : Abs.Spec := fun args K => spec0 (coerL [.agg [.sl (.ints .u8 []), .any]] args) K
theorem ok0 : Proved Try.prog [] 21 spec0 := by
  refine proved_of (D := D) (fn := Try.f21) (c := Try.f21.body.getD .skip) [.any] (by kernel_rfl) (globsPlain_of (by kernel_rfl)) (by kernel_rfl) (by kernel_rfl) (by kernel_rfl) ⟨tape_Fit.ok, trivial⟩ trivial ?_ ?_
  · rw [loops]; exact trivial
  · intro args K r h
    unfold spec0 at h
    split at h
    · rw [body]; exact h
    · cases h
theorem ok : Proved Try.prog [] 21 spec := proved_coer _ ok0
end tape_Left
end

section
open Go Go.Abs Go.Proofs
set_option maxRecDepth 100000
set_option linter.unusedVariables false
namespace tape_Parts
def S5 (v17 : List Int) (v18 : Int) (v19 : Int) (h3 : List (List Int)) (h0_0 : List Int) (h0_1 : Int) (h1_1 : Int) (h2_0 : List Int) (h2_1 : Int) (h2_2 : Int) : ASt := ⟨[(9, .own 3), (2, .ptr 0 0), (4, .ptr 1 0), (7, .ptr 2 0), (8, .fn (.func 68) [.ptr 2 0] []), (17, .sl (.ints .i64 v17)), (18, .v (.int .i64 v18)), (19, .v (.int .i64 v19))], [(3, some ⟨.row 22 (.rows .u8 h3), false⟩), (0, some ⟨.box 24 [.sl (.ints .u8 h0_0), .v (.int .i64 h0_1)], false⟩), (1, some ⟨.box 24 [.v (.slice none 0 0), .v (.int .i64 h1_1)], false⟩), (2, some ⟨.box 78 [.sl (.ints .u8 h2_0), .v (.int .i64 h2_1), .v (.int .i64 h2_2)], false⟩)], 4, 45⟩
def V5 : ASt → Option ((List Int) × Int × Int × (List (List Int)) × (List Int) × Int × Int × (List Int) × Int × Int)
  | ⟨[(9, .own 3), (2, .ptr 0 0), (4, .ptr 1 0), (7, .ptr 2 0), (8, .fn (.func 68) [.ptr 2 0] []), (17, .sl (.ints .i64 v17)), (18, .v (.int .i64 v18)), (19, .v (.int .i64 v19))], [(3, some ⟨.row 22 (.rows .u8 h3), false⟩), (0, some ⟨.box 24 [.sl (.ints .u8 h0_0), .v (.int .i64 h0_1)], false⟩), (1, some ⟨.box 24 [.v (.slice none 0 0), .v (.int .i64 h1_1)], false⟩), (2, some ⟨.box 78 [.sl (.ints .u8 h2_0), .v (.int .i64 h2_1), .v (.int .i64 h2_2)], false⟩)], 4, 45⟩ => some (v17, v18, v19, h3, h0_0, h0_1, h1_1, h2_0, h2_1, h2_2)
  | _ => none
theorem V5_ok (st : ASt) (x : (List Int) × Int × Int × (List (List Int)) × (List Int) × Int × Int × (List Int) × Int × Int) (h : V5 st = some x) : st = S5 x.1 x.2.1 x.2.2.1 x.2.2.2.1 x.2.2.2.2.1 x.2.2.2.2.2.1 x.2.2.2.2.2.2.1 x.2.2.2.2.2.2.2.1 x.2.2.2.2.2.2.2.2.1 x.2.2.2.2.2.2.2.2.2 := by
  unfold V5 at h
  split at h
  · cases h; rfl
  · cases h
noncomputable def L5 : LSpec := fun st K => match V5 st with
  | some x => P.tape_Parts_l5 x.1 x.2.1 x.2.2.1 x.2.2.2.1 x.2.2.2.2.1 x.2.2.2.2.2.1 x.2.2.2.2.2.2.1 x.2.2.2.2.2.2.2.1 x.2.2.2.2.2.2.2.2.1 x.2.2.2.2.2.2.2.2.2 (fun v17 v18 v19 h3 h0_0 h0_1 h1_1 h2_0 h2_1 h2_2 => K (.exit 0) (S5 v17 v18 v19 h3 h0_0 h0_1 h1_1 h2_0 h2_1 h2_2))
  | none => none
noncomputable def D1 : Ctx := ({ P := Try.prog, G := [(24, tape_Fit.spec), (78, slices_Clone_byte.spec)], globs := [], hints := [], loops := [], inl := [] } : Ctx)
noncomputable def D : Ctx := ({ P := Try.prog, G := [(24, tape_Fit.spec), (78, slices_Clone_byte.spec)], globs := [], hints := [(5, ⟨[2, 4, 7, 8, 17, 18, 19], [(9, 22, .rows .u8 [])], [4, 5, 6], []⟩)], loops := [(5, L5)], inl := [(68, bodyIn D1 Try.f68)] } : Ctx)
def E5 (K : AExit → ASt → Option R) : (((List Int) × Int × Int × (List (List Int)) × (List Int) × Int × Int × (List Int) × Int × Int)) → Option R := (fun x => K (.exit 0) (S5 x.1 x.2.1 x.2.2.1 x.2.2.2.1 x.2.2.2.2.1 x.2.2.2.2.2.1 x.2.2.2.2.2.2.1 x.2.2.2.2.2.2.2.1 x.2.2.2.2.2.2.2.2.1 x.2.2.2.2.2.2.2.2.2))
theorem round5 (K : AExit → ASt → Option R) (next : ASt → Option R) (x : (List Int) × Int × Int × (List (List Int)) × (List Int) × Int × Int × (List Int) × Int × Int) : roundA D (loopAt Try.f17 5) K next (S5 x.1 x.2.1 x.2.2.1 x.2.2.2.1 x.2.2.2.2.1 x.2.2.2.2.2.1 x.2.2.2.2.2.2.1 x.2.2.2.2.2.2.2.1 x.2.2.2.2.2.2.2.2.1 x.2.2.2.2.2.2.2.2.2) = (fun (x : (List Int) × Int × Int × (List (List Int)) × (List Int) × Int × Int × (List Int) × Int × Int) (next : ((List Int) × Int × Int × (List (List Int)) × (List Int) × Int × Int × (List Int) × Int × Int) → Option R) (ex : (((List Int) × Int × Int × (List (List Int)) × (List Int) × Int × Int × (List Int) × Int × Int)) → Option R) => P.tape_Parts_r5 x.1 x.2.1 x.2.2.1 x.2.2.2.1 x.2.2.2.2.1 x.2.2.2.2.2.1 x.2.2.2.2.2.2.1 x.2.2.2.2.2.2.2.1 x.2.2.2.2.2.2.2.2.1 x.2.2.2.2.2.2.2.2.2 (fun v17 v18 v19 h3 h0_0 h0_1 h1_1 h2_0 h2_1 h2_2 => next (v17, v18, v19, h3, h0_0, h0_1, h1_1, h2_0, h2_1, h2_2)) (fun v17 v18 v19 h3 h0_0 h0_1 h1_1 h2_0 h2_1 h2_2 => ex ((v17, v18, v19, h3, h0_0, h0_1, h1_1, h2_0, h2_1, h2_2)))) x (fun x => next (S5 x.1 x.2.1 x.2.2.1 x.2.2.2.1 x.2.2.2.2.1 x.2.2.2.2.2.1 x.2.2.2.2.2.2.1 x.2.2.2.2.2.2.2.1 x.2.2.2.2.2.2.2.2.1 x.2.2.2.2.2.2.2.2.2)) (E5 K) := by kernel_rfl
theorem lq5 (st : ASt) (K : AExit → ASt → Option R) : L5 st K = vMap (V5 st) (fun x => lp (fun (x : (List Int) × Int × Int × (List (List Int)) × (List Int) × Int × Int × (List Int) × Int × Int) (next : ((List Int) × Int × Int × (List (List Int)) × (List Int) × Int × Int × (List Int) × Int × Int) → Option R) (ex : (((List Int) × Int × Int × (List (List Int)) × (List Int) × Int × Int × (List Int) × Int × Int)) → Option R) => P.tape_Parts_r5 x.1 x.2.1 x.2.2.1 x.2.2.2.1 x.2.2.2.2.1 x.2.2.2.2.2.1 x.2.2.2.2.2.2.1 x.2.2.2.2.2.2.2.1 x.2.2.2.2.2.2.2.2.1 x.2.2.2.2.2.2.2.2.2 (fun v17 v18 v19 h3 h0_0 h0_1 h1_1 h2_0 h2_1 h2_2 => next (v17, v18, v19, h3, h0_0, h0_1, h1_1, h2_0, h2_1, h2_2)) (fun v17 v18 v19 h3 h0_0 h0_1 h1_1 h2_0 h2_1 h2_2 => ex ((v17, v18, v19, h3, h0_0, h0_1, h1_1, h2_0, h2_1, h2_2)))) x (E5 K)) := by
  unfold L5
  cases V5 st with
  | none => rfl
  | some x => simp only [P.tape_Parts_l5_eq]; rfl
theorem loop5 : LoopOk D (loopAt Try.f17 5) := loopOk_lp (X := (List Int) × Int × Int × (List (List Int)) × (List Int) × Int × Int × (List Int) × Int × Int) (Y := ((List Int) × Int × Int × (List (List Int)) × (List Int) × Int × Int × (List Int) × Int × Int)) (fun x => S5 x.1 x.2.1 x.2.2.1 x.2.2.2.1 x.2.2.2.2.1 x.2.2.2.2.2.1 x.2.2.2.2.2.2.1 x.2.2.2.2.2.2.2.1 x.2.2.2.2.2.2.2.2.1 x.2.2.2.2.2.2.2.2.2) V5_ok (stp := (fun (x : (List Int) × Int × Int × (List (List Int)) × (List Int) × Int × Int × (List Int) × Int × Int) (next : ((List Int) × Int × Int × (List (List Int)) × (List Int) × Int × Int × (List Int) × Int × Int) → Option R) (ex : (((List Int) × Int × Int × (List (List Int)) × (List Int) × Int × Int × (List Int) × Int × Int)) → Option R) => P.tape_Parts_r5 x.1 x.2.1 x.2.2.1 x.2.2.2.1 x.2.2.2.2.1 x.2.2.2.2.2.1 x.2.2.2.2.2.2.1 x.2.2.2.2.2.2.2.1 x.2.2.2.2.2.2.2.2.1 x.2.2.2.2.2.2.2.2.2 (fun v17 v18 v19 h3 h0_0 h0_1 h1_1 h2_0 h2_1 h2_2 => next (v17, v18, v19, h3, h0_0, h0_1, h1_1, h2_0, h2_1, h2_2)) (fun v17 v18 v19 h3 h0_0 h0_1 h1_1 h2_0 h2_1 h2_2 => ex ((v17, v18, v19, h3, h0_0, h0_1, h1_1, h2_0, h2_1, h2_2))))) (enc := E5) (L := L5) (by kernel_rfl) lq5 round5
theorem body (a0_Bytes : List Int) (a0_At : Int) (a1 : List Int) (K : AVal → Option R) : bodyA D Try.f17 [.agg [.sl (.ints .u8 []), .any], .fr 22 (.rows .u8 []), .any] [.agg [.sl (.ints .u8 a0_Bytes), .v (.int .i64 a0_At)], .sl (.ints .i64 a1)] K = P.tape_Parts a0_Bytes a0_At a1 (fun r0_Bytes r0_At r1 r2 => K (.tuple [.agg [.sl (.ints .u8 r0_Bytes), .v (.int .i64 r0_At)], .fr 22 (.rows .u8 r1), .v (.int .i64 r2)])) := by
  rw [P.tape_Parts_eq]
  kernel_rfl
theorem loops : loopsOf (Try.f17.body.getD .skip) = [loopAt Try.f17 5] := by kernel_rfl
theorem loops1 : loopsOf (Try.f68.body.getD .skip) = [] := by kernel_rfl
noncomputable def spec0 : Abs.Spec := fun args K => match args with
  | [.agg [.sl (.ints .u8 a0_Bytes), .v (.int .i64 a0_At)], .sl (.ints .i64 a1)] => P.tape_Parts a0_Bytes a0_At a1 (fun r0_Bytes r0_At r1 r2 => K (.tuple [.agg [.sl (.ints .u8 r0_Bytes), .v (.int .i64 r0_At)], .fr 22 (.rows .u8 r1), .v (.int .i64 r2)]))
  | _ => none
noncomputable def spec : Abs.Spec := fun args K => spec0 (coerL [.agg [.sl (.ints .u8 []), .any], .sl (.ints .i64 [])] args) K
theorem ok0 : Proved Try.prog [] 17 spec0 := by
  refine proved_of (D := D) (fn := Try.f17) (c := Try.f17.body.getD .skip) [.agg [.sl (.ints .u8 []), .any], .fr 22 (.rows .u8 []), .any] (by kernel_rfl) (globsPlain_of (by kernel_rfl)) (by kernel_rfl) (by kernel_rfl) (by kernel_rfl) ⟨tape_Fit.ok, slices_Clone_byte.ok, trivial⟩ ⟨run_of (D := D1) (D' := D) (fn := Try.f68) (c := Try.f68.body.getD .skip) rfl rfl (by kernel_rfl) (globsPlain_of (by kernel_rfl)) (by kernel_rfl) (by kernel_rfl) (by kernel_rfl) ⟨tape_Fit.ok, slices_Clone_byte.ok, trivial⟩ trivial (by rw [loops1]; exact trivial) (fun _ _ _ _ _ h => h), trivial⟩ ?_ ?_
  · rw [loops]; exact ⟨loop5, trivial⟩
  · intro args K r h
    unfold spec0 at h
    split at h
    · rw [body]; exact h
    · cases h
theorem ok : Proved Try.prog [] 17 spec := proved_coer _ ok0
end tape_Parts
end

section
open Go Go.Abs Go.Proofs
set_option maxRecDepth 100000
set_option linter.unusedVariables false
namespace slices_Equal_byte
def S4 (v0 : List Int) (v1 : List Int) (v12 : Int) (v13 : Int) : ASt := ⟨[(0, .sl (.ints .u8 v0)), (1, .sl (.ints .u8 v1)), (12, .v (.int .i64 v12)), (13, .v (.int .i64 v13))], [], 0, 26⟩
def V4 : ASt → Option ((List Int) × (List Int) × Int × Int)
  | ⟨[(0, .sl (.ints .u8 v0)), (1, .sl (.ints .u8 v1)), (12, .v (.int .i64 v12)), (13, .v (.int .i64 v13))], [], 0, 26⟩ => some (v0, v1, v12, v13)
  | _ => none
theorem V4_ok (st : ASt) (x : (List Int) × (List Int) × Int × Int) (h : V4 st = some x) : st = S4 x.1 x.2.1 x.2.2.1 x.2.2.2 := by
  unfold V4 at h
  split at h
  · cases h; rfl
  · cases h
noncomputable def L4 : LSpec := fun st K => match V4 st with
  | some x => P.slices_Equal_byte_l4 x.1 x.2.1 x.2.2.1 x.2.2.2 (fun v0 v1 v12 v13 => K (.exit 0) (S4 v0 v1 v12 v13)) (fun v4 => K .ret ⟨[(4, .v (.bool v4))], [], 0, 26⟩)
  | none => none
noncomputable def D : Ctx := ({ P := Try.prog, G := [], globs := [], hints := [(4, ⟨[0, 1, 12, 13], [], [4], []⟩)], loops := [(4, L4)], inl := [] } : Ctx)
def E4 (K : AExit → ASt → Option R) : (((List Int) × (List Int) × Int × Int) ⊕ ((Bool))) → Option R := (Sum.elim (fun x => K (.exit 0) (S4 x.1 x.2.1 x.2.2.1 x.2.2.2)) (fun x => K .ret ⟨[(4, .v (.bool x))], [], 0, 26⟩))
theorem round4 (K : AExit → ASt → Option R) (next : ASt → Option R) (x : (List Int) × (List Int) × Int × Int) : roundA D (loopAt Try.f69 4) K next (S4 x.1 x.2.1 x.2.2.1 x.2.2.2) = (fun (x : (List Int) × (List Int) × Int × Int) (next : ((List Int) × (List Int) × Int × Int) → Option R) (ex : (((List Int) × (List Int) × Int × Int) ⊕ ((Bool))) → Option R) => P.slices_Equal_byte_r4 x.1 x.2.1 x.2.2.1 x.2.2.2 (fun v0 v1 v12 v13 => next (v0, v1, v12, v13)) (fun v0 v1 v12 v13 => ex (.inl (v0, v1, v12, v13))) (fun v4 => ex (.inr v4))) x (fun x => next (S4 x.1 x.2.1 x.2.2.1 x.2.2.2)) (E4 K) := by kernel_rfl
theorem lq4 (st : ASt) (K : AExit → ASt → Option R) : L4 st K = vMap (V4 st) (fun x => lp (fun (x : (List Int) × (List Int) × Int × Int) (next : ((List Int) × (List Int) × Int × Int) → Option R) (ex : (((List Int) × (List Int) × Int × Int) ⊕ ((Bool))) → Option R) => P.slices_Equal_byte_r4 x.1 x.2.1 x.2.2.1 x.2.2.2 (fun v0 v1 v12 v13 => next (v0, v1, v12, v13)) (fun v0 v1 v12 v13 => ex (.inl (v0, v1, v12, v13))) (fun v4 => ex (.inr v4))) x (E4 K)) := by
  unfold L4
  cases V4 st with
  | none => rfl
  | some x => simp only [P.slices_Equal_byte_l4_eq]; rfl
theorem loop4 : LoopOk D (loopAt Try.f69 4) := loopOk_lp (X := (List Int) × (List Int) × Int × Int) (Y := ((List Int) × (List Int) × Int × Int) ⊕ ((Bool))) (fun x => S4 x.1 x.2.1 x.2.2.1 x.2.2.2) V4_ok (stp := (fun (x : (List Int) × (List Int) × Int × Int) (next : ((List Int) × (List Int) × Int × Int) → Option R) (ex : (((List Int) × (List Int) × Int × Int) ⊕ ((Bool))) → Option R) => P.slices_Equal_byte_r4 x.1 x.2.1 x.2.2.1 x.2.2.2 (fun v0 v1 v12 v13 => next (v0, v1, v12, v13)) (fun v0 v1 v12 v13 => ex (.inl (v0, v1, v12, v13))) (fun v4 => ex (.inr v4)))) (enc := E4) (L := L4) (by kernel_rfl) lq4 round4
theorem body (a0 : List Int) (a1 : List Int) (K : AVal → Option R) : bodyA D Try.f69 [.any] [.sl (.ints .u8 a0), .sl (.ints .u8 a1)] K = P.slices_Equal_byte a0 a1 (fun r0 => K (.v (.bool r0))) := by
  rw [P.slices_Equal_byte_eq]
  kernel_rfl
theorem loops : loopsOf (Try.f69.body.getD .skip) = [loopAt Try.f69 4] := by kernel_rfl
noncomputable def spec0 : Abs.Spec := fun args K => match args with
  | [.sl (.ints .u8 a0), .sl (.ints .u8 a1)] => P.slices_Equal_byte a0 a1 (fun r0 => K (.v (.bool r0)))
  | _ => none
noncomputable def spec : Abs.Spec := fun args K => spec0 (coerL [.sl (.ints .u8 []), .sl (.ints .u8 [])] args) K
theorem ok0 : Proved Try.prog [] 69 spec0 := by
  refine proved_of (D := D) (fn := Try.f69) (c := Try.f69.body.getD .skip) [.any] (by kernel_rfl) (globsPlain_of (by kernel_rfl)) (by kernel_rfl) (by kernel_rfl) (by kernel_rfl) trivial trivial ?_ ?_
  · rw [loops]; exact ⟨loop4, trivial⟩
  · intro args K r h
    unfold spec0 at h
    split at h
    · rw [body]; exact h
    · cases h
theorem ok : Proved Try.prog [] 69 spec := proved_coer _ ok0
end slices_Equal_byte
end

section
open Go Go.Abs Go.Proofs
set_option maxRecDepth 100000
set_option linter.unusedVariables false
namespace tape_Same
noncomputable def D : Ctx := ({ P := Try.prog, G := [(69, slices_Equal_byte.spec)], globs := [], hints := [], loops := [], inl := [] } : Ctx)
theorem body (a0_Bytes : List Int) (a0_At : Int) (a1_Bytes : List Int) (a1_At : Int) (K : AVal → Option R) : bodyA D Try.f28 [.any] [.agg [.sl (.ints .u8 a0_Bytes), .v (.int .i64 a0_At)], .agg [.sl (.ints .u8 a1_Bytes), .v (.int .i64 a1_At)]] K = P.tape_Same a0_Bytes a0_At a1_Bytes a1_At (fun r0 => K (.v (.bool r0))) := by
  rw [P.tape_Same_eq]
  kernel_rfl
theorem loops : loopsOf (Try.f28.body.getD .skip) = [] := by kernel_rfl
noncomputable def spec0 : Abs.Spec := fun args K => match args with
  | [.agg [.sl (.ints .u8 a0_Bytes), .v (.int .i64 a0_At)], .agg [.sl (.ints .u8 a1_Bytes), .v (.int .i64 a1_At)]] => P.tape_Same a0_Bytes a0_At a1_Bytes a1_At (fun r0 => K (.v (.bool r0)))
  | _ => none
noncomputable def spec : Abs.Spec := fun args K => spec0 (coerL [.agg [.sl (.ints .u8 []), .any], .agg [.sl (.ints .u8 []), .any]] args) K
theorem ok0 : Proved Try.prog [] 28 spec0 := by
  refine proved_of (D := D) (fn := Try.f28) (c := Try.f28.body.getD .skip) [.any] (by kernel_rfl) (globsPlain_of (by kernel_rfl)) (by kernel_rfl) (by kernel_rfl) (by kernel_rfl) ⟨slices_Equal_byte.ok, trivial⟩ trivial ?_ ?_
  · rw [loops]; exact trivial
  · intro args K r h
    unfold spec0 at h
    split at h
    · rw [body]; exact h
    · cases h
theorem ok : Proved Try.prog [] 28 spec := proved_coer _ ok0
end tape_Same
end

section
open Go Go.Abs Go.Proofs
set_option maxRecDepth 100000
set_option linter.unusedVariables false
namespace L13_TapeTells
noncomputable def D : Ctx := ({ P := Try.prog, G := [(15, L13_awake.spec), (16, tape_Take.spec), (17, tape_Parts.spec), (18, R13_Same.spec), (19, R01_Same.spec), (21, tape_Left.spec), (22, R13_Take.spec), (23, R13_Parts.spec), (24, tape_Fit.spec), (25, R13_Fit.spec), (26, R13_Left.spec), (27, R04_Same.spec), (28, tape_Same.spec)], globs := [], hints := [], loops := [], inl := [] } : Ctx)
theorem body (a0_Bytes : List Int) (a0_At : Int) (a1_Bytes : List Int) (a1_At : Int) (a2 : Int) (a3 : List Int) (K : AVal → Option R) : bodyA D Try.f4 [.any] [.agg [.sl (.ints .u8 a0_Bytes), .v (.int .i64 a0_At)], .agg [.sl (.ints .u8 a1_Bytes), .v (.int .i64 a1_At)], .v (.int .i64 a2), .sl (.ints .i64 a3)] K = P.L13_TapeTells a0_Bytes a0_At a1_Bytes a1_At a2 a3 (fun r0 => K (.v (.bool r0))) := by
  rw [P.L13_TapeTells_eq]
  kernel_rfl
theorem loops : loopsOf (Try.f4.body.getD .skip) = [] := by kernel_rfl
noncomputable def spec0 : Abs.Spec := fun args K => match args with
  | [.agg [.sl (.ints .u8 a0_Bytes), .v (.int .i64 a0_At)], .agg [.sl (.ints .u8 a1_Bytes), .v (.int .i64 a1_At)], .v (.int .i64 a2), .sl (.ints .i64 a3)] => P.L13_TapeTells a0_Bytes a0_At a1_Bytes a1_At a2 a3 (fun r0 => K (.v (.bool r0)))
  | _ => none
noncomputable def spec : Abs.Spec := fun args K => spec0 (coerL [.agg [.sl (.ints .u8 []), .any], .agg [.sl (.ints .u8 []), .any], .any, .sl (.ints .i64 [])] args) K
theorem ok0 : Proved Try.prog [] 4 spec0 := by
  refine proved_of (D := D) (fn := Try.f4) (c := Try.f4.body.getD .skip) [.any] (by kernel_rfl) (globsPlain_of (by kernel_rfl)) (by kernel_rfl) (by kernel_rfl) (by kernel_rfl) ⟨L13_awake.ok, tape_Take.ok, tape_Parts.ok, R13_Same.ok, R01_Same.ok, tape_Left.ok, R13_Take.ok, R13_Parts.ok, tape_Fit.ok, R13_Fit.ok, R13_Left.ok, R04_Same.ok, tape_Same.ok, trivial⟩ trivial ?_ ?_
  · rw [loops]; exact trivial
  · intro args K r h
    unfold spec0 at h
    split at h
    · rw [body]; exact h
    · cases h
theorem ok : Proved Try.prog [] 4 spec := proved_coer _ ok0
end L13_TapeTells
end
