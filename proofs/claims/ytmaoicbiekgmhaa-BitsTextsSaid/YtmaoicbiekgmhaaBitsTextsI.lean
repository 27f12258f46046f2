/-
  BitsTexts, part I: an interpreter of my own over abstract values, the pure functions, the walks and the plain law.
-/

import Derived.Test.YtmaoicbiekgmhaaBitsTextsG
import Derived.Test.YtmaoicbiekgmhaaBitsTextsF
import Derived.Test.YtmaoicbiekgmhaaBitsTextsH
import Derived.Test.YtmaoicbiekgmhaaProg
import Derived.KernelRfl

section
open Go Go.Abs Go.Proofs
set_option maxRecDepth 100000
set_option linter.unusedVariables false
namespace slices_Grow_byte
noncomputable def D : Ctx := ({ P := Try.prog, G := [], globs := [], hints := [], loops := [], inl := [] } : Ctx)
theorem body (a1 : Int) (K : AVal → Option R) : bodyW D Try.f87 5 (.ints .u8 []) [.v (.slice none 0 0), .v (.int .i64 a1)] K = P.slices_Grow_byte a1 (fun r0 => K (.fr 5 (.ints .u8 r0))) := by
  rw [P.slices_Grow_byte_eq]
  kernel_rfl
theorem loops : loopsOf (Try.f87.body.getD .skip) = [] := by kernel_rfl
noncomputable def spec0 : Abs.Spec := fun args K => match args with
  | [.v (.slice none 0 0), .v (.int .i64 a1)] => P.slices_Grow_byte a1 (fun r0 => K (.fr 5 (.ints .u8 r0)))
  | _ => none
noncomputable def spec : Abs.Spec := spec0
theorem ok0 : Proved Try.prog [] 87 spec0 := by
  refine provedW_of (D := D) (fn := Try.f87) (c := Try.f87.body.getD .skip) 5 (.ints .u8 []) (by kernel_rfl) (globsPlain_of (by kernel_rfl)) (by kernel_rfl) (by kernel_rfl) (by kernel_rfl) trivial trivial ?_ ?_
  · rw [loops]; exact trivial
  · intro args K r h
    unfold spec0 at h
    split at h
    · rw [body]; exact h
    · cases h
theorem ok : Proved Try.prog [] 87 spec := ok0
end slices_Grow_byte
end

section
open Go Go.Abs Go.Proofs
set_option maxRecDepth 100000
set_option linter.unusedVariables false
namespace slices_Concat_byte
def S3 (v0 : List (List Int)) (v3 : Int) (v9 : List (List Int)) (v10 : Int) (v11 : Int) : ASt := ⟨[(0, .sl (.rows .u8 v0)), (3, .v (.int .i64 v3)), (9, .sl (.rows .u8 v9)), (10, .v (.int .i64 v10)), (11, .v (.int .i64 v11))], [], 0, 36⟩
def V3 : ASt → Option ((List (List Int)) × Int × (List (List Int)) × Int × Int)
  | ⟨[(0, .sl (.rows .u8 v0)), (3, .v (.int .i64 v3)), (9, .sl (.rows .u8 v9)), (10, .v (.int .i64 v10)), (11, .v (.int .i64 v11))], [], 0, 36⟩ => some (v0, v3, v9, v10, v11)
  | _ => none
theorem V3_ok (st : ASt) (x : (List (List Int)) × Int × (List (List Int)) × Int × Int) (h : V3 st = some x) : st = S3 x.1 x.2.1 x.2.2.1 x.2.2.2.1 x.2.2.2.2 := by
  unfold V3 at h
  split at h
  · cases h; rfl
  · cases h
def S11 (v25 : List (List Int)) (v26 : Int) (v27 : Int) (h1 : List Int) : ASt := ⟨[(6, .own 1), (25, .sl (.rows .u8 v25)), (26, .v (.int .i64 v26)), (27, .v (.int .i64 v27))], [(1, some ⟨.row 5 (.ints .u8 h1), false⟩), (0, none)], 2, 36⟩
def V11 : ASt → Option ((List (List Int)) × Int × Int × (List Int))
  | ⟨[(6, .own 1), (25, .sl (.rows .u8 v25)), (26, .v (.int .i64 v26)), (27, .v (.int .i64 v27))], [(1, some ⟨.row 5 (.ints .u8 h1), false⟩), (0, none)], 2, 36⟩ => some (v25, v26, v27, h1)
  | _ => none
theorem V11_ok (st : ASt) (x : (List (List Int)) × Int × Int × (List Int)) (h : V11 st = some x) : st = S11 x.1 x.2.1 x.2.2.1 x.2.2.2 := by
  unfold V11 at h
  split at h
  · cases h; rfl
  · cases h
noncomputable def L3 : LSpec := fun st K => match V3 st with
  | some x => P.slices_Concat_byte_l3 x.1 x.2.1 x.2.2.1 x.2.2.2.1 x.2.2.2.2 (fun v0 v3 v9 v10 v11 => K (.exit 0) (S3 v0 v3 v9 v10 v11))
  | none => none
noncomputable def L11 : LSpec := fun st K => match V11 st with
  | some x => P.slices_Concat_byte_l11 x.1 x.2.1 x.2.2.1 x.2.2.2 (fun v25 v26 v27 h1 => K (.exit 2) (S11 v25 v26 v27 h1))
  | none => none
noncomputable def D : Ctx := ({ P := Try.prog, G := [(87, slices_Grow_byte.spec)], globs := [], hints := [(11, ⟨[25, 26, 27], [(6, 5, .ints .u8 [])], [2], []⟩), (3, ⟨[0, 3, 9, 10, 11], [], [2], []⟩)], loops := [(3, L3), (11, L11)], inl := [] } : Ctx)
def E3 (K : AExit → ASt → Option R) : (((List (List Int)) × Int × (List (List Int)) × Int × Int)) → Option R := (fun x => K (.exit 0) (S3 x.1 x.2.1 x.2.2.1 x.2.2.2.1 x.2.2.2.2))
theorem round3 (K : AExit → ASt → Option R) (next : ASt → Option R) (x : (List (List Int)) × Int × (List (List Int)) × Int × Int) : roundA D (loopAt Try.f77 3) K next (S3 x.1 x.2.1 x.2.2.1 x.2.2.2.1 x.2.2.2.2) = (fun (x : (List (List Int)) × Int × (List (List Int)) × Int × Int) (next : ((List (List Int)) × Int × (List (List Int)) × Int × Int) → Option R) (ex : (((List (List Int)) × Int × (List (List Int)) × Int × Int)) → Option R) => P.slices_Concat_byte_r3 x.1 x.2.1 x.2.2.1 x.2.2.2.1 x.2.2.2.2 (fun v0 v3 v9 v10 v11 => next (v0, v3, v9, v10, v11)) (fun v0 v3 v9 v10 v11 => ex ((v0, v3, v9, v10, v11)))) x (fun x => next (S3 x.1 x.2.1 x.2.2.1 x.2.2.2.1 x.2.2.2.2)) (E3 K) := by kernel_rfl
theorem lq3 (st : ASt) (K : AExit → ASt → Option R) : L3 st K = vMap (V3 st) (fun x => lp (fun (x : (List (List Int)) × Int × (List (List Int)) × Int × Int) (next : ((List (List Int)) × Int × (List (List Int)) × Int × Int) → Option R) (ex : (((List (List Int)) × Int × (List (List Int)) × Int × Int)) → Option R) => P.slices_Concat_byte_r3 x.1 x.2.1 x.2.2.1 x.2.2.2.1 x.2.2.2.2 (fun v0 v3 v9 v10 v11 => next (v0, v3, v9, v10, v11)) (fun v0 v3 v9 v10 v11 => ex ((v0, v3, v9, v10, v11)))) x (E3 K)) := by
  unfold L3
  cases V3 st with
  | none => rfl
  | some x => simp only [P.slices_Concat_byte_l3_eq]; rfl
theorem loop3 : LoopOk D (loopAt Try.f77 3) := loopOk_lp (X := (List (List Int)) × Int × (List (List Int)) × Int × Int) (Y := ((List (List Int)) × Int × (List (List Int)) × Int × Int)) (fun x => S3 x.1 x.2.1 x.2.2.1 x.2.2.2.1 x.2.2.2.2) V3_ok (stp := (fun (x : (List (List Int)) × Int × (List (List Int)) × Int × Int) (next : ((List (List Int)) × Int × (List (List Int)) × Int × Int) → Option R) (ex : (((List (List Int)) × Int × (List (List Int)) × Int × Int)) → Option R) => P.slices_Concat_byte_r3 x.1 x.2.1 x.2.2.1 x.2.2.2.1 x.2.2.2.2 (fun v0 v3 v9 v10 v11 => next (v0, v3, v9, v10, v11)) (fun v0 v3 v9 v10 v11 => ex ((v0, v3, v9, v10, v11))))) (enc := E3) (L := L3) (by kernel_rfl) lq3 round3
def E11 (K : AExit → ASt → Option R) : (((List (List Int)) × Int × Int × (List Int))) → Option R := (fun x => K (.exit 2) (S11 x.1 x.2.1 x.2.2.1 x.2.2.2))
theorem round11 (K : AExit → ASt → Option R) (next : ASt → Option R) (x : (List (List Int)) × Int × Int × (List Int)) : roundA D (loopAt Try.f77 11) K next (S11 x.1 x.2.1 x.2.2.1 x.2.2.2) = (fun (x : (List (List Int)) × Int × Int × (List Int)) (next : ((List (List Int)) × Int × Int × (List Int)) → Option R) (ex : (((List (List Int)) × Int × Int × (List Int))) → Option R) => P.slices_Concat_byte_r11 x.1 x.2.1 x.2.2.1 x.2.2.2 (fun v25 v26 v27 h1 => next (v25, v26, v27, h1)) (fun v25 v26 v27 h1 => ex ((v25, v26, v27, h1)))) x (fun x => next (S11 x.1 x.2.1 x.2.2.1 x.2.2.2)) (E11 K) := by kernel_rfl
theorem lq11 (st : ASt) (K : AExit → ASt → Option R) : L11 st K = vMap (V11 st) (fun x => lp (fun (x : (List (List Int)) × Int × Int × (List Int)) (next : ((List (List Int)) × Int × Int × (List Int)) → Option R) (ex : (((List (List Int)) × Int × Int × (List Int))) → Option R) => P.slices_Concat_byte_r11 x.1 x.2.1 x.2.2.1 x.2.2.2 (fun v25 v26 v27 h1 => next (v25, v26, v27, h1)) (fun v25 v26 v27 h1 => ex ((v25, v26, v27, h1)))) x (E11 K)) := by
  unfold L11
  cases V11 st with
  | none => rfl
  | some x => simp only [P.slices_Concat_byte_l11_eq]; rfl
theorem loop11 : LoopOk D (loopAt Try.f77 11) := loopOk_lp (X := (List (List Int)) × Int × Int × (List Int)) (Y := ((List (List Int)) × Int × Int × (List Int))) (fun x => S11 x.1 x.2.1 x.2.2.1 x.2.2.2) V11_ok (stp := (fun (x : (List (List Int)) × Int × Int × (List Int)) (next : ((List (List Int)) × Int × Int × (List Int)) → Option R) (ex : (((List (List Int)) × Int × Int × (List Int))) → Option R) => P.slices_Concat_byte_r11 x.1 x.2.1 x.2.2.1 x.2.2.2 (fun v25 v26 v27 h1 => next (v25, v26, v27, h1)) (fun v25 v26 v27 h1 => ex ((v25, v26, v27, h1))))) (enc := E11) (L := L11) (by kernel_rfl) lq11 round11
theorem body (a0 : List (List Int)) (K : AVal → Option R) : bodyA D Try.f77 [.fr 5 (.ints .u8 [])] [.sl (.rows .u8 a0)] K = P.slices_Concat_byte a0 (fun r0 => K (.fr 5 (.ints .u8 r0))) := by
  rw [P.slices_Concat_byte_eq]
  kernel_rfl
theorem loops : loopsOf (Try.f77.body.getD .skip) = [loopAt Try.f77 3, loopAt Try.f77 11] := by kernel_rfl
noncomputable def spec0 : Abs.Spec := fun args K => match args with
  | [.sl (.rows .u8 a0)] => P.slices_Concat_byte a0 (fun r0 => K (.fr 5 (.ints .u8 r0)))
  | _ => none
noncomputable def spec : Abs.Spec := fun args K => spec0 (coerL [.sl (.rows .u8 [])] args) K
theorem ok0 : Proved Try.prog [] 77 spec0 := by
  refine proved_of (D := D) (fn := Try.f77) (c := Try.f77.body.getD .skip) [.fr 5 (.ints .u8 [])] (by kernel_rfl) (globsPlain_of (by kernel_rfl)) (by kernel_rfl) (by kernel_rfl) (by kernel_rfl) ⟨slices_Grow_byte.ok, trivial⟩ trivial ?_ ?_
  · rw [loops]; exact ⟨loop3, loop11, trivial⟩
  · intro args K r h
    unfold spec0 at h
    split at h
    · rw [body]; exact h
    · cases h
theorem ok : Proved Try.prog [] 77 spec := proved_coer _ ok0
end slices_Concat_byte
end

section
open Go Go.Abs Go.Proofs
set_option maxRecDepth 100000
set_option linter.unusedVariables false
namespace bits_Join
noncomputable def D : Ctx := ({ P := Try.prog, G := [(77, slices_Concat_byte.spec)], globs := [], hints := [], loops := [], inl := [] } : Ctx)
theorem body (a0 : List (List Int)) (K : AVal → Option R) : bodyA D Try.f53 [.fr 5 (.ints .u8 [])] [.sl (.rows .u8 a0)] K = P.bits_Join a0 (fun r0 => K (.fr 5 (.ints .u8 r0))) := by
  rw [P.bits_Join_eq]
  kernel_rfl
theorem loops : loopsOf (Try.f53.body.getD .skip) = [] := by kernel_rfl
noncomputable def spec0 : Abs.Spec := fun args K => match args with
  | [.sl (.rows .u8 a0)] => P.bits_Join a0 (fun r0 => K (.fr 5 (.ints .u8 r0)))
  | _ => none
noncomputable def spec : Abs.Spec := fun args K => spec0 (coerL [.sl (.rows .u8 [])] args) K
theorem ok0 : Proved Try.prog [] 53 spec0 := by
  refine proved_of (D := D) (fn := Try.f53) (c := Try.f53.body.getD .skip) [.fr 5 (.ints .u8 [])] (by kernel_rfl) (globsPlain_of (by kernel_rfl)) (by kernel_rfl) (by kernel_rfl) (by kernel_rfl) ⟨slices_Concat_byte.ok, trivial⟩ trivial ?_ ?_
  · rw [loops]; exact trivial
  · intro args K r h
    unfold spec0 at h
    split at h
    · rw [body]; exact h
    · cases h
theorem ok : Proved Try.prog [] 53 spec := proved_coer _ ok0
end bits_Join
end

section
open Go Go.Abs Go.Proofs
set_option maxRecDepth 100000
set_option linter.unusedVariables false
namespace bits_Same
def S5 (v0 : List Int) (v1 : List Int) (v5 : Int) (v13 : Int) (v14 : Int) : ASt := ⟨[(0, .sl (.ints .u8 v0)), (1, .sl (.ints .u8 v1)), (5, .v (.int .u8 v5)), (13, .v (.int .i64 v13)), (14, .v (.int .i64 v14))], [], 0, 31⟩
def V5 : ASt → Option ((List Int) × (List Int) × Int × Int × Int)
  | ⟨[(0, .sl (.ints .u8 v0)), (1, .sl (.ints .u8 v1)), (5, .v (.int .u8 v5)), (13, .v (.int .i64 v13)), (14, .v (.int .i64 v14))], [], 0, 31⟩ => some (v0, v1, v5, v13, v14)
  | _ => none
theorem V5_ok (st : ASt) (x : (List Int) × (List Int) × Int × Int × Int) (h : V5 st = some x) : st = S5 x.1 x.2.1 x.2.2.1 x.2.2.2.1 x.2.2.2.2 := by
  unfold V5 at h
  split at h
  · cases h; rfl
  · cases h
noncomputable def L5 : LSpec := fun st K => match V5 st with
  | some x => P.bits_Same_l5 x.1 x.2.1 x.2.2.1 x.2.2.2.1 x.2.2.2.2 (fun v0 v1 v5 v13 v14 => K (.exit 0) (S5 v0 v1 v5 v13 v14))
  | none => none
noncomputable def D : Ctx := ({ P := Try.prog, G := [], globs := [], hints := [(5, ⟨[0, 1, 5, 13, 14], [], [4], []⟩)], loops := [(5, L5)], inl := [] } : Ctx)
def E5 (K : AExit → ASt → Option R) : (((List Int) × (List Int) × Int × Int × Int)) → Option R := (fun x => K (.exit 0) (S5 x.1 x.2.1 x.2.2.1 x.2.2.2.1 x.2.2.2.2))
theorem round5 (K : AExit → ASt → Option R) (next : ASt → Option R) (x : (List Int) × (List Int) × Int × Int × Int) : roundA D (loopAt Try.f56 5) K next (S5 x.1 x.2.1 x.2.2.1 x.2.2.2.1 x.2.2.2.2) = (fun (x : (List Int) × (List Int) × Int × Int × Int) (next : ((List Int) × (List Int) × Int × Int × Int) → Option R) (ex : (((List Int) × (List Int) × Int × Int × Int)) → Option R) => P.bits_Same_r5 x.1 x.2.1 x.2.2.1 x.2.2.2.1 x.2.2.2.2 (fun v0 v1 v5 v13 v14 => next (v0, v1, v5, v13, v14)) (fun v0 v1 v5 v13 v14 => ex ((v0, v1, v5, v13, v14)))) x (fun x => next (S5 x.1 x.2.1 x.2.2.1 x.2.2.2.1 x.2.2.2.2)) (E5 K) := by kernel_rfl
theorem lq5 (st : ASt) (K : AExit → ASt → Option R) : L5 st K = vMap (V5 st) (fun x => lp (fun (x : (List Int) × (List Int) × Int × Int × Int) (next : ((List Int) × (List Int) × Int × Int × Int) → Option R) (ex : (((List Int) × (List Int) × Int × Int × Int)) → Option R) => P.bits_Same_r5 x.1 x.2.1 x.2.2.1 x.2.2.2.1 x.2.2.2.2 (fun v0 v1 v5 v13 v14 => next (v0, v1, v5, v13, v14)) (fun v0 v1 v5 v13 v14 => ex ((v0, v1, v5, v13, v14)))) x (E5 K)) := by
  unfold L5
  cases V5 st with
  | none => rfl
  | some x => simp only [P.bits_Same_l5_eq]; rfl
theorem loop5 : LoopOk D (loopAt Try.f56 5) := loopOk_lp (X := (List Int) × (List Int) × Int × Int × Int) (Y := ((List Int) × (List Int) × Int × Int × Int)) (fun x => S5 x.1 x.2.1 x.2.2.1 x.2.2.2.1 x.2.2.2.2) V5_ok (stp := (fun (x : (List Int) × (List Int) × Int × Int × Int) (next : ((List Int) × (List Int) × Int × Int × Int) → Option R) (ex : (((List Int) × (List Int) × Int × Int × Int)) → Option R) => P.bits_Same_r5 x.1 x.2.1 x.2.2.1 x.2.2.2.1 x.2.2.2.2 (fun v0 v1 v5 v13 v14 => next (v0, v1, v5, v13, v14)) (fun v0 v1 v5 v13 v14 => ex ((v0, v1, v5, v13, v14))))) (enc := E5) (L := L5) (by kernel_rfl) lq5 round5
theorem body (a0 : List Int) (a1 : List Int) (K : AVal → Option R) : bodyA D Try.f56 [.any] [.sl (.ints .u8 a0), .sl (.ints .u8 a1)] K = P.bits_Same a0 a1 (fun r0 => K (.v (.bool r0))) := by
  rw [P.bits_Same_eq]
  kernel_rfl
theorem loops : loopsOf (Try.f56.body.getD .skip) = [loopAt Try.f56 5] := by kernel_rfl
noncomputable def spec0 : Abs.Spec := fun args K => match args with
  | [.sl (.ints .u8 a0), .sl (.ints .u8 a1)] => P.bits_Same a0 a1 (fun r0 => K (.v (.bool r0)))
  | _ => none
noncomputable def spec : Abs.Spec := fun args K => spec0 (coerL [.sl (.ints .u8 []), .sl (.ints .u8 [])] args) K
theorem ok0 : Proved Try.prog [] 56 spec0 := by
  refine proved_of (D := D) (fn := Try.f56) (c := Try.f56.body.getD .skip) [.any] (by kernel_rfl) (globsPlain_of (by kernel_rfl)) (by kernel_rfl) (by kernel_rfl) (by kernel_rfl) trivial trivial ?_ ?_
  · rw [loops]; exact ⟨loop5, trivial⟩
  · intro args K r h
    unfold spec0 at h
    split at h
    · rw [body]; exact h
    · cases h
theorem ok : Proved Try.prog [] 56 spec := proved_coer _ ok0
end bits_Same
end

section
open Go Go.Abs Go.Proofs
set_option maxRecDepth 100000
set_option linter.unusedVariables false
namespace slices_Clone_byte
noncomputable def D : Ctx := { P := Try.prog, G := [], globs := [], hints := [], loops := [] }
noncomputable def c : Code := Try.f78.body.getD .skip
noncomputable def o0 : Oper := (regOps (sq1 c)).getD 0 anOper
noncomputable def o1 : Oper := (regOps (sq1 (sq1 (sq2 c)))).getD 0 anOper
noncomputable def o2 : Oper := (regOps (sq1 (sq1 (sq2 c)))).getD 1 anOper
noncomputable def X : Code := condX (sq2 (sq1 (sq2 c)))
noncomputable def rest : Code := sq2 (sq2 c)
noncomputable def ox : Oper := (regOps (sq1 X)).getD 0 anOper
theorem rest_eq (a0 : List Int) : codeA D rest ⟨[(0, .sl (.ints .u8 a0)), (2, .v (.slice none 0 0))], [], 0, Try.f78.ntmps⟩ (outK D [.fr 5 (.ints .u8 a0)] Try.f78) = br (decide ((0 + a0.length) * 1 ≤ 140737488355328)) (some (.fr 5 (.ints .u8 a0))) none := by kernel_rfl
noncomputable def spec0 : Abs.Spec := fun args K => match args with
  | [.sl (.ints .u8 a0)] => P.slices_Clone_byte a0 (fun a0 => K (.fr 5 (.ints .u8 a0)))
  | _ => none
theorem body_eq : Try.f78.body = some (.seq (.region 0 #[o0] false) (.seq (.seq (.region 1 #[o1, o2] false) (.cond (.tmp 4) X .skip)) rest)) := by kernel_rfl
theorem ok0 : Proved Try.prog [] 78 spec0 := by
  refine ⟨⟨Try.f78, by kernel_rfl, by kernel_rfl, by kernel_rfl⟩, fun args K r h => ?_⟩
  unfold spec0 at h
  split at h
  · rename_i a0
    unfold P.slices_Clone_byte at h
    obtain ⟨hp, hK⟩ := pre_some h
    refine ⟨_, hK, clone_ok (D := D) (fn := Try.f78) (t := 22) (e := 5) trivial (globsPlain_of (by kernel_rfl)) trivial (by kernel_rfl) (by kernel_rfl) body_eq ⟨by kernel_rfl, by kernel_rfl, by kernel_rfl⟩ ⟨by kernel_rfl, by kernel_rfl, by kernel_rfl⟩ ⟨by kernel_rfl, by kernel_rfl, by kernel_rfl⟩ (by kernel_rfl) (by decide +kernel) (by kernel_rfl) (by kernel_rfl) ⟨2, ox, by kernel_rfl, by kernel_rfl, by kernel_rfl, by kernel_rfl⟩ (by kernel_rfl) ?_⟩
    rw [rest_eq, br_pos (by omega)]
  · cases h
noncomputable def spec : Abs.Spec := fun args K => spec0 (coerL [.sl (.ints .u8 [])] args) K
theorem ok : Proved Try.prog [] 78 spec := proved_coer _ ok0
end slices_Clone_byte
end

section
open Go Go.Abs Go.Proofs
set_option maxRecDepth 100000
set_option linter.unusedVariables false
namespace bits_Xor
def S3 (v1 : List Int) (v16 : Int) (v17 : Int) (h0 : List Int) : ASt := ⟨[(1, .sl (.ints .u8 v1)), (5, .own 0), (16, .v (.int .i64 v16)), (17, .v (.int .i64 v17))], [(0, some ⟨.row 5 (.ints .u8 h0), false⟩)], 1, 32⟩
def V3 : ASt → Option ((List Int) × Int × Int × (List Int))
  | ⟨[(1, .sl (.ints .u8 v1)), (5, .own 0), (16, .v (.int .i64 v16)), (17, .v (.int .i64 v17))], [(0, some ⟨.row 5 (.ints .u8 h0), false⟩)], 1, 32⟩ => some (v1, v16, v17, h0)
  | _ => none
theorem V3_ok (st : ASt) (x : (List Int) × Int × Int × (List Int)) (h : V3 st = some x) : st = S3 x.1 x.2.1 x.2.2.1 x.2.2.2 := by
  unfold V3 at h
  split at h
  · cases h; rfl
  · cases h
noncomputable def L3 : LSpec := fun st K => match V3 st with
  | some x => P.bits_Xor_l3 x.1 x.2.1 x.2.2.1 x.2.2.2 (fun v1 v16 v17 h0 => K (.exit 0) (S3 v1 v16 v17 h0))
  | none => none
noncomputable def D : Ctx := ({ P := Try.prog, G := [(78, slices_Clone_byte.spec)], globs := [], hints := [(3, ⟨[1, 5, 16, 17], [], [4], []⟩)], loops := [(3, L3)], inl := [] } : Ctx)
def E3 (K : AExit → ASt → Option R) : (((List Int) × Int × Int × (List Int))) → Option R := (fun x => K (.exit 0) (S3 x.1 x.2.1 x.2.2.1 x.2.2.2))
theorem round3 (K : AExit → ASt → Option R) (next : ASt → Option R) (x : (List Int) × Int × Int × (List Int)) : roundA D (loopAt Try.f54 3) K next (S3 x.1 x.2.1 x.2.2.1 x.2.2.2) = (fun (x : (List Int) × Int × Int × (List Int)) (next : ((List Int) × Int × Int × (List Int)) → Option R) (ex : (((List Int) × Int × Int × (List Int))) → Option R) => P.bits_Xor_r3 x.1 x.2.1 x.2.2.1 x.2.2.2 (fun v1 v16 v17 h0 => next (v1, v16, v17, h0)) (fun v1 v16 v17 h0 => ex ((v1, v16, v17, h0)))) x (fun x => next (S3 x.1 x.2.1 x.2.2.1 x.2.2.2)) (E3 K) := by kernel_rfl
theorem lq3 (st : ASt) (K : AExit → ASt → Option R) : L3 st K = vMap (V3 st) (fun x => lp (fun (x : (List Int) × Int × Int × (List Int)) (next : ((List Int) × Int × Int × (List Int)) → Option R) (ex : (((List Int) × Int × Int × (List Int))) → Option R) => P.bits_Xor_r3 x.1 x.2.1 x.2.2.1 x.2.2.2 (fun v1 v16 v17 h0 => next (v1, v16, v17, h0)) (fun v1 v16 v17 h0 => ex ((v1, v16, v17, h0)))) x (E3 K)) := by
  unfold L3
  cases V3 st with
  | none => rfl
  | some x => simp only [P.bits_Xor_l3_eq]; rfl
theorem loop3 : LoopOk D (loopAt Try.f54 3) := loopOk_lp (X := (List Int) × Int × Int × (List Int)) (Y := ((List Int) × Int × Int × (List Int))) (fun x => S3 x.1 x.2.1 x.2.2.1 x.2.2.2) V3_ok (stp := (fun (x : (List Int) × Int × Int × (List Int)) (next : ((List Int) × Int × Int × (List Int)) → Option R) (ex : (((List Int) × Int × Int × (List Int))) → Option R) => P.bits_Xor_r3 x.1 x.2.1 x.2.2.1 x.2.2.2 (fun v1 v16 v17 h0 => next (v1, v16, v17, h0)) (fun v1 v16 v17 h0 => ex ((v1, v16, v17, h0))))) (enc := E3) (L := L3) (by kernel_rfl) lq3 round3
theorem body (a0 : List Int) (a1 : List Int) (K : AVal → Option R) : bodyA D Try.f54 [.fr 5 (.ints .u8 [])] [.sl (.ints .u8 a0), .sl (.ints .u8 a1)] K = P.bits_Xor a0 a1 (fun r0 => K (.fr 5 (.ints .u8 r0))) := by
  rw [P.bits_Xor_eq]
  kernel_rfl
theorem loops : loopsOf (Try.f54.body.getD .skip) = [loopAt Try.f54 3] := by kernel_rfl
noncomputable def spec0 : Abs.Spec := fun args K => match args with
  | [.sl (.ints .u8 a0), .sl (.ints .u8 a1)] => P.bits_Xor a0 a1 (fun r0 => K (.fr 5 (.ints .u8 r0)))
  | _ => none
noncomputable def spec : Abs.Spec := fun args K => spec0 (coerL [.sl (.ints .u8 []), .sl (.ints .u8 [])] args) K
theorem ok0 : Proved Try.prog [] 54 spec0 := by
  refine proved_of (D := D) (fn := Try.f54) (c := Try.f54.body.getD .skip) [.fr 5 (.ints .u8 [])] (by kernel_rfl) (globsPlain_of (by kernel_rfl)) (by kernel_rfl) (by kernel_rfl) (by kernel_rfl) ⟨slices_Clone_byte.ok, trivial⟩ trivial ?_ ?_
  · rw [loops]; exact ⟨loop3, trivial⟩
  · intro args K r h
    unfold spec0 at h
    split at h
    · rw [body]; exact h
    · cases h
theorem ok : Proved Try.prog [] 54 spec := proved_coer _ ok0
end bits_Xor
end

section
open Go Go.Abs Go.Proofs
set_option maxRecDepth 100000
set_option linter.unusedVariables false
namespace L01_BitsTexts
def S5 (v0 : List Int) (v1 : List Int) (v2 : List (List Int)) (v7 : Int) (v22 : List (List Int)) (v23 : Int) (v24 : Int) : ASt := ⟨[(0, .sl (.ints .u8 v0)), (1, .sl (.ints .u8 v1)), (2, .sl (.rows .u8 v2)), (7, .v (.int .i64 v7)), (22, .sl (.rows .u8 v22)), (23, .v (.int .i64 v23)), (24, .v (.int .i64 v24))], [], 0, 68⟩
def V5 : ASt → Option ((List Int) × (List Int) × (List (List Int)) × Int × (List (List Int)) × Int × Int)
  | ⟨[(0, .sl (.ints .u8 v0)), (1, .sl (.ints .u8 v1)), (2, .sl (.rows .u8 v2)), (7, .v (.int .i64 v7)), (22, .sl (.rows .u8 v22)), (23, .v (.int .i64 v23)), (24, .v (.int .i64 v24))], [], 0, 68⟩ => some (v0, v1, v2, v7, v22, v23, v24)
  | _ => none
theorem V5_ok (st : ASt) (x : (List Int) × (List Int) × (List (List Int)) × Int × (List (List Int)) × Int × Int) (h : V5 st = some x) : st = S5 x.1 x.2.1 x.2.2.1 x.2.2.2.1 x.2.2.2.2.1 x.2.2.2.2.2.1 x.2.2.2.2.2.2 := by
  unfold V5 at h
  split at h
  · cases h; rfl
  · cases h
noncomputable def L5 : LSpec := fun st K => match V5 st with
  | some x => P.L01_BitsTexts_l5 x.1 x.2.1 x.2.2.1 x.2.2.2.1 x.2.2.2.2.1 x.2.2.2.2.2.1 x.2.2.2.2.2.2 (fun v0 v1 v2 v7 v22 v23 v24 => K (.exit 0) (S5 v0 v1 v2 v7 v22 v23 v24)) (fun v6 => K .ret ⟨[(6, .v (.bool v6))], [], 0, 68⟩)
  | none => none
noncomputable def D : Ctx := ({ P := Try.prog, G := [(19, R01_Same.spec), (20, R01_Join.spec), (29, L01_awake.spec), (53, bits_Join.spec), (54, bits_Xor.spec), (55, R01_Xor.spec), (56, bits_Same.spec)], globs := [], hints := [(5, ⟨[0, 1, 2, 7, 22, 23, 24], [], [6], []⟩)], loops := [(5, L5)], inl := [] } : Ctx)
def E5 (K : AExit → ASt → Option R) : (((List Int) × (List Int) × (List (List Int)) × Int × (List (List Int)) × Int × Int) ⊕ ((Bool))) → Option R := (Sum.elim (fun x => K (.exit 0) (S5 x.1 x.2.1 x.2.2.1 x.2.2.2.1 x.2.2.2.2.1 x.2.2.2.2.2.1 x.2.2.2.2.2.2)) (fun x => K .ret ⟨[(6, .v (.bool x))], [], 0, 68⟩))
theorem round5 (K : AExit → ASt → Option R) (next : ASt → Option R) (x : (List Int) × (List Int) × (List (List Int)) × Int × (List (List Int)) × Int × Int) : roundA D (loopAt Try.f12 5) K next (S5 x.1 x.2.1 x.2.2.1 x.2.2.2.1 x.2.2.2.2.1 x.2.2.2.2.2.1 x.2.2.2.2.2.2) = (fun (x : (List Int) × (List Int) × (List (List Int)) × Int × (List (List Int)) × Int × Int) (next : ((List Int) × (List Int) × (List (List Int)) × Int × (List (List Int)) × Int × Int) → Option R) (ex : (((List Int) × (List Int) × (List (List Int)) × Int × (List (List Int)) × Int × Int) ⊕ ((Bool))) → Option R) => P.L01_BitsTexts_r5 x.1 x.2.1 x.2.2.1 x.2.2.2.1 x.2.2.2.2.1 x.2.2.2.2.2.1 x.2.2.2.2.2.2 (fun v0 v1 v2 v7 v22 v23 v24 => next (v0, v1, v2, v7, v22, v23, v24)) (fun v0 v1 v2 v7 v22 v23 v24 => ex (.inl (v0, v1, v2, v7, v22, v23, v24))) (fun v6 => ex (.inr v6))) x (fun x => next (S5 x.1 x.2.1 x.2.2.1 x.2.2.2.1 x.2.2.2.2.1 x.2.2.2.2.2.1 x.2.2.2.2.2.2)) (E5 K) := by kernel_rfl
theorem lq5 (st : ASt) (K : AExit → ASt → Option R) : L5 st K = vMap (V5 st) (fun x => lp (fun (x : (List Int) × (List Int) × (List (List Int)) × Int × (List (List Int)) × Int × Int) (next : ((List Int) × (List Int) × (List (List Int)) × Int × (List (List Int)) × Int × Int) → Option R) (ex : (((List Int) × (List Int) × (List (List Int)) × Int × (List (List Int)) × Int × Int) ⊕ ((Bool))) → Option R) => P.L01_BitsTexts_r5 x.1 x.2.1 x.2.2.1 x.2.2.2.1 x.2.2.2.2.1 x.2.2.2.2.2.1 x.2.2.2.2.2.2 (fun v0 v1 v2 v7 v22 v23 v24 => next (v0, v1, v2, v7, v22, v23, v24)) (fun v0 v1 v2 v7 v22 v23 v24 => ex (.inl (v0, v1, v2, v7, v22, v23, v24))) (fun v6 => ex (.inr v6))) x (E5 K)) := by
  unfold L5
  cases V5 st with
  | none => rfl
  | some x => simp only [P.L01_BitsTexts_l5_eq]; rfl
theorem loop5 : LoopOk D (loopAt Try.f12 5) := loopOk_lp (X := (List Int) × (List Int) × (List (List Int)) × Int × (List (List Int)) × Int × Int) (Y := ((List Int) × (List Int) × (List (List Int)) × Int × (List (List Int)) × Int × Int) ⊕ ((Bool))) (fun x => S5 x.1 x.2.1 x.2.2.1 x.2.2.2.1 x.2.2.2.2.1 x.2.2.2.2.2.1 x.2.2.2.2.2.2) V5_ok (stp := (fun (x : (List Int) × (List Int) × (List (List Int)) × Int × (List (List Int)) × Int × Int) (next : ((List Int) × (List Int) × (List (List Int)) × Int × (List (List Int)) × Int × Int) → Option R) (ex : (((List Int) × (List Int) × (List (List Int)) × Int × (List (List Int)) × Int × Int) ⊕ ((Bool))) → Option R) => P.L01_BitsTexts_r5 x.1 x.2.1 x.2.2.1 x.2.2.2.1 x.2.2.2.2.1 x.2.2.2.2.2.1 x.2.2.2.2.2.2 (fun v0 v1 v2 v7 v22 v23 v24 => next (v0, v1, v2, v7, v22, v23, v24)) (fun v0 v1 v2 v7 v22 v23 v24 => ex (.inl (v0, v1, v2, v7, v22, v23, v24))) (fun v6 => ex (.inr v6)))) (enc := E5) (L := L5) (by kernel_rfl) lq5 round5
theorem body (a0 : List Int) (a1 : List Int) (a2 : List (List Int)) (K : AVal → Option R) : bodyA D Try.f12 [.any] [.sl (.ints .u8 a0), .sl (.ints .u8 a1), .sl (.rows .u8 a2)] K = P.L01_BitsTexts a0 a1 a2 (fun r0 => K (.v (.bool r0))) := by
  rw [P.L01_BitsTexts_eq]
  kernel_rfl
theorem loops : loopsOf (Try.f12.body.getD .skip) = [loopAt Try.f12 5] := by kernel_rfl
noncomputable def spec0 : Abs.Spec := fun args K => match args with
  | [.sl (.ints .u8 a0), .sl (.ints .u8 a1), .sl (.rows .u8 a2)] => P.L01_BitsTexts a0 a1 a2 (fun r0 => K (.v (.bool r0)))
  | _ => none
noncomputable def spec : Abs.Spec := fun args K => spec0 (coerL [.sl (.ints .u8 []), .sl (.ints .u8 []), .sl (.rows .u8 [])] args) K
theorem ok0 : Proved Try.prog [] 12 spec0 := by
  refine proved_of (D := D) (fn := Try.f12) (c := Try.f12.body.getD .skip) [.any] (by kernel_rfl) (globsPlain_of (by kernel_rfl)) (by kernel_rfl) (by kernel_rfl) (by kernel_rfl) ⟨R01_Same.ok, R01_Join.ok, L01_awake.ok, bits_Join.ok, bits_Xor.ok, R01_Xor.ok, bits_Same.ok, trivial⟩ trivial ?_ ?_
  · rw [loops]; exact ⟨loop5, trivial⟩
  · intro args K r h
    unfold spec0 at h
    split at h
    · rw [body]; exact h
    · cases h
theorem ok : Proved Try.prog [] 12 spec := proved_coer _ ok0
end L01_BitsTexts
end
