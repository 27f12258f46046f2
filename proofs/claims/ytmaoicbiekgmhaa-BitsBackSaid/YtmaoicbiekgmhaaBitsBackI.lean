/-
  BitsBack, part I: an interpreter of my own over abstract values, the pure functions, the walks and the plain law.
-/

import Derived.Test.YtmaoicbiekgmhaaBitsBackG
import Derived.Test.YtmaoicbiekgmhaaBitsBackF
import Derived.Test.YtmaoicbiekgmhaaBitsBackH
import Derived.Test.YtmaoicbiekgmhaaProg
import Derived.KernelRfl

section
open Go Go.Abs Go.Proofs
set_option maxRecDepth 100000
set_option linter.unusedVariables false
namespace slices_Clone_byte
noncomputable def D : Ctx := { P := Try.prog, G := [], globs := [], hints := [], loops := [] }
noncomputable def c : Code := Try.f78.body.getD .skip
noncomputable def o0 : Oper := (regOps (sq1 c)).getD 0 anOper
noncomputable def o1 : Oper := (regOps (sq1 (sq1 (sq2 c)))).getD 0 anOper
noncomputable def o2 : Oper := (regOps (sq1 (sq1 (sq2 c)))).getD 1 anOper
noncomputable def X : Code := condX (sq2 (sq1 (sq2 c)))
noncomputable def rest : Code := sq2 (sq2 c)
noncomputable def ox : Oper := (regOps (sq1 X)).getD 0 anOper
theorem rest_eq (a0 : List Int) : codeA D rest ⟨[(0, .sl (.ints .u8 a0)), (2, .v (.slice none 0 0))], [], 0, Try.f78.ntmps⟩ (outK D [.fr 5 (.ints .u8 a0)] Try.f78) = br (decide ((0 + a0.length) * 1 ≤ 140737488355328)) (some (.fr 5 (.ints .u8 a0))) none := by kernel_rfl
noncomputable def spec0 : Abs.Spec := fun args K => match args with
  | [.sl (.ints .u8 a0)] => P.slices_Clone_byte a0 (fun a0 => K (.fr 5 (.ints .u8 a0)))
  | _ => none
theorem body_eq : Try.f78.body = some (.seq (.region 0 #[o0] false) (.seq (.seq (.region 1 #[o1, o2] false) (.cond (.tmp 4) X .skip)) rest)) := by kernel_rfl
theorem ok0 : Proved Try.prog [] 78 spec0 := by
  refine ⟨⟨Try.f78, by kernel_rfl, by kernel_rfl, by kernel_rfl⟩, fun args K r h => ?_⟩
  unfold spec0 at h
  split at h
  · rename_i a0
    unfold P.slices_Clone_byte at h
    obtain ⟨hp, hK⟩ := pre_some h
    refine ⟨_, hK, clone_ok (D := D) (fn := Try.f78) (t := 22) (e := 5) trivial (globsPlain_of (by kernel_rfl)) trivial (by kernel_rfl) (by kernel_rfl) body_eq ⟨by kernel_rfl, by kernel_rfl, by kernel_rfl⟩ ⟨by kernel_rfl, by kernel_rfl, by kernel_rfl⟩ ⟨by kernel_rfl, by kernel_rfl, by kernel_rfl⟩ (by kernel_rfl) (by decide +kernel) (by kernel_rfl) (by kernel_rfl) ⟨2, ox, by kernel_rfl, by kernel_rfl, by kernel_rfl, by kernel_rfl⟩ (by kernel_rfl) ?_⟩
    rw [rest_eq, br_pos (by omega)]
  · cases h
noncomputable def spec : Abs.Spec := fun args K => spec0 (coerL [.sl (.ints .u8 [])] args) K
theorem ok : Proved Try.prog [] 78 spec := proved_coer _ ok0
end slices_Clone_byte
end

section
open Go Go.Abs Go.Proofs
set_option maxRecDepth 100000
set_option linter.unusedVariables false
namespace bits_Xor
def S3 (v1 : List Int) (v16 : Int) (v17 : Int) (h0 : List Int) : ASt := ⟨[(1, .sl (.ints .u8 v1)), (5, .own 0), (16, .v (.int .i64 v16)), (17, .v (.int .i64 v17))], [(0, some ⟨.row 5 (.ints .u8 h0), false⟩)], 1, 32⟩
def V3 : ASt → Option ((List Int) × Int × Int × (List Int))
  | ⟨[(1, .sl (.ints .u8 v1)), (5, .own 0), (16, .v (.int .i64 v16)), (17, .v (.int .i64 v17))], [(0, some ⟨.row 5 (.ints .u8 h0), false⟩)], 1, 32⟩ => some (v1, v16, v17, h0)
  | _ => none
theorem V3_ok (st : ASt) (x : (List Int) × Int × Int × (List Int)) (h : V3 st = some x) : st = S3 x.1 x.2.1 x.2.2.1 x.2.2.2 := by
  unfold V3 at h
  split at h
  · cases h; rfl
  · cases h
noncomputable def L3 : LSpec := fun st K => match V3 st with
  | some x => P.bits_Xor_l3 x.1 x.2.1 x.2.2.1 x.2.2.2 (fun v1 v16 v17 h0 => K (.exit 0) (S3 v1 v16 v17 h0))
  | none => none
noncomputable def D : Ctx := ({ P := Try.prog, G := [(78, slices_Clone_byte.spec)], globs := [], hints := [(3, ⟨[1, 5, 16, 17], [], [4], []⟩)], loops := [(3, L3)], inl := [] } : Ctx)
def E3 (K : AExit → ASt → Option R) : (((List Int) × Int × Int × (List Int))) → Option R := (fun x => K (.exit 0) (S3 x.1 x.2.1 x.2.2.1 x.2.2.2))
theorem round3 (K : AExit → ASt → Option R) (next : ASt → Option R) (x : (List Int) × Int × Int × (List Int)) : roundA D (loopAt Try.f54 3) K next (S3 x.1 x.2.1 x.2.2.1 x.2.2.2) = (fun (x : (List Int) × Int × Int × (List Int)) (next : ((List Int) × Int × Int × (List Int)) → Option R) (ex : (((List Int) × Int × Int × (List Int))) → Option R) => P.bits_Xor_r3 x.1 x.2.1 x.2.2.1 x.2.2.2 (fun v1 v16 v17 h0 => next (v1, v16, v17, h0)) (fun v1 v16 v17 h0 => ex ((v1, v16, v17, h0)))) x (fun x => next (S3 x.1 x.2.1 x.2.2.1 x.2.2.2)) (E3 K) := by kernel_rfl
theorem lq3 (st : ASt) (K : AExit → ASt → Option R) : L3 st K = vMap (V3 st) (fun x => lp (fun (x : (List Int) × Int × Int × (List Int)) (next : ((List Int) × Int × Int × (List Int)) → Option R) (ex : (((List Int) × Int × Int × (List Int))) → Option R) => P.bits_Xor_r3 x.1 x.2.1 x.2.2.1 x.2.2.2 (fun v1 v16 v17 h0 => next (v1, v16, v17, h0)) (fun v1 v16 v17 h0 => ex ((v1, v16, v17, h0)))) x (E3 K)) := by
  unfold L3
  cases V3 st with
  | none => rfl
  | some x => simp only [P.bits_Xor_l3_eq]; rfl
theorem loop3 : LoopOk D (loopAt Try.f54 3) := loopOk_lp (X := (List Int) × Int × Int × (List Int)) (Y := ((List Int) × Int × Int × (List Int))) (fun x => S3 x.1 x.2.1 x.2.2.1 x.2.2.2) V3_ok (stp := (fun (x : (List Int) × Int × Int × (List Int)) (next : ((List Int) × Int × Int × (List Int)) → Option R) (ex : (((List Int) × Int × Int × (List Int))) → Option R) => P.bits_Xor_r3 x.1 x.2.1 x.2.2.1 x.2.2.2 (fun v1 v16 v17 h0 => next (v1, v16, v17, h0)) (fun v1 v16 v17 h0 => ex ((v1, v16, v17, h0))))) (enc := E3) (L := L3) (by kernel_rfl) lq3 round3
theorem body (a0 : List Int) (a1 : List Int) (K : AVal → Option R) : bodyA D Try.f54 [.fr 5 (.ints .u8 [])] [.sl (.ints .u8 a0), .sl (.ints .u8 a1)] K = P.bits_Xor a0 a1 (fun r0 => K (.fr 5 (.ints .u8 r0))) := by
  rw [P.bits_Xor_eq]
  kernel_rfl
theorem loops : loopsOf (Try.f54.body.getD .skip) = [loopAt Try.f54 3] := by kernel_rfl
noncomputable def spec0 : Abs.Spec := fun args K => match args with
  | [.sl (.ints .u8 a0), .sl (.ints .u8 a1)] => P.bits_Xor a0 a1 (fun r0 => K (.fr 5 (.ints .u8 r0)))
  | _ => none
noncomputable def spec : Abs.Spec := fun args K => spec0 (coerL [.sl (.ints .u8 []), .sl (.ints .u8 [])] args) K
theorem ok0 : Proved Try.prog [] 54 spec0 := by
  refine proved_of (D := D) (fn := Try.f54) (c := Try.f54.body.getD .skip) [.fr 5 (.ints .u8 [])] (by kernel_rfl) (globsPlain_of (by kernel_rfl)) (by kernel_rfl) (by kernel_rfl) (by kernel_rfl) ⟨slices_Clone_byte.ok, trivial⟩ trivial ?_ ?_
  · rw [loops]; exact ⟨loop3, trivial⟩
  · intro args K r h
    unfold spec0 at h
    split at h
    · rw [body]; exact h
    · cases h
theorem ok : Proved Try.prog [] 54 spec := proved_coer _ ok0
end bits_Xor
end

section
open Go Go.Abs Go.Proofs
set_option maxRecDepth 100000
set_option linter.unusedVariables false
namespace L01_BitsBack
def S10 (v3 : List Int) (v4 : List Int) (v11 : Int) (v67 : List Int) (v68 : Int) (v69 : Int) (h0 : List Int) (h1 : List Int) (h2 : List Int) (h3 : List Int) (h4 : List Int) : ASt := ⟨[(3, .sl (.ints .u8 v3)), (4, .sl (.ints .u8 v4)), (11, .v (.int .i64 v11)), (12, .own 4), (67, .sl (.ints .u32 v67)), (68, .v (.int .i64 v68)), (69, .v (.int .i64 v69))], [(0, some ⟨.row 5 (.ints .u8 h0), false⟩), (1, some ⟨.row 5 (.ints .u8 h1), false⟩), (2, some ⟨.row 5 (.ints .u8 h2), false⟩), (3, some ⟨.row 5 (.ints .u8 h3), false⟩), (4, some ⟨.row 62 (.ints .u32 h4), false⟩)], 5, 142⟩
def V10 : ASt → Option ((List Int) × (List Int) × Int × (List Int) × Int × Int × (List Int) × (List Int) × (List Int) × (List Int) × (List Int))
  | ⟨[(3, .sl (.ints .u8 v3)), (4, .sl (.ints .u8 v4)), (11, .v (.int .i64 v11)), (12, .own 4), (67, .sl (.ints .u32 v67)), (68, .v (.int .i64 v68)), (69, .v (.int .i64 v69))], [(0, some ⟨.row 5 (.ints .u8 h0), false⟩), (1, some ⟨.row 5 (.ints .u8 h1), false⟩), (2, some ⟨.row 5 (.ints .u8 h2), false⟩), (3, some ⟨.row 5 (.ints .u8 h3), false⟩), (4, some ⟨.row 62 (.ints .u32 h4), false⟩)], 5, 142⟩ => some (v3, v4, v11, v67, v68, v69, h0, h1, h2, h3, h4)
  | _ => none
theorem V10_ok (st : ASt) (x : (List Int) × (List Int) × Int × (List Int) × Int × Int × (List Int) × (List Int) × (List Int) × (List Int) × (List Int)) (h : V10 st = some x) : st = S10 x.1 x.2.1 x.2.2.1 x.2.2.2.1 x.2.2.2.2.1 x.2.2.2.2.2.1 x.2.2.2.2.2.2.1 x.2.2.2.2.2.2.2.1 x.2.2.2.2.2.2.2.2.1 x.2.2.2.2.2.2.2.2.2.1 x.2.2.2.2.2.2.2.2.2.2 := by
  unfold V10 at h
  split at h
  · cases h; rfl
  · cases h
def S20 (v3 : List Int) (v4 : List Int) (v105 : Int) (v106 : Int) (h4 : List Int) (h3 : List Int) (h2 : List Int) (h1 : List Int) (h0 : List Int) (h5 : List Int) (h6 : List Int) (h7 : List Int) : ASt := ⟨[(3, .sl (.ints .u8 v3)), (4, .sl (.ints .u8 v4)), (16, .own 7), (104, .own 7), (105, .v (.int .i64 v105)), (106, .v (.int .i64 v106))], [(4, some ⟨.row 62 (.ints .u32 h4), false⟩), (3, some ⟨.row 5 (.ints .u8 h3), false⟩), (2, some ⟨.row 5 (.ints .u8 h2), false⟩), (1, some ⟨.row 5 (.ints .u8 h1), false⟩), (0, some ⟨.row 5 (.ints .u8 h0), false⟩), (5, some ⟨.row 62 (.ints .u32 h5), false⟩), (6, some ⟨.row 5 (.ints .u8 h6), false⟩), (7, some ⟨.row 62 (.ints .u32 h7), false⟩)], 8, 142⟩
def V20 : ASt → Option ((List Int) × (List Int) × Int × Int × (List Int) × (List Int) × (List Int) × (List Int) × (List Int) × (List Int) × (List Int) × (List Int))
  | ⟨[(3, .sl (.ints .u8 v3)), (4, .sl (.ints .u8 v4)), (16, .own 7), (104, .own 7), (105, .v (.int .i64 v105)), (106, .v (.int .i64 v106))], [(4, some ⟨.row 62 (.ints .u32 h4), false⟩), (3, some ⟨.row 5 (.ints .u8 h3), false⟩), (2, some ⟨.row 5 (.ints .u8 h2), false⟩), (1, some ⟨.row 5 (.ints .u8 h1), false⟩), (0, some ⟨.row 5 (.ints .u8 h0), false⟩), (5, some ⟨.row 62 (.ints .u32 h5), false⟩), (6, some ⟨.row 5 (.ints .u8 h6), false⟩), (7, some ⟨.row 62 (.ints .u32 h7), false⟩)], 8, 142⟩ => some (v3, v4, v105, v106, h4, h3, h2, h1, h0, h5, h6, h7)
  | _ => none
theorem V20_ok (st : ASt) (x : (List Int) × (List Int) × Int × Int × (List Int) × (List Int) × (List Int) × (List Int) × (List Int) × (List Int) × (List Int) × (List Int)) (h : V20 st = some x) : st = S20 x.1 x.2.1 x.2.2.1 x.2.2.2.1 x.2.2.2.2.1 x.2.2.2.2.2.1 x.2.2.2.2.2.2.1 x.2.2.2.2.2.2.2.1 x.2.2.2.2.2.2.2.2.1 x.2.2.2.2.2.2.2.2.2.1 x.2.2.2.2.2.2.2.2.2.2.1 x.2.2.2.2.2.2.2.2.2.2.2 := by
  unfold V20 at h
  split at h
  · cases h; rfl
  · cases h
noncomputable def L10 : LSpec := fun st K => match V10 st with
  | some x => P.L01_BitsBack_l10 x.1 x.2.1 x.2.2.1 x.2.2.2.1 x.2.2.2.2.1 x.2.2.2.2.2.1 x.2.2.2.2.2.2.1 x.2.2.2.2.2.2.2.1 x.2.2.2.2.2.2.2.2.1 x.2.2.2.2.2.2.2.2.2.1 x.2.2.2.2.2.2.2.2.2.2 (fun v3 v4 v11 v67 v68 v69 h0 h1 h2 h3 h4 => K (.exit 0) (S10 v3 v4 v11 v67 v68 v69 h0 h1 h2 h3 h4)) (fun v10 h0 h1 h2 h3 h4 => K .ret ⟨[(10, .v (.bool v10))], [(0, some ⟨.row 5 (.ints .u8 h0), false⟩), (1, some ⟨.row 5 (.ints .u8 h1), false⟩), (2, some ⟨.row 5 (.ints .u8 h2), false⟩), (3, some ⟨.row 5 (.ints .u8 h3), false⟩), (4, some ⟨.row 62 (.ints .u32 h4), false⟩)], 5, 142⟩)
  | none => none
noncomputable def L20 : LSpec := fun st K => match V20 st with
  | some x => P.L01_BitsBack_l20 x.1 x.2.1 x.2.2.1 x.2.2.2.1 x.2.2.2.2.1 x.2.2.2.2.2.1 x.2.2.2.2.2.2.1 x.2.2.2.2.2.2.2.1 x.2.2.2.2.2.2.2.2.1 x.2.2.2.2.2.2.2.2.2.1 x.2.2.2.2.2.2.2.2.2.2.1 x.2.2.2.2.2.2.2.2.2.2.2 (fun v3 v4 v105 v106 h4 h3 h2 h1 h0 h5 h6 h7 => K (.exit 2) (S20 v3 v4 v105 v106 h4 h3 h2 h1 h0 h5 h6 h7)) (fun v10 h4 h3 h2 h1 h0 h5 h6 h7 => K .ret ⟨[(10, .v (.bool v10))], [(4, some ⟨.row 62 (.ints .u32 h4), false⟩), (3, some ⟨.row 5 (.ints .u8 h3), false⟩), (2, some ⟨.row 5 (.ints .u8 h2), false⟩), (1, some ⟨.row 5 (.ints .u8 h1), false⟩), (0, some ⟨.row 5 (.ints .u8 h0), false⟩), (5, some ⟨.row 62 (.ints .u32 h5), false⟩), (6, some ⟨.row 5 (.ints .u8 h6), false⟩), (7, some ⟨.row 62 (.ints .u32 h7), false⟩)], 8, 142⟩)
  | none => none
noncomputable def D : Ctx := ({ P := Try.prog, G := [(19, R01_Same.spec), (29, L01_awake.spec), (30, bits_Be.spec), (32, bits_Le.spec), (34, bits_Num.spec), (36, bits_NumLe.spec), (39, bits_Digits.spec), (41, bits_Pack.spec), (43, bits_Unpack.spec), (54, bits_Xor.spec)], globs := [], hints := [(20, ⟨[3, 4, 16, 104, 105, 106], [], [10], []⟩), (10, ⟨[3, 4, 11, 12, 67, 68, 69], [], [10], []⟩)], loops := [(10, L10), (20, L20)], inl := [] } : Ctx)
def E10 (K : AExit → ASt → Option R) : (((List Int) × (List Int) × Int × (List Int) × Int × Int × (List Int) × (List Int) × (List Int) × (List Int) × (List Int)) ⊕ ((Bool × (List Int) × (List Int) × (List Int) × (List Int) × (List Int)))) → Option R := (Sum.elim (fun x => K (.exit 0) (S10 x.1 x.2.1 x.2.2.1 x.2.2.2.1 x.2.2.2.2.1 x.2.2.2.2.2.1 x.2.2.2.2.2.2.1 x.2.2.2.2.2.2.2.1 x.2.2.2.2.2.2.2.2.1 x.2.2.2.2.2.2.2.2.2.1 x.2.2.2.2.2.2.2.2.2.2)) (fun x => K .ret ⟨[(10, .v (.bool x.1))], [(0, some ⟨.row 5 (.ints .u8 x.2.1), false⟩), (1, some ⟨.row 5 (.ints .u8 x.2.2.1), false⟩), (2, some ⟨.row 5 (.ints .u8 x.2.2.2.1), false⟩), (3, some ⟨.row 5 (.ints .u8 x.2.2.2.2.1), false⟩), (4, some ⟨.row 62 (.ints .u32 x.2.2.2.2.2), false⟩)], 5, 142⟩))
theorem round10 (K : AExit → ASt → Option R) (next : ASt → Option R) (x : (List Int) × (List Int) × Int × (List Int) × Int × Int × (List Int) × (List Int) × (List Int) × (List Int) × (List Int)) : roundA D (loopAt Try.f11 10) K next (S10 x.1 x.2.1 x.2.2.1 x.2.2.2.1 x.2.2.2.2.1 x.2.2.2.2.2.1 x.2.2.2.2.2.2.1 x.2.2.2.2.2.2.2.1 x.2.2.2.2.2.2.2.2.1 x.2.2.2.2.2.2.2.2.2.1 x.2.2.2.2.2.2.2.2.2.2) = (fun (x : (List Int) × (List Int) × Int × (List Int) × Int × Int × (List Int) × (List Int) × (List Int) × (List Int) × (List Int)) (next : ((List Int) × (List Int) × Int × (List Int) × Int × Int × (List Int) × (List Int) × (List Int) × (List Int) × (List Int)) → Option R) (ex : (((List Int) × (List Int) × Int × (List Int) × Int × Int × (List Int) × (List Int) × (List Int) × (List Int) × (List Int)) ⊕ ((Bool × (List Int) × (List Int) × (List Int) × (List Int) × (List Int)))) → Option R) => P.L01_BitsBack_r10 x.1 x.2.1 x.2.2.1 x.2.2.2.1 x.2.2.2.2.1 x.2.2.2.2.2.1 x.2.2.2.2.2.2.1 x.2.2.2.2.2.2.2.1 x.2.2.2.2.2.2.2.2.1 x.2.2.2.2.2.2.2.2.2.1 x.2.2.2.2.2.2.2.2.2.2 (fun v3 v4 v11 v67 v68 v69 h0 h1 h2 h3 h4 => next (v3, v4, v11, v67, v68, v69, h0, h1, h2, h3, h4)) (fun v3 v4 v11 v67 v68 v69 h0 h1 h2 h3 h4 => ex (.inl (v3, v4, v11, v67, v68, v69, h0, h1, h2, h3, h4))) (fun v10 h0 h1 h2 h3 h4 => ex (.inr (v10, h0, h1, h2, h3, h4)))) x (fun x => next (S10 x.1 x.2.1 x.2.2.1 x.2.2.2.1 x.2.2.2.2.1 x.2.2.2.2.2.1 x.2.2.2.2.2.2.1 x.2.2.2.2.2.2.2.1 x.2.2.2.2.2.2.2.2.1 x.2.2.2.2.2.2.2.2.2.1 x.2.2.2.2.2.2.2.2.2.2)) (E10 K) := by kernel_rfl
theorem lq10 (st : ASt) (K : AExit → ASt → Option R) : L10 st K = vMap (V10 st) (fun x => lp (fun (x : (List Int) × (List Int) × Int × (List Int) × Int × Int × (List Int) × (List Int) × (List Int) × (List Int) × (List Int)) (next : ((List Int) × (List Int) × Int × (List Int) × Int × Int × (List Int) × (List Int) × (List Int) × (List Int) × (List Int)) → Option R) (ex : (((List Int) × (List Int) × Int × (List Int) × Int × Int × (List Int) × (List Int) × (List Int) × (List Int) × (List Int)) ⊕ ((Bool × (List Int) × (List Int) × (List Int) × (List Int) × (List Int)))) → Option R) => P.L01_BitsBack_r10 x.1 x.2.1 x.2.2.1 x.2.2.2.1 x.2.2.2.2.1 x.2.2.2.2.2.1 x.2.2.2.2.2.2.1 x.2.2.2.2.2.2.2.1 x.2.2.2.2.2.2.2.2.1 x.2.2.2.2.2.2.2.2.2.1 x.2.2.2.2.2.2.2.2.2.2 (fun v3 v4 v11 v67 v68 v69 h0 h1 h2 h3 h4 => next (v3, v4, v11, v67, v68, v69, h0, h1, h2, h3, h4)) (fun v3 v4 v11 v67 v68 v69 h0 h1 h2 h3 h4 => ex (.inl (v3, v4, v11, v67, v68, v69, h0, h1, h2, h3, h4))) (fun v10 h0 h1 h2 h3 h4 => ex (.inr (v10, h0, h1, h2, h3, h4)))) x (E10 K)) := by
  unfold L10
  cases V10 st with
  | none => rfl
  | some x => simp only [P.L01_BitsBack_l10_eq]; rfl
theorem loop10 : LoopOk D (loopAt Try.f11 10) := loopOk_lp (X := (List Int) × (List Int) × Int × (List Int) × Int × Int × (List Int) × (List Int) × (List Int) × (List Int) × (List Int)) (Y := ((List Int) × (List Int) × Int × (List Int) × Int × Int × (List Int) × (List Int) × (List Int) × (List Int) × (List Int)) ⊕ ((Bool × (List Int) × (List Int) × (List Int) × (List Int) × (List Int)))) (fun x => S10 x.1 x.2.1 x.2.2.1 x.2.2.2.1 x.2.2.2.2.1 x.2.2.2.2.2.1 x.2.2.2.2.2.2.1 x.2.2.2.2.2.2.2.1 x.2.2.2.2.2.2.2.2.1 x.2.2.2.2.2.2.2.2.2.1 x.2.2.2.2.2.2.2.2.2.2) V10_ok (stp := (fun (x : (List Int) × (List Int) × Int × (List Int) × Int × Int × (List Int) × (List Int) × (List Int) × (List Int) × (List Int)) (next : ((List Int) × (List Int) × Int × (List Int) × Int × Int × (List Int) × (List Int) × (List Int) × (List Int) × (List Int)) → Option R) (ex : (((List Int) × (List Int) × Int × (List Int) × Int × Int × (List Int) × (List Int) × (List Int) × (List Int) × (List Int)) ⊕ ((Bool × (List Int) × (List Int) × (List Int) × (List Int) × (List Int)))) → Option R) => P.L01_BitsBack_r10 x.1 x.2.1 x.2.2.1 x.2.2.2.1 x.2.2.2.2.1 x.2.2.2.2.2.1 x.2.2.2.2.2.2.1 x.2.2.2.2.2.2.2.1 x.2.2.2.2.2.2.2.2.1 x.2.2.2.2.2.2.2.2.2.1 x.2.2.2.2.2.2.2.2.2.2 (fun v3 v4 v11 v67 v68 v69 h0 h1 h2 h3 h4 => next (v3, v4, v11, v67, v68, v69, h0, h1, h2, h3, h4)) (fun v3 v4 v11 v67 v68 v69 h0 h1 h2 h3 h4 => ex (.inl (v3, v4, v11, v67, v68, v69, h0, h1, h2, h3, h4))) (fun v10 h0 h1 h2 h3 h4 => ex (.inr (v10, h0, h1, h2, h3, h4))))) (enc := E10) (L := L10) (by kernel_rfl) lq10 round10
def E20 (K : AExit → ASt → Option R) : (((List Int) × (List Int) × Int × Int × (List Int) × (List Int) × (List Int) × (List Int) × (List Int) × (List Int) × (List Int) × (List Int)) ⊕ ((Bool × (List Int) × (List Int) × (List Int) × (List Int) × (List Int) × (List Int) × (List Int) × (List Int)))) → Option R := (Sum.elim (fun x => K (.exit 2) (S20 x.1 x.2.1 x.2.2.1 x.2.2.2.1 x.2.2.2.2.1 x.2.2.2.2.2.1 x.2.2.2.2.2.2.1 x.2.2.2.2.2.2.2.1 x.2.2.2.2.2.2.2.2.1 x.2.2.2.2.2.2.2.2.2.1 x.2.2.2.2.2.2.2.2.2.2.1 x.2.2.2.2.2.2.2.2.2.2.2)) (fun x => K .ret ⟨[(10, .v (.bool x.1))], [(4, some ⟨.row 62 (.ints .u32 x.2.1), false⟩), (3, some ⟨.row 5 (.ints .u8 x.2.2.1), false⟩), (2, some ⟨.row 5 (.ints .u8 x.2.2.2.1), false⟩), (1, some ⟨.row 5 (.ints .u8 x.2.2.2.2.1), false⟩), (0, some ⟨.row 5 (.ints .u8 x.2.2.2.2.2.1), false⟩), (5, some ⟨.row 62 (.ints .u32 x.2.2.2.2.2.2.1), false⟩), (6, some ⟨.row 5 (.ints .u8 x.2.2.2.2.2.2.2.1), false⟩), (7, some ⟨.row 62 (.ints .u32 x.2.2.2.2.2.2.2.2), false⟩)], 8, 142⟩))
theorem round20 (K : AExit → ASt → Option R) (next : ASt → Option R) (x : (List Int) × (List Int) × Int × Int × (List Int) × (List Int) × (List Int) × (List Int) × (List Int) × (List Int) × (List Int) × (List Int)) : roundA D (loopAt Try.f11 20) K next (S20 x.1 x.2.1 x.2.2.1 x.2.2.2.1 x.2.2.2.2.1 x.2.2.2.2.2.1 x.2.2.2.2.2.2.1 x.2.2.2.2.2.2.2.1 x.2.2.2.2.2.2.2.2.1 x.2.2.2.2.2.2.2.2.2.1 x.2.2.2.2.2.2.2.2.2.2.1 x.2.2.2.2.2.2.2.2.2.2.2) = (fun (x : (List Int) × (List Int) × Int × Int × (List Int) × (List Int) × (List Int) × (List Int) × (List Int) × (List Int) × (List Int) × (List Int)) (next : ((List Int) × (List Int) × Int × Int × (List Int) × (List Int) × (List Int) × (List Int) × (List Int) × (List Int) × (List Int) × (List Int)) → Option R) (ex : (((List Int) × (List Int) × Int × Int × (List Int) × (List Int) × (List Int) × (List Int) × (List Int) × (List Int) × (List Int) × (List Int)) ⊕ ((Bool × (List Int) × (List Int) × (List Int) × (List Int) × (List Int) × (List Int) × (List Int) × (List Int)))) → Option R) => P.L01_BitsBack_r20 x.1 x.2.1 x.2.2.1 x.2.2.2.1 x.2.2.2.2.1 x.2.2.2.2.2.1 x.2.2.2.2.2.2.1 x.2.2.2.2.2.2.2.1 x.2.2.2.2.2.2.2.2.1 x.2.2.2.2.2.2.2.2.2.1 x.2.2.2.2.2.2.2.2.2.2.1 x.2.2.2.2.2.2.2.2.2.2.2 (fun v3 v4 v105 v106 h4 h3 h2 h1 h0 h5 h6 h7 => next (v3, v4, v105, v106, h4, h3, h2, h1, h0, h5, h6, h7)) (fun v3 v4 v105 v106 h4 h3 h2 h1 h0 h5 h6 h7 => ex (.inl (v3, v4, v105, v106, h4, h3, h2, h1, h0, h5, h6, h7))) (fun v10 h4 h3 h2 h1 h0 h5 h6 h7 => ex (.inr (v10, h4, h3, h2, h1, h0, h5, h6, h7)))) x (fun x => next (S20 x.1 x.2.1 x.2.2.1 x.2.2.2.1 x.2.2.2.2.1 x.2.2.2.2.2.1 x.2.2.2.2.2.2.1 x.2.2.2.2.2.2.2.1 x.2.2.2.2.2.2.2.2.1 x.2.2.2.2.2.2.2.2.2.1 x.2.2.2.2.2.2.2.2.2.2.1 x.2.2.2.2.2.2.2.2.2.2.2)) (E20 K) := by kernel_rfl
theorem lq20 (st : ASt) (K : AExit → ASt → Option R) : L20 st K = vMap (V20 st) (fun x => lp (fun (x : (List Int) × (List Int) × Int × Int × (List Int) × (List Int) × (List Int) × (List Int) × (List Int) × (List Int) × (List Int) × (List Int)) (next : ((List Int) × (List Int) × Int × Int × (List Int) × (List Int) × (List Int) × (List Int) × (List Int) × (List Int) × (List Int) × (List Int)) → Option R) (ex : (((List Int) × (List Int) × Int × Int × (List Int) × (List Int) × (List Int) × (List Int) × (List Int) × (List Int) × (List Int) × (List Int)) ⊕ ((Bool × (List Int) × (List Int) × (List Int) × (List Int) × (List Int) × (List Int) × (List Int) × (List Int)))) → Option R) => P.L01_BitsBack_r20 x.1 x.2.1 x.2.2.1 x.2.2.2.1 x.2.2.2.2.1 x.2.2.2.2.2.1 x.2.2.2.2.2.2.1 x.2.2.2.2.2.2.2.1 x.2.2.2.2.2.2.2.2.1 x.2.2.2.2.2.2.2.2.2.1 x.2.2.2.2.2.2.2.2.2.2.1 x.2.2.2.2.2.2.2.2.2.2.2 (fun v3 v4 v105 v106 h4 h3 h2 h1 h0 h5 h6 h7 => next (v3, v4, v105, v106, h4, h3, h2, h1, h0, h5, h6, h7)) (fun v3 v4 v105 v106 h4 h3 h2 h1 h0 h5 h6 h7 => ex (.inl (v3, v4, v105, v106, h4, h3, h2, h1, h0, h5, h6, h7))) (fun v10 h4 h3 h2 h1 h0 h5 h6 h7 => ex (.inr (v10, h4, h3, h2, h1, h0, h5, h6, h7)))) x (E20 K)) := by
  unfold L20
  cases V20 st with
  | none => rfl
  | some x => simp only [P.L01_BitsBack_l20_eq]; rfl
theorem loop20 : LoopOk D (loopAt Try.f11 20) := loopOk_lp (X := (List Int) × (List Int) × Int × Int × (List Int) × (List Int) × (List Int) × (List Int) × (List Int) × (List Int) × (List Int) × (List Int)) (Y := ((List Int) × (List Int) × Int × Int × (List Int) × (List Int) × (List Int) × (List Int) × (List Int) × (List Int) × (List Int) × (List Int)) ⊕ ((Bool × (List Int) × (List Int) × (List Int) × (List Int) × (List Int) × (List Int) × (List Int) × (List Int)))) (fun x => S20 x.1 x.2.1 x.2.2.1 x.2.2.2.1 x.2.2.2.2.1 x.2.2.2.2.2.1 x.2.2.2.2.2.2.1 x.2.2.2.2.2.2.2.1 x.2.2.2.2.2.2.2.2.1 x.2.2.2.2.2.2.2.2.2.1 x.2.2.2.2.2.2.2.2.2.2.1 x.2.2.2.2.2.2.2.2.2.2.2) V20_ok (stp := (fun (x : (List Int) × (List Int) × Int × Int × (List Int) × (List Int) × (List Int) × (List Int) × (List Int) × (List Int) × (List Int) × (List Int)) (next : ((List Int) × (List Int) × Int × Int × (List Int) × (List Int) × (List Int) × (List Int) × (List Int) × (List Int) × (List Int) × (List Int)) → Option R) (ex : (((List Int) × (List Int) × Int × Int × (List Int) × (List Int) × (List Int) × (List Int) × (List Int) × (List Int) × (List Int) × (List Int)) ⊕ ((Bool × (List Int) × (List Int) × (List Int) × (List Int) × (List Int) × (List Int) × (List Int) × (List Int)))) → Option R) => P.L01_BitsBack_r20 x.1 x.2.1 x.2.2.1 x.2.2.2.1 x.2.2.2.2.1 x.2.2.2.2.2.1 x.2.2.2.2.2.2.1 x.2.2.2.2.2.2.2.1 x.2.2.2.2.2.2.2.2.1 x.2.2.2.2.2.2.2.2.2.1 x.2.2.2.2.2.2.2.2.2.2.1 x.2.2.2.2.2.2.2.2.2.2.2 (fun v3 v4 v105 v106 h4 h3 h2 h1 h0 h5 h6 h7 => next (v3, v4, v105, v106, h4, h3, h2, h1, h0, h5, h6, h7)) (fun v3 v4 v105 v106 h4 h3 h2 h1 h0 h5 h6 h7 => ex (.inl (v3, v4, v105, v106, h4, h3, h2, h1, h0, h5, h6, h7))) (fun v10 h4 h3 h2 h1 h0 h5 h6 h7 => ex (.inr (v10, h4, h3, h2, h1, h0, h5, h6, h7))))) (enc := E20) (L := L20) (by kernel_rfl) lq20 round20
theorem body (a0 : Int) (a1 : List Int) (a2 : Int) (a3 : List Int) (a4 : List Int) (K : AVal → Option R) : bodyA D Try.f11 [.any] [.v (.int .u64 a0), .sl (.ints .u32 a1), .v (.int .u8 a2), .sl (.ints .u8 a3), .sl (.ints .u8 a4)] K = P.L01_BitsBack a0 a1 a2 a3 a4 (fun r0 => K (.v (.bool r0))) := by
  rw [P.L01_BitsBack_eq]
  kernel_rfl
theorem loops : loopsOf (Try.f11.body.getD .skip) = [loopAt Try.f11 10, loopAt Try.f11 20] := by kernel_rfl
noncomputable def spec0 : Abs.Spec := fun args K => match args with
  | [.v (.int .u64 a0), .sl (.ints .u32 a1), .v (.int .u8 a2), .sl (.ints .u8 a3), .sl (.ints .u8 a4)] => P.L01_BitsBack a0 a1 a2 a3 a4 (fun r0 => K (.v (.bool r0)))
  | _ => none
noncomputable def spec : Abs.Spec := fun args K => spec0 (coerL [.any, .sl (.ints .u32 []), .any, .sl (.ints .u8 []), .sl (.ints .u8 [])] args) K
theorem ok0 : Proved Try.prog [] 11 spec0 := by
  refine proved_of (D := D) (fn := Try.f11) (c := Try.f11.body.getD .skip) [.any] (by kernel_rfl) (globsPlain_of (by kernel_rfl)) (by kernel_rfl) (by kernel_rfl) (by kernel_rfl) ⟨R01_Same.ok, L01_awake.ok, bits_Be.ok, bits_Le.ok, bits_Num.ok, bits_NumLe.ok, bits_Digits.ok, bits_Pack.ok, bits_Unpack.ok, bits_Xor.ok, trivial⟩ trivial ?_ ?_
  · rw [loops]; exact ⟨loop10, loop20, trivial⟩
  · intro args K r h
    unfold spec0 at h
    split at h
    · rw [body]; exact h
    · cases h
theorem ok : Proved Try.prog [] 11 spec := proved_coer _ ok0
end L01_BitsBack
end
