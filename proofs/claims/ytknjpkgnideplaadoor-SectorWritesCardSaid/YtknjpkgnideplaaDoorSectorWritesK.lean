/-
  SectorWrites, part K: an interpreter of my own over abstract values, the pure functions, the walks and the plain law.
-/

import Derived.Test.YtknjpkgnideplaaDoorSectorWritesG
import Derived.Test.YtknjpkgnideplaaDoorSectorWritesF
import Derived.Test.YtknjpkgnideplaaDoorSectorWritesJ
import Derived.Test.YtknjpkgnideplaaDoorProg
import Derived.KernelRfl
import Derived.Test.YtknjpkgnideplaaDoorSectorWritesH
import Derived.Test.YtknjpkgnideplaaDoorSectorWritesI

section
open Go Go.Abs Go.Proofs
set_option maxRecDepth 100000
set_option linter.unusedVariables false
namespace slices_Clone_byte
noncomputable def D : Ctx := { P := Tryd.prog, G := [], globs := [(0, [.arr .u32 64 P.roots256]), (1, [.arr .u64 80 P.roots512])], hints := [], loops := [] }
noncomputable def c : Code := Tryd.f64.body.getD .skip
noncomputable def o0 : Oper := (regOps (sq1 c)).getD 0 anOper
noncomputable def o1 : Oper := (regOps (sq1 (sq1 (sq2 c)))).getD 0 anOper
noncomputable def o2 : Oper := (regOps (sq1 (sq1 (sq2 c)))).getD 1 anOper
noncomputable def X : Code := condX (sq2 (sq1 (sq2 c)))
noncomputable def rest : Code := sq2 (sq2 c)
noncomputable def ox : Oper := (regOps (sq1 X)).getD 0 anOper
theorem rest_eq (a0 : List Int) : codeA D rest ⟨[(0, .sl (.ints .u8 a0)), (2, .v (.slice none 0 0))], [], 0, Tryd.f64.ntmps⟩ (outK D [.fr 5 (.ints .u8 a0)] Tryd.f64) = br (decide ((0 + a0.length) * 1 ≤ 140737488355328)) (some (.fr 5 (.ints .u8 a0))) none := by kernel_rfl
noncomputable def spec0 : Abs.Spec := fun args K => match args with
  | [.sl (.ints .u8 a0)] => P.slices_Clone_byte a0 (fun a0 => K (.fr 5 (.ints .u8 a0)))
  | _ => none
theorem body_eq : Tryd.f64.body = some (.seq (.region 0 #[o0] false) (.seq (.seq (.region 1 #[o1, o2] false) (.cond (.tmp 4) X .skip)) rest)) := by kernel_rfl
theorem ok0 : Proved Tryd.prog [(0, [.arr .u32 64 P.roots256]), (1, [.arr .u64 80 P.roots512])] 64 spec0 := by
  refine ⟨⟨Tryd.f64, by kernel_rfl, by kernel_rfl, by kernel_rfl⟩, fun args K r h => ?_⟩
  unfold spec0 at h
  split at h
  · rename_i a0
    unfold P.slices_Clone_byte at h
    obtain ⟨hp, hK⟩ := pre_some h
    refine ⟨_, hK, clone_ok (D := D) (fn := Tryd.f64) (t := 24) (e := 5) trivial (globsPlain_of (by kernel_rfl)) trivial (by kernel_rfl) (by kernel_rfl) body_eq ⟨by kernel_rfl, by kernel_rfl, by kernel_rfl⟩ ⟨by kernel_rfl, by kernel_rfl, by kernel_rfl⟩ ⟨by kernel_rfl, by kernel_rfl, by kernel_rfl⟩ (by kernel_rfl) (by decide +kernel) (by kernel_rfl) (by kernel_rfl) ⟨2, ox, by kernel_rfl, by kernel_rfl, by kernel_rfl, by kernel_rfl⟩ (by kernel_rfl) rfl rfl rfl ?_⟩
    rw [rest_eq, br_pos (by omega)]
  · cases h
noncomputable def spec : Abs.Spec := fun args K => spec0 (coerL [.sl (.ints .u8 [])] args) K
theorem ok : Proved Tryd.prog [(0, [.arr .u32 64 P.roots256]), (1, [.arr .u64 80 P.roots512])] 64 spec := proved_coer _ ok0
end slices_Clone_byte
end

section
open Go Go.Abs Go.Proofs
set_option maxRecDepth 100000
set_option linter.unusedVariables false
namespace slices_Grow_byte
noncomputable def D : Ctx := ({ P := Tryd.prog, G := [], globs := [(0, [.arr .u32 64 P.roots256]), (1, [.arr .u64 80 P.roots512])], hints := [], loops := [], inl := [] } : Ctx)
theorem body (a1 : Int) (K : AVal → Option R) : bodyW D Tryd.f109 5 (.ints .u8 []) [.v (.slice none 0 0), .v (.int .i64 a1)] K = P.slices_Grow_byte a1 (fun r0 => K (.fr 5 (.ints .u8 r0))) := by
  rw [P.slices_Grow_byte_eq]
  kernel_rfl
theorem loops : loopsOf (Tryd.f109.body.getD .skip) = [] := by kernel_rfl
noncomputable def spec0 : Abs.Spec := fun args K => match args with
  | [.v (.slice none 0 0), .v (.int .i64 a1)] => P.slices_Grow_byte a1 (fun r0 => K (.fr 5 (.ints .u8 r0)))
  | _ => none
noncomputable def spec : Abs.Spec := spec0
theorem ok0 : Proved Tryd.prog [(0, [.arr .u32 64 P.roots256]), (1, [.arr .u64 80 P.roots512])] 109 spec0 := by
  refine provedW_of (D := D) (fn := Tryd.f109) (c := Tryd.f109.body.getD .skip) 5 (.ints .u8 []) (by kernel_rfl) (globsPlain_of (by kernel_rfl)) (by kernel_rfl) (by kernel_rfl) (by kernel_rfl) trivial trivial ?_ ?_
  · rw [loops]; exact trivial
  · intro args K r h
    unfold spec0 at h
    split at h
    · rw [body]; exact h
    · cases h
theorem ok : Proved Tryd.prog [(0, [.arr .u32 64 P.roots256]), (1, [.arr .u64 80 P.roots512])] 109 spec := ok0
end slices_Grow_byte
end

section
open Go Go.Abs Go.Proofs
set_option maxRecDepth 100000
set_option linter.unusedVariables false
namespace slices_Concat_byte
def S3 (v0 : List (List Int)) (v3 : Int) (v9 : List (List Int)) (v10 : Int) (v11 : Int) : ASt := ⟨[(0, .sl (.rows .u8 v0)), (3, .v (.int .i64 v3)), (9, .sl (.rows .u8 v9)), (10, .v (.int .i64 v10)), (11, .v (.int .i64 v11))], [], 0, 36⟩
def V3 : ASt → Option ((List (List Int)) × Int × (List (List Int)) × Int × Int)
  | ⟨[(0, .sl (.rows .u8 v0)), (3, .v (.int .i64 v3)), (9, .sl (.rows .u8 v9)), (10, .v (.int .i64 v10)), (11, .v (.int .i64 v11))], [], 0, 36⟩ => some (v0, v3, v9, v10, v11)
  | _ => none
theorem V3_ok (st : ASt) (x : (List (List Int)) × Int × (List (List Int)) × Int × Int) (h : V3 st = some x) : st = S3 x.1 x.2.1 x.2.2.1 x.2.2.2.1 x.2.2.2.2 := by
  unfold V3 at h
  split at h
  · cases h; rfl
  · cases h
def S11 (v25 : List (List Int)) (v26 : Int) (v27 : Int) (h1 : List Int) : ASt := ⟨[(6, .own 1), (25, .sl (.rows .u8 v25)), (26, .v (.int .i64 v26)), (27, .v (.int .i64 v27))], [(1, some ⟨.row 5 (.ints .u8 h1), false⟩), (0, none)], 2, 36⟩
def V11 : ASt → Option ((List (List Int)) × Int × Int × (List Int))
  | ⟨[(6, .own 1), (25, .sl (.rows .u8 v25)), (26, .v (.int .i64 v26)), (27, .v (.int .i64 v27))], [(1, some ⟨.row 5 (.ints .u8 h1), false⟩), (0, none)], 2, 36⟩ => some (v25, v26, v27, h1)
  | _ => none
theorem V11_ok (st : ASt) (x : (List (List Int)) × Int × Int × (List Int)) (h : V11 st = some x) : st = S11 x.1 x.2.1 x.2.2.1 x.2.2.2 := by
  unfold V11 at h
  split at h
  · cases h; rfl
  · cases h
noncomputable def L3 : LSpec := fun st K => match V3 st with
  | some x => P.slices_Concat_byte_l3 x.1 x.2.1 x.2.2.1 x.2.2.2.1 x.2.2.2.2 (fun v0 v3 v9 v10 v11 => K (.exit 0) (S3 v0 v3 v9 v10 v11))
  | none => none
noncomputable def L11 : LSpec := fun st K => match V11 st with
  | some x => P.slices_Concat_byte_l11 x.1 x.2.1 x.2.2.1 x.2.2.2 (fun v25 v26 v27 h1 => K (.exit 2) (S11 v25 v26 v27 h1))
  | none => none
noncomputable def D : Ctx := ({ P := Tryd.prog, G := [(109, slices_Grow_byte.spec)], globs := [(0, [.arr .u32 64 P.roots256]), (1, [.arr .u64 80 P.roots512])], hints := [(11, ⟨[25, 26, 27], [(6, 5, .ints .u8 [])], [2], [], none, []⟩), (3, ⟨[0, 3, 9, 10, 11], [], [2], [], none, []⟩)], loops := [(3, L3), (11, L11)], inl := [] } : Ctx)
def E3 (K : AExit → ASt → Option R) : (((List (List Int)) × Int × (List (List Int)) × Int × Int)) → Option R := (fun x => K (.exit 0) (S3 x.1 x.2.1 x.2.2.1 x.2.2.2.1 x.2.2.2.2))
theorem round3 (K : AExit → ASt → Option R) (next : ASt → Option R) (x : (List (List Int)) × Int × (List (List Int)) × Int × Int) : roundA D (loopAt Tryd.f59 3) K next (S3 x.1 x.2.1 x.2.2.1 x.2.2.2.1 x.2.2.2.2) = (fun (x : (List (List Int)) × Int × (List (List Int)) × Int × Int) (next : ((List (List Int)) × Int × (List (List Int)) × Int × Int) → Option R) (ex : (((List (List Int)) × Int × (List (List Int)) × Int × Int)) → Option R) => P.slices_Concat_byte_r3 x.1 x.2.1 x.2.2.1 x.2.2.2.1 x.2.2.2.2 (fun v0 v3 v9 v10 v11 => next (v0, v3, v9, v10, v11)) (fun v0 v3 v9 v10 v11 => ex ((v0, v3, v9, v10, v11)))) x (fun x => next (S3 x.1 x.2.1 x.2.2.1 x.2.2.2.1 x.2.2.2.2)) (E3 K) := by kernel_rfl
theorem lq3 (st : ASt) (K : AExit → ASt → Option R) : L3 st K = vMap (V3 st) (fun x => lp (fun (x : (List (List Int)) × Int × (List (List Int)) × Int × Int) (next : ((List (List Int)) × Int × (List (List Int)) × Int × Int) → Option R) (ex : (((List (List Int)) × Int × (List (List Int)) × Int × Int)) → Option R) => P.slices_Concat_byte_r3 x.1 x.2.1 x.2.2.1 x.2.2.2.1 x.2.2.2.2 (fun v0 v3 v9 v10 v11 => next (v0, v3, v9, v10, v11)) (fun v0 v3 v9 v10 v11 => ex ((v0, v3, v9, v10, v11)))) x (E3 K)) := by
  unfold L3
  cases V3 st with
  | none => rfl
  | some x => simp only [P.slices_Concat_byte_l3_eq]; rfl
theorem loop3 : LoopOk D (loopAt Tryd.f59 3) := loopOk_lp (X := (List (List Int)) × Int × (List (List Int)) × Int × Int) (Y := ((List (List Int)) × Int × (List (List Int)) × Int × Int)) (fun x => S3 x.1 x.2.1 x.2.2.1 x.2.2.2.1 x.2.2.2.2) V3_ok (stp := (fun (x : (List (List Int)) × Int × (List (List Int)) × Int × Int) (next : ((List (List Int)) × Int × (List (List Int)) × Int × Int) → Option R) (ex : (((List (List Int)) × Int × (List (List Int)) × Int × Int)) → Option R) => P.slices_Concat_byte_r3 x.1 x.2.1 x.2.2.1 x.2.2.2.1 x.2.2.2.2 (fun v0 v3 v9 v10 v11 => next (v0, v3, v9, v10, v11)) (fun v0 v3 v9 v10 v11 => ex ((v0, v3, v9, v10, v11))))) (enc := E3) (L := L3) (by kernel_rfl) lq3 round3
def E11 (K : AExit → ASt → Option R) : (((List (List Int)) × Int × Int × (List Int))) → Option R := (fun x => K (.exit 2) (S11 x.1 x.2.1 x.2.2.1 x.2.2.2))
theorem round11 (K : AExit → ASt → Option R) (next : ASt → Option R) (x : (List (List Int)) × Int × Int × (List Int)) : roundA D (loopAt Tryd.f59 11) K next (S11 x.1 x.2.1 x.2.2.1 x.2.2.2) = (fun (x : (List (List Int)) × Int × Int × (List Int)) (next : ((List (List Int)) × Int × Int × (List Int)) → Option R) (ex : (((List (List Int)) × Int × Int × (List Int))) → Option R) => P.slices_Concat_byte_r11 x.1 x.2.1 x.2.2.1 x.2.2.2 (fun v25 v26 v27 h1 => next (v25, v26, v27, h1)) (fun v25 v26 v27 h1 => ex ((v25, v26, v27, h1)))) x (fun x => next (S11 x.1 x.2.1 x.2.2.1 x.2.2.2)) (E11 K) := by kernel_rfl
theorem lq11 (st : ASt) (K : AExit → ASt → Option R) : L11 st K = vMap (V11 st) (fun x => lp (fun (x : (List (List Int)) × Int × Int × (List Int)) (next : ((List (List Int)) × Int × Int × (List Int)) → Option R) (ex : (((List (List Int)) × Int × Int × (List Int))) → Option R) => P.slices_Concat_byte_r11 x.1 x.2.1 x.2.2.1 x.2.2.2 (fun v25 v26 v27 h1 => next (v25, v26, v27, h1)) (fun v25 v26 v27 h1 => ex ((v25, v26, v27, h1)))) x (E11 K)) := by
  unfold L11
  cases V11 st with
  | none => rfl
  | some x => simp only [P.slices_Concat_byte_l11_eq]; rfl
theorem loop11 : LoopOk D (loopAt Tryd.f59 11) := loopOk_lp (X := (List (List Int)) × Int × Int × (List Int)) (Y := ((List (List Int)) × Int × Int × (List Int))) (fun x => S11 x.1 x.2.1 x.2.2.1 x.2.2.2) V11_ok (stp := (fun (x : (List (List Int)) × Int × Int × (List Int)) (next : ((List (List Int)) × Int × Int × (List Int)) → Option R) (ex : (((List (List Int)) × Int × Int × (List Int))) → Option R) => P.slices_Concat_byte_r11 x.1 x.2.1 x.2.2.1 x.2.2.2 (fun v25 v26 v27 h1 => next (v25, v26, v27, h1)) (fun v25 v26 v27 h1 => ex ((v25, v26, v27, h1))))) (enc := E11) (L := L11) (by kernel_rfl) lq11 round11
theorem body (a0 : List (List Int)) (K : AVal → Option R) : bodyA D Tryd.f59 [.fr 5 (.ints .u8 [])] [.sl (.rows .u8 a0)] K = P.slices_Concat_byte a0 (fun r0 => K (.fr 5 (.ints .u8 r0))) := by
  rw [P.slices_Concat_byte_eq]
  kernel_rfl
theorem loops : loopsOf (Tryd.f59.body.getD .skip) = [loopAt Tryd.f59 3, loopAt Tryd.f59 11] := by kernel_rfl
noncomputable def spec0 : Abs.Spec := fun args K => match args with
  | [.sl (.rows .u8 a0)] => P.slices_Concat_byte a0 (fun r0 => K (.fr 5 (.ints .u8 r0)))
  | _ => none
noncomputable def spec : Abs.Spec := fun args K => spec0 (coerL [.sl (.rows .u8 [])] args) K
theorem ok0 : Proved Tryd.prog [(0, [.arr .u32 64 P.roots256]), (1, [.arr .u64 80 P.roots512])] 59 spec0 := by
  refine proved_of (D := D) (fn := Tryd.f59) (c := Tryd.f59.body.getD .skip) [.fr 5 (.ints .u8 [])] (by kernel_rfl) (globsPlain_of (by kernel_rfl)) (by kernel_rfl) (by kernel_rfl) (by kernel_rfl) ⟨slices_Grow_byte.ok, trivial⟩ trivial ?_ ?_
  · rw [loops]; exact ⟨loop3, loop11, trivial⟩
  · intro args K r h
    unfold spec0 at h
    split at h
    · rw [body]; exact h
    · cases h
theorem ok : Proved Tryd.prog [(0, [.arr .u32 64 P.roots256]), (1, [.arr .u64 80 P.roots512])] 59 spec := proved_coer _ ok0
end slices_Concat_byte
end

section
open Go Go.Abs Go.Proofs
set_option maxRecDepth 100000
set_option linter.unusedVariables false
namespace sha_Add
noncomputable def D : Ctx := ({ P := Tryd.prog, G := [(59, slices_Concat_byte.spec), (60, sha_through_uint32.spec), (61, sha_small.spec), (62, sha_through_uint64.spec), (63, sha_great.spec), (64, slices_Clone_byte.spec)], globs := [(0, [.arr .u32 64 P.roots256]), (1, [.arr .u64 80 P.roots512])], hints := [], loops := [], inl := [] } : Ctx)
theorem body (a0_Kind : Int) (a0_Words : List Int) (a0_Tail : List Int) (a0_Size : Int) (a1 : List Int) (K : AVal → Option R) : bodyA D Tryd.f15 [.agg [.any, .any, .fr 5 (.ints .u8 []), .any]] [.agg [.v (.int .i64 a0_Kind), .arr .u64 8 a0_Words, .sl (.ints .u8 a0_Tail), .v (.int .u64 a0_Size)], .sl (.ints .u8 a1)] K = P.sha_Add a0_Kind a0_Words a0_Tail a0_Size a1 (fun r0_Kind r0_Words r0_Tail r0_Size => K (.agg [.v (.int .i64 r0_Kind), .arr .u64 8 r0_Words, .fr 5 (.ints .u8 r0_Tail), .v (.int .u64 r0_Size)])) := by
  rw [P.sha_Add_eq]
  kernel_rfl
theorem loops : loopsOf (Tryd.f15.body.getD .skip) = [] := by kernel_rfl
noncomputable def spec0 : Abs.Spec := fun args K => match args with
  | [.agg [.v (.int .i64 a0_Kind), .arr .u64 8 a0_Words, .sl (.ints .u8 a0_Tail), .v (.int .u64 a0_Size)], .sl (.ints .u8 a1)] => P.sha_Add a0_Kind a0_Words a0_Tail a0_Size a1 (fun r0_Kind r0_Words r0_Tail r0_Size => K (.agg [.v (.int .i64 r0_Kind), .arr .u64 8 r0_Words, .fr 5 (.ints .u8 r0_Tail), .v (.int .u64 r0_Size)]))
  | _ => none
noncomputable def spec : Abs.Spec := fun args K => spec0 (coerL [.agg [.any, .any, .sl (.ints .u8 []), .any], .sl (.ints .u8 [])] args) K
theorem ok0 : Proved Tryd.prog [(0, [.arr .u32 64 P.roots256]), (1, [.arr .u64 80 P.roots512])] 15 spec0 := by
  refine proved_of (D := D) (fn := Tryd.f15) (c := Tryd.f15.body.getD .skip) [.agg [.any, .any, .fr 5 (.ints .u8 []), .any]] (by kernel_rfl) (globsPlain_of (by kernel_rfl)) (by kernel_rfl) (by kernel_rfl) (by kernel_rfl) ⟨slices_Concat_byte.ok, sha_through_uint32.ok, sha_small.ok, sha_through_uint64.ok, sha_great.ok, slices_Clone_byte.ok, trivial⟩ trivial ?_ ?_
  · rw [loops]; exact trivial
  · intro args K r h
    unfold spec0 at h
    split at h
    · rw [body]; exact h
    · cases h
theorem ok : Proved Tryd.prog [(0, [.arr .u32 64 P.roots256]), (1, [.arr .u64 80 P.roots512])] 15 spec := proved_coer _ ok0
end sha_Add
end

section
open Go Go.Abs Go.Proofs
set_option maxRecDepth 100000
set_option linter.unusedVariables false
namespace bits_Le
def S5 (v0 : Int) (v16 : Int) (v17 : Int) (h0 : List Int) : ASt := ⟨[(0, .v (.int .u64 v0)), (5, .own 0), (16, .v (.int .i64 v16)), (17, .v (.int .i64 v17))], [(0, some ⟨.row 5 (.ints .u8 h0), false⟩)], 1, 30⟩
def V5 : ASt → Option (Int × Int × Int × (List Int))
  | ⟨[(0, .v (.int .u64 v0)), (5, .own 0), (16, .v (.int .i64 v16)), (17, .v (.int .i64 v17))], [(0, some ⟨.row 5 (.ints .u8 h0), false⟩)], 1, 30⟩ => some (v0, v16, v17, h0)
  | _ => none
theorem V5_ok (st : ASt) (x : Int × Int × Int × (List Int)) (h : V5 st = some x) : st = S5 x.1 x.2.1 x.2.2.1 x.2.2.2 := by
  unfold V5 at h
  split at h
  · cases h; rfl
  · cases h
noncomputable def L5 : LSpec := fun st K => match V5 st with
  | some x => P.bits_Le_l5 x.1 x.2.1 x.2.2.1 x.2.2.2 (fun v0 v16 v17 h0 => K (.exit 0) (S5 v0 v16 v17 h0))
  | none => none
noncomputable def D : Ctx := ({ P := Tryd.prog, G := [], globs := [(0, [.arr .u32 64 P.roots256]), (1, [.arr .u64 80 P.roots512])], hints := [(5, ⟨[0, 5, 16, 17], [], [4], [], none, []⟩)], loops := [(5, L5)], inl := [] } : Ctx)
def E5 (K : AExit → ASt → Option R) : ((Int × Int × Int × (List Int))) → Option R := (fun x => K (.exit 0) (S5 x.1 x.2.1 x.2.2.1 x.2.2.2))
theorem round5 (K : AExit → ASt → Option R) (next : ASt → Option R) (x : Int × Int × Int × (List Int)) : roundA D (loopAt Tryd.f118 5) K next (S5 x.1 x.2.1 x.2.2.1 x.2.2.2) = (fun (x : Int × Int × Int × (List Int)) (next : (Int × Int × Int × (List Int)) → Option R) (ex : ((Int × Int × Int × (List Int))) → Option R) => P.bits_Le_r5 x.1 x.2.1 x.2.2.1 x.2.2.2 (fun v0 v16 v17 h0 => next (v0, v16, v17, h0)) (fun v0 v16 v17 h0 => ex ((v0, v16, v17, h0)))) x (fun x => next (S5 x.1 x.2.1 x.2.2.1 x.2.2.2)) (E5 K) := by kernel_rfl
theorem lq5 (st : ASt) (K : AExit → ASt → Option R) : L5 st K = vMap (V5 st) (fun x => lp (fun (x : Int × Int × Int × (List Int)) (next : (Int × Int × Int × (List Int)) → Option R) (ex : ((Int × Int × Int × (List Int))) → Option R) => P.bits_Le_r5 x.1 x.2.1 x.2.2.1 x.2.2.2 (fun v0 v16 v17 h0 => next (v0, v16, v17, h0)) (fun v0 v16 v17 h0 => ex ((v0, v16, v17, h0)))) x (E5 K)) := by
  unfold L5
  cases V5 st with
  | none => rfl
  | some x => simp only [P.bits_Le_l5_eq]; rfl
theorem loop5 : LoopOk D (loopAt Tryd.f118 5) := loopOk_lp (X := Int × Int × Int × (List Int)) (Y := (Int × Int × Int × (List Int))) (fun x => S5 x.1 x.2.1 x.2.2.1 x.2.2.2) V5_ok (stp := (fun (x : Int × Int × Int × (List Int)) (next : (Int × Int × Int × (List Int)) → Option R) (ex : ((Int × Int × Int × (List Int))) → Option R) => P.bits_Le_r5 x.1 x.2.1 x.2.2.1 x.2.2.2 (fun v0 v16 v17 h0 => next (v0, v16, v17, h0)) (fun v0 v16 v17 h0 => ex ((v0, v16, v17, h0))))) (enc := E5) (L := L5) (by kernel_rfl) lq5 round5
theorem body (a0 : Int) (a1 : Int) (K : AVal → Option R) : bodyA D Tryd.f118 [.fr 5 (.ints .u8 [])] [.v (.int .u64 a0), .v (.int .i64 a1)] K = P.bits_Le a0 a1 (fun r0 => K (.fr 5 (.ints .u8 r0))) := by
  rw [P.bits_Le_eq]
  kernel_rfl
theorem loops : loopsOf (Tryd.f118.body.getD .skip) = [loopAt Tryd.f118 5] := by kernel_rfl
noncomputable def spec0 : Abs.Spec := fun args K => match args with
  | [.v (.int .u64 a0), .v (.int .i64 a1)] => P.bits_Le a0 a1 (fun r0 => K (.fr 5 (.ints .u8 r0)))
  | _ => none
noncomputable def spec : Abs.Spec := spec0
theorem ok0 : Proved Tryd.prog [(0, [.arr .u32 64 P.roots256]), (1, [.arr .u64 80 P.roots512])] 118 spec0 := by
  refine proved_of (D := D) (fn := Tryd.f118) (c := Tryd.f118.body.getD .skip) [.fr 5 (.ints .u8 [])] (by kernel_rfl) (globsPlain_of (by kernel_rfl)) (by kernel_rfl) (by kernel_rfl) (by kernel_rfl) trivial trivial ?_ ?_
  · rw [loops]; exact ⟨loop5, trivial⟩
  · intro args K r h
    unfold spec0 at h
    split at h
    · rw [body]; exact h
    · cases h
theorem ok : Proved Tryd.prog [(0, [.arr .u32 64 P.roots256]), (1, [.arr .u64 80 P.roots512])] 118 spec := ok0
end bits_Le
end

section
open Go Go.Abs Go.Proofs
set_option maxRecDepth 100000
set_option linter.unusedVariables false
namespace bits_Be
def S1_1 (v2 : Int) (v3 : Int) (h0 : List Int) : ASt := ⟨[(0, .own 0), (2, .v (.int .i64 v2)), (3, .v (.int .i64 v3))], [(0, some ⟨.row 5 (.ints .u8 h0), false⟩)], 1, 28⟩
def V1_1 : ASt → Option (Int × Int × (List Int))
  | ⟨[(0, .own 0), (2, .v (.int .i64 v2)), (3, .v (.int .i64 v3))], [(0, some ⟨.row 5 (.ints .u8 h0), false⟩)], 1, 28⟩ => some (v2, v3, h0)
  | _ => none
theorem V1_1_ok (st : ASt) (x : Int × Int × (List Int)) (h : V1_1 st = some x) : st = S1_1 x.1 x.2.1 x.2.2 := by
  unfold V1_1 at h
  split at h
  · cases h; rfl
  · cases h
noncomputable def L1_1 : LSpec := fun st K => match V1_1 st with
  | some x => P.bits_Be_l1_1 x.1 x.2.1 x.2.2 (fun v2 v3 h0 => K (.exit 0) (S1_1 v2 v3 h0))
  | none => none
noncomputable def D1 : Ctx := ({ P := Tryd.prog, G := [(118, bits_Le.spec)], globs := [(0, [.arr .u32 64 P.roots256]), (1, [.arr .u64 80 P.roots512])], hints := [(1, ⟨[0, 2, 3], [], [], [], none, []⟩)], loops := [(1, L1_1)], inl := [] } : Ctx)
noncomputable def D : Ctx := ({ P := Tryd.prog, G := [(118, bits_Le.spec)], globs := [(0, [.arr .u32 64 P.roots256]), (1, [.arr .u64 80 P.roots512])], hints := [], loops := [], inl := [(119, bodyIn D1 Tryd.f119)] } : Ctx)
def E1_1 (K : AExit → ASt → Option R) : ((Int × Int × (List Int))) → Option R := (fun x => K (.exit 0) (S1_1 x.1 x.2.1 x.2.2))
theorem round1_1 (K : AExit → ASt → Option R) (next : ASt → Option R) (x : Int × Int × (List Int)) : roundA D1 (loopAt Tryd.f119 1) K next (S1_1 x.1 x.2.1 x.2.2) = (fun (x : Int × Int × (List Int)) (next : (Int × Int × (List Int)) → Option R) (ex : ((Int × Int × (List Int))) → Option R) => P.bits_Be_r1_1 x.1 x.2.1 x.2.2 (fun v2 v3 h0 => next (v2, v3, h0)) (fun v2 v3 h0 => ex ((v2, v3, h0)))) x (fun x => next (S1_1 x.1 x.2.1 x.2.2)) (E1_1 K) := by kernel_rfl
theorem lq1_1 (st : ASt) (K : AExit → ASt → Option R) : L1_1 st K = vMap (V1_1 st) (fun x => lp (fun (x : Int × Int × (List Int)) (next : (Int × Int × (List Int)) → Option R) (ex : ((Int × Int × (List Int))) → Option R) => P.bits_Be_r1_1 x.1 x.2.1 x.2.2 (fun v2 v3 h0 => next (v2, v3, h0)) (fun v2 v3 h0 => ex ((v2, v3, h0)))) x (E1_1 K)) := by
  unfold L1_1
  cases V1_1 st with
  | none => rfl
  | some x => simp only [P.bits_Be_l1_1_eq]; rfl
theorem loop1_1 : LoopOk D1 (loopAt Tryd.f119 1) := loopOk_lp (X := Int × Int × (List Int)) (Y := (Int × Int × (List Int))) (fun x => S1_1 x.1 x.2.1 x.2.2) V1_1_ok (stp := (fun (x : Int × Int × (List Int)) (next : (Int × Int × (List Int)) → Option R) (ex : ((Int × Int × (List Int))) → Option R) => P.bits_Be_r1_1 x.1 x.2.1 x.2.2 (fun v2 v3 h0 => next (v2, v3, h0)) (fun v2 v3 h0 => ex ((v2, v3, h0))))) (enc := E1_1) (L := L1_1) (by kernel_rfl) lq1_1 round1_1
theorem body (a0 : Int) (a1 : Int) (K : AVal → Option R) : bodyA D Tryd.f68 [.fr 5 (.ints .u8 [])] [.v (.int .u64 a0), .v (.int .i64 a1)] K = P.bits_Be a0 a1 (fun r0 => K (.fr 5 (.ints .u8 r0))) := by
  rw [P.bits_Be_eq]
  kernel_rfl
theorem loops : loopsOf (Tryd.f68.body.getD .skip) = [] := by kernel_rfl
theorem loops1 : loopsOf (Tryd.f119.body.getD .skip) = [loopAt Tryd.f119 1] := by kernel_rfl
noncomputable def spec0 : Abs.Spec := fun args K => match args with
  | [.v (.int .u64 a0), .v (.int .i64 a1)] => P.bits_Be a0 a1 (fun r0 => K (.fr 5 (.ints .u8 r0)))
  | _ => none
noncomputable def spec : Abs.Spec := spec0
theorem ok0 : Proved Tryd.prog [(0, [.arr .u32 64 P.roots256]), (1, [.arr .u64 80 P.roots512])] 68 spec0 := by
  refine proved_of (D := D) (fn := Tryd.f68) (c := Tryd.f68.body.getD .skip) [.fr 5 (.ints .u8 [])] (by kernel_rfl) (globsPlain_of (by kernel_rfl)) (by kernel_rfl) (by kernel_rfl) (by kernel_rfl) ⟨bits_Le.ok, trivial⟩ ⟨run_of (D := D1) (D' := D) (fn := Tryd.f119) (c := Tryd.f119.body.getD .skip) rfl rfl (by kernel_rfl) (globsPlain_of (by kernel_rfl)) (by kernel_rfl) (by kernel_rfl) (by kernel_rfl) ⟨bits_Le.ok, trivial⟩ trivial (by rw [loops1]; exact ⟨loop1_1, trivial⟩) (fun _ _ _ _ _ h => h), trivial⟩ ?_ ?_
  · rw [loops]; exact trivial
  · intro args K r h
    unfold spec0 at h
    split at h
    · rw [body]; exact h
    · cases h
theorem ok : Proved Tryd.prog [(0, [.arr .u32 64 P.roots256]), (1, [.arr .u64 80 P.roots512])] 68 spec := ok0
end bits_Be
end

section
open Go Go.Abs Go.Proofs
set_option maxRecDepth 100000
set_option linter.unusedVariables false
namespace sha_blockSize
noncomputable def D : Ctx := ({ P := Tryd.prog, G := [], globs := [(0, [.arr .u32 64 P.roots256]), (1, [.arr .u64 80 P.roots512])], hints := [], loops := [], inl := [] } : Ctx)
theorem body (a0 : Int) (K : AVal → Option R) : bodyA D Tryd.f67 [.any] [.v (.int .i64 a0)] K = P.sha_blockSize a0 (fun r0 => K (.v (.int .i64 r0))) := by
  rw [P.sha_blockSize_eq]
  kernel_rfl
theorem loops : loopsOf (Tryd.f67.body.getD .skip) = [] := by kernel_rfl
noncomputable def spec0 : Abs.Spec := fun args K => match args with
  | [.v (.int .i64 a0)] => P.sha_blockSize a0 (fun r0 => K (.v (.int .i64 r0)))
  | _ => none
noncomputable def spec : Abs.Spec := spec0
theorem ok0 : Proved Tryd.prog [(0, [.arr .u32 64 P.roots256]), (1, [.arr .u64 80 P.roots512])] 67 spec0 := by
  refine proved_of (D := D) (fn := Tryd.f67) (c := Tryd.f67.body.getD .skip) [.any] (by kernel_rfl) (globsPlain_of (by kernel_rfl)) (by kernel_rfl) (by kernel_rfl) (by kernel_rfl) trivial trivial ?_ ?_
  · rw [loops]; exact trivial
  · intro args K r h
    unfold spec0 at h
    split at h
    · rw [body]; exact h
    · cases h
theorem ok : Proved Tryd.prog [(0, [.arr .u32 64 P.roots256]), (1, [.arr .u64 80 P.roots512])] 67 spec := ok0
end sha_blockSize
end

section
open Go Go.Abs Go.Proofs
set_option maxRecDepth 100000
set_option linter.unusedVariables false
namespace sha_End
def S10 (v3 : Int) (v45 : List Int) (v46 : Int) (h40 : List Int) (h0_0 : Int) (h0_1 : List Int) (h0_3 : Int) (h5 : List Int) : ASt := ⟨[(7, .own 40), (1, .ptr 0 0), (3, .v (.int .i64 v3)), (45, .arr .u64 8 v45), (46, .v (.int .i64 v46))], [(40, some ⟨.row 5 (.ints .u8 h40), false⟩), (0, some ⟨.box 26 [.v (.int .i64 h0_0), .arr .u64 8 h0_1, .own 5, .v (.int .u64 h0_3)], false⟩), (5, some ⟨.row 5 (.ints .u8 h5), false⟩)], 41, 62⟩
def V10 : ASt → Option (Int × (List Int) × Int × (List Int) × Int × (List Int) × Int × (List Int))
  | ⟨[(7, .own 40), (1, .ptr 0 0), (3, .v (.int .i64 v3)), (45, .arr .u64 8 v45), (46, .v (.int .i64 v46))], [(40, some ⟨.row 5 (.ints .u8 h40), false⟩), (0, some ⟨.box 26 [.v (.int .i64 h0_0), .arr .u64 8 h0_1, .own 5, .v (.int .u64 h0_3)], false⟩), (5, some ⟨.row 5 (.ints .u8 h5), false⟩)], 41, 62⟩ => some (v3, v45, v46, h40, h0_0, h0_1, h0_3, h5)
  | _ => none
theorem V10_ok (st : ASt) (x : Int × (List Int) × Int × (List Int) × Int × (List Int) × Int × (List Int)) (h : V10 st = some x) : st = S10 x.1 x.2.1 x.2.2.1 x.2.2.2.1 x.2.2.2.2.1 x.2.2.2.2.2.1 x.2.2.2.2.2.2.1 x.2.2.2.2.2.2.2 := by
  unfold V10 at h
  split at h
  · cases h; rfl
  · cases h
noncomputable def L10 : LSpec := fun st K => match V10 st with
  | some x => P.sha_End_l10 x.1 x.2.1 x.2.2.1 x.2.2.2.1 x.2.2.2.2.1 x.2.2.2.2.2.1 x.2.2.2.2.2.2.1 x.2.2.2.2.2.2.2 (fun v3 v45 v46 h40 h0_0 h0_1 h0_3 h5 => K (.exit 0) (S10 v3 v45 v46 h40 h0_0 h0_1 h0_3 h5))
  | none => none
noncomputable def D : Ctx := ({ P := Tryd.prog, G := [(15, sha_Add.spec), (67, sha_blockSize.spec), (68, bits_Be.spec)], globs := [(0, [.arr .u32 64 P.roots256]), (1, [.arr .u64 80 P.roots512])], hints := [(10, ⟨[1, 3, 45, 46], [(7, 5, .ints .u8 [])], [2], [], some (40, [0, 5]), []⟩)], loops := [(10, L10)], inl := [] } : Ctx)
def E10 (K : AExit → ASt → Option R) : ((Int × (List Int) × Int × (List Int) × Int × (List Int) × Int × (List Int))) → Option R := (fun x => K (.exit 0) (S10 x.1 x.2.1 x.2.2.1 x.2.2.2.1 x.2.2.2.2.1 x.2.2.2.2.2.1 x.2.2.2.2.2.2.1 x.2.2.2.2.2.2.2))
theorem round10 (K : AExit → ASt → Option R) (next : ASt → Option R) (x : Int × (List Int) × Int × (List Int) × Int × (List Int) × Int × (List Int)) : roundA D (loopAt Tryd.f19 10) K next (S10 x.1 x.2.1 x.2.2.1 x.2.2.2.1 x.2.2.2.2.1 x.2.2.2.2.2.1 x.2.2.2.2.2.2.1 x.2.2.2.2.2.2.2) = (fun (x : Int × (List Int) × Int × (List Int) × Int × (List Int) × Int × (List Int)) (next : (Int × (List Int) × Int × (List Int) × Int × (List Int) × Int × (List Int)) → Option R) (ex : ((Int × (List Int) × Int × (List Int) × Int × (List Int) × Int × (List Int))) → Option R) => P.sha_End_r10 x.1 x.2.1 x.2.2.1 x.2.2.2.1 x.2.2.2.2.1 x.2.2.2.2.2.1 x.2.2.2.2.2.2.1 x.2.2.2.2.2.2.2 (fun v3 v45 v46 h40 h0_0 h0_1 h0_3 h5 => next (v3, v45, v46, h40, h0_0, h0_1, h0_3, h5)) (fun v3 v45 v46 h40 h0_0 h0_1 h0_3 h5 => ex ((v3, v45, v46, h40, h0_0, h0_1, h0_3, h5)))) x (fun x => next (S10 x.1 x.2.1 x.2.2.1 x.2.2.2.1 x.2.2.2.2.1 x.2.2.2.2.2.1 x.2.2.2.2.2.2.1 x.2.2.2.2.2.2.2)) (E10 K) := by kernel_rfl
theorem lq10 (st : ASt) (K : AExit → ASt → Option R) : L10 st K = vMap (V10 st) (fun x => lp (fun (x : Int × (List Int) × Int × (List Int) × Int × (List Int) × Int × (List Int)) (next : (Int × (List Int) × Int × (List Int) × Int × (List Int) × Int × (List Int)) → Option R) (ex : ((Int × (List Int) × Int × (List Int) × Int × (List Int) × Int × (List Int))) → Option R) => P.sha_End_r10 x.1 x.2.1 x.2.2.1 x.2.2.2.1 x.2.2.2.2.1 x.2.2.2.2.2.1 x.2.2.2.2.2.2.1 x.2.2.2.2.2.2.2 (fun v3 v45 v46 h40 h0_0 h0_1 h0_3 h5 => next (v3, v45, v46, h40, h0_0, h0_1, h0_3, h5)) (fun v3 v45 v46 h40 h0_0 h0_1 h0_3 h5 => ex ((v3, v45, v46, h40, h0_0, h0_1, h0_3, h5)))) x (E10 K)) := by
  unfold L10
  cases V10 st with
  | none => rfl
  | some x => simp only [P.sha_End_l10_eq]; rfl
theorem loop10 : LoopOk D (loopAt Tryd.f19 10) := loopOk_lp (X := Int × (List Int) × Int × (List Int) × Int × (List Int) × Int × (List Int)) (Y := (Int × (List Int) × Int × (List Int) × Int × (List Int) × Int × (List Int))) (fun x => S10 x.1 x.2.1 x.2.2.1 x.2.2.2.1 x.2.2.2.2.1 x.2.2.2.2.2.1 x.2.2.2.2.2.2.1 x.2.2.2.2.2.2.2) V10_ok (stp := (fun (x : Int × (List Int) × Int × (List Int) × Int × (List Int) × Int × (List Int)) (next : (Int × (List Int) × Int × (List Int) × Int × (List Int) × Int × (List Int)) → Option R) (ex : ((Int × (List Int) × Int × (List Int) × Int × (List Int) × Int × (List Int))) → Option R) => P.sha_End_r10 x.1 x.2.1 x.2.2.1 x.2.2.2.1 x.2.2.2.2.1 x.2.2.2.2.2.1 x.2.2.2.2.2.2.1 x.2.2.2.2.2.2.2 (fun v3 v45 v46 h40 h0_0 h0_1 h0_3 h5 => next (v3, v45, v46, h40, h0_0, h0_1, h0_3, h5)) (fun v3 v45 v46 h40 h0_0 h0_1 h0_3 h5 => ex ((v3, v45, v46, h40, h0_0, h0_1, h0_3, h5))))) (enc := E10) (L := L10) (by kernel_rfl) lq10 round10
theorem body (a0_Kind : Int) (a0_Words : List Int) (a0_Tail : List Int) (a0_Size : Int) (K : AVal → Option R) : bodyW D Tryd.f19 5 (.ints .u8 []) [.agg [.v (.int .i64 a0_Kind), .arr .u64 8 a0_Words, .sl (.ints .u8 a0_Tail), .v (.int .u64 a0_Size)]] K = P.sha_End a0_Kind a0_Words a0_Tail a0_Size (fun r0 => K (.fr 5 (.ints .u8 r0))) := by
  rw [P.sha_End_eq]
  kernel_rfl
theorem loops : loopsOf (Tryd.f19.body.getD .skip) = [loopAt Tryd.f19 10] := by kernel_rfl
noncomputable def spec0 : Abs.Spec := fun args K => match args with
  | [.agg [.v (.int .i64 a0_Kind), .arr .u64 8 a0_Words, .sl (.ints .u8 a0_Tail), .v (.int .u64 a0_Size)]] => P.sha_End a0_Kind a0_Words a0_Tail a0_Size (fun r0 => K (.fr 5 (.ints .u8 r0)))
  | _ => none
noncomputable def spec : Abs.Spec := fun args K => spec0 (coerL [.agg [.any, .any, .sl (.ints .u8 []), .any]] args) K
theorem ok0 : Proved Tryd.prog [(0, [.arr .u32 64 P.roots256]), (1, [.arr .u64 80 P.roots512])] 19 spec0 := by
  refine provedW_of (D := D) (fn := Tryd.f19) (c := Tryd.f19.body.getD .skip) 5 (.ints .u8 []) (by kernel_rfl) (globsPlain_of (by kernel_rfl)) (by kernel_rfl) (by kernel_rfl) (by kernel_rfl) ⟨sha_Add.ok, sha_blockSize.ok, bits_Be.ok, trivial⟩ trivial ?_ ?_
  · rw [loops]; exact ⟨loop10, trivial⟩
  · intro args K r h
    unfold spec0 at h
    split at h
    · rw [body]; exact h
    · cases h
theorem ok : Proved Tryd.prog [(0, [.arr .u32 64 P.roots256]), (1, [.arr .u64 80 P.roots512])] 19 spec := proved_coer _ ok0
end sha_End
end

section
open Go Go.Abs Go.Proofs
set_option maxRecDepth 100000
set_option linter.unusedVariables false
namespace sha_begin
noncomputable def D : Ctx := ({ P := Tryd.prog, G := [], globs := [(0, [.arr .u32 64 P.roots256]), (1, [.arr .u64 80 P.roots512])], hints := [], loops := [], inl := [] } : Ctx)
theorem body (a0 : Int) (K : AVal → Option R) : bodyA D Tryd.f69 [.any, .any] [.v (.int .i64 a0)] K = P.sha_begin a0 (fun r0 r1 => K (.tuple [.arr .u64 8 r0, .v (.bool r1)])) := by
  rw [P.sha_begin_eq]
  kernel_rfl
theorem loops : loopsOf (Tryd.f69.body.getD .skip) = [] := by kernel_rfl
noncomputable def spec0 : Abs.Spec := fun args K => match args with
  | [.v (.int .i64 a0)] => P.sha_begin a0 (fun r0 r1 => K (.tuple [.arr .u64 8 r0, .v (.bool r1)]))
  | _ => none
noncomputable def spec : Abs.Spec := spec0
theorem ok0 : Proved Tryd.prog [(0, [.arr .u32 64 P.roots256]), (1, [.arr .u64 80 P.roots512])] 69 spec0 := by
  refine proved_of (D := D) (fn := Tryd.f69) (c := Tryd.f69.body.getD .skip) [.any, .any] (by kernel_rfl) (globsPlain_of (by kernel_rfl)) (by kernel_rfl) (by kernel_rfl) (by kernel_rfl) trivial trivial ?_ ?_
  · rw [loops]; exact trivial
  · intro args K r h
    unfold spec0 at h
    split at h
    · rw [body]; exact h
    · cases h
theorem ok : Proved Tryd.prog [(0, [.arr .u32 64 P.roots256]), (1, [.arr .u64 80 P.roots512])] 69 spec := ok0
end sha_begin
end

section
open Go Go.Abs Go.Proofs
set_option maxRecDepth 100000
set_option linter.unusedVariables false
namespace sha_New
noncomputable def D : Ctx := ({ P := Tryd.prog, G := [(69, sha_begin.spec)], globs := [(0, [.arr .u32 64 P.roots256]), (1, [.arr .u64 80 P.roots512])], hints := [], loops := [], inl := [] } : Ctx)
theorem body (a0 : Int) (K : AVal → Option R) : bodyA D Tryd.f21 [.agg [.any, .any, .fr 5 (.ints .u8 []), .any], .any] [.v (.int .i64 a0)] K = P.sha_New a0 (fun r0_Kind r0_Words r0_Tail r0_Size r1 => K (.tuple [.agg [.v (.int .i64 r0_Kind), .arr .u64 8 r0_Words, .fr 5 (.ints .u8 r0_Tail), .v (.int .u64 r0_Size)], .v (.int .i64 r1)])) := by
  rw [P.sha_New_eq]
  kernel_rfl
theorem loops : loopsOf (Tryd.f21.body.getD .skip) = [] := by kernel_rfl
noncomputable def spec0 : Abs.Spec := fun args K => match args with
  | [.v (.int .i64 a0)] => P.sha_New a0 (fun r0_Kind r0_Words r0_Tail r0_Size r1 => K (.tuple [.agg [.v (.int .i64 r0_Kind), .arr .u64 8 r0_Words, .fr 5 (.ints .u8 r0_Tail), .v (.int .u64 r0_Size)], .v (.int .i64 r1)]))
  | _ => none
noncomputable def spec : Abs.Spec := spec0
theorem ok0 : Proved Tryd.prog [(0, [.arr .u32 64 P.roots256]), (1, [.arr .u64 80 P.roots512])] 21 spec0 := by
  refine proved_of (D := D) (fn := Tryd.f21) (c := Tryd.f21.body.getD .skip) [.agg [.any, .any, .fr 5 (.ints .u8 []), .any], .any] (by kernel_rfl) (globsPlain_of (by kernel_rfl)) (by kernel_rfl) (by kernel_rfl) (by kernel_rfl) ⟨sha_begin.ok, trivial⟩ trivial ?_ ?_
  · rw [loops]; exact trivial
  · intro args K r h
    unfold spec0 at h
    split at h
    · rw [body]; exact h
    · cases h
theorem ok : Proved Tryd.prog [(0, [.arr .u32 64 P.roots256]), (1, [.arr .u64 80 P.roots512])] 21 spec := ok0
end sha_New
end

section
open Go Go.Abs Go.Proofs
set_option maxRecDepth 100000
set_option linter.unusedVariables false
namespace sha_Sum
noncomputable def D : Ctx := ({ P := Tryd.prog, G := [(15, sha_Add.spec), (19, sha_End.spec), (21, sha_New.spec)], globs := [(0, [.arr .u32 64 P.roots256]), (1, [.arr .u64 80 P.roots512])], hints := [], loops := [], inl := [] } : Ctx)
theorem body (a0 : Int) (a1 : List Int) (K : AVal → Option R) : bodyA D Tryd.f23 [.fr 5 (.ints .u8 []), .any] [.v (.int .i64 a0), .sl (.ints .u8 a1)] K = P.sha_Sum a0 a1 (fun r0 r1 => K (.tuple [.fr 5 (.ints .u8 r0), .v (.int .i64 r1)])) := by
  rw [P.sha_Sum_eq]
  kernel_rfl
theorem loops : loopsOf (Tryd.f23.body.getD .skip) = [] := by kernel_rfl
noncomputable def spec0 : Abs.Spec := fun args K => match args with
  | [.v (.int .i64 a0), .sl (.ints .u8 a1)] => P.sha_Sum a0 a1 (fun r0 r1 => K (.tuple [.fr 5 (.ints .u8 r0), .v (.int .i64 r1)]))
  | _ => none
noncomputable def spec : Abs.Spec := fun args K => spec0 (coerL [.any, .sl (.ints .u8 [])] args) K
theorem ok0 : Proved Tryd.prog [(0, [.arr .u32 64 P.roots256]), (1, [.arr .u64 80 P.roots512])] 23 spec0 := by
  refine proved_of (D := D) (fn := Tryd.f23) (c := Tryd.f23.body.getD .skip) [.fr 5 (.ints .u8 []), .any] (by kernel_rfl) (globsPlain_of (by kernel_rfl)) (by kernel_rfl) (by kernel_rfl) (by kernel_rfl) ⟨sha_Add.ok, sha_End.ok, sha_New.ok, trivial⟩ trivial ?_ ?_
  · rw [loops]; exact trivial
  · intro args K r h
    unfold spec0 at h
    split at h
    · rw [body]; exact h
    · cases h
theorem ok : Proved Tryd.prog [(0, [.arr .u32 64 P.roots256]), (1, [.arr .u64 80 P.roots512])] 23 spec := proved_coer _ ok0
end sha_Sum
end

section
open Go Go.Abs Go.Proofs
set_option maxRecDepth 100000
set_option linter.unusedVariables false
namespace sector_Read
noncomputable def D : Ctx := ({ P := Tryd.prog, G := [(23, sha_Sum.spec), (74, bits_Same.spec), (75, bits_Num.spec)], globs := [(0, [.arr .u32 64 P.roots256]), (1, [.arr .u64 80 P.roots512])], hints := [], loops := [], inl := [] } : Ctx)
theorem body (a0 : List Int) (K : AVal → Option R) : bodyA D Tryd.f31 [.any, .any] [.sl (.ints .u8 a0)] K = P.sector_Read a0 (fun r0_Epoch r0_Bound r1 => K (.tuple [.agg [.v (.int .u64 r0_Epoch), .v (.int .u64 r0_Bound)], .v (.bool r1)])) := by
  rw [P.sector_Read_eq]
  kernel_rfl
theorem loops : loopsOf (Tryd.f31.body.getD .skip) = [] := by kernel_rfl
noncomputable def spec0 : Abs.Spec := fun args K => match args with
  | [.sl (.ints .u8 a0)] => P.sector_Read a0 (fun r0_Epoch r0_Bound r1 => K (.tuple [.agg [.v (.int .u64 r0_Epoch), .v (.int .u64 r0_Bound)], .v (.bool r1)]))
  | _ => none
noncomputable def spec : Abs.Spec := fun args K => spec0 (coerL [.sl (.ints .u8 [])] args) K
theorem ok0 : Proved Tryd.prog [(0, [.arr .u32 64 P.roots256]), (1, [.arr .u64 80 P.roots512])] 31 spec0 := by
  refine proved_of (D := D) (fn := Tryd.f31) (c := Tryd.f31.body.getD .skip) [.any, .any] (by kernel_rfl) (globsPlain_of (by kernel_rfl)) (by kernel_rfl) (by kernel_rfl) (by kernel_rfl) ⟨sha_Sum.ok, bits_Same.ok, bits_Num.ok, trivial⟩ trivial ?_ ?_
  · rw [loops]; exact trivial
  · intro args K r h
    unfold spec0 at h
    split at h
    · rw [body]; exact h
    · cases h
theorem ok : Proved Tryd.prog [(0, [.arr .u32 64 P.roots256]), (1, [.arr .u64 80 P.roots512])] 31 spec := proved_coer _ ok0
end sector_Read
end

section
open Go Go.Abs Go.Proofs
set_option maxRecDepth 100000
set_option linter.unusedVariables false
namespace sector_Best
def S2_1 (v7_0 : List Int) (v7_1 : List Int) (v8 : Int) (h1_0 : Int) (h1_1 : Int) (h2_0 : Int) (h2_1 : Int) (h3_0 : Int) (h4_0 : Int) : ASt := ⟨[(0, .yld 6 [2, 5, 6, 7] [.ptr 1 0, .ptr 2 0, .ptr 3 0, .ptr 4 0]), (7, .agg [.sl (.ints .u8 v7_0), .sl (.ints .u8 v7_1)]), (8, .v (.int .i64 v8))], [(1, some ⟨.box 48 [.v (.int .u64 h1_0), .v (.int .u64 h1_1)], false⟩), (2, some ⟨.box 48 [.v (.int .u64 h2_0), .v (.int .u64 h2_1)], false⟩), (3, some ⟨.box 3 [.v (.int .i64 h3_0)], false⟩), (4, some ⟨.box 34 [.v (.int .i64 h4_0)], false⟩)], 840, 26⟩
def V2_1 : ASt → Option ((List Int) × (List Int) × Int × Int × Int × Int × Int × Int × Int)
  | ⟨[(0, .yld 6 [2, 5, 6, 7] [.ptr 1 0, .ptr 2 0, .ptr 3 0, .ptr 4 0]), (7, .agg [.sl (.ints .u8 v7_0), .sl (.ints .u8 v7_1)]), (8, .v (.int .i64 v8))], [(1, some ⟨.box 48 [.v (.int .u64 h1_0), .v (.int .u64 h1_1)], false⟩), (2, some ⟨.box 48 [.v (.int .u64 h2_0), .v (.int .u64 h2_1)], false⟩), (3, some ⟨.box 3 [.v (.int .i64 h3_0)], false⟩), (4, some ⟨.box 34 [.v (.int .i64 h4_0)], false⟩)], 840, 26⟩ => some (v7_0, v7_1, v8, h1_0, h1_1, h2_0, h2_1, h3_0, h4_0)
  | _ => none
theorem V2_1_ok (st : ASt) (x : (List Int) × (List Int) × Int × Int × Int × Int × Int × Int × Int) (h : V2_1 st = some x) : st = S2_1 x.1 x.2.1 x.2.2.1 x.2.2.2.1 x.2.2.2.2.1 x.2.2.2.2.2.1 x.2.2.2.2.2.2.1 x.2.2.2.2.2.2.2.1 x.2.2.2.2.2.2.2.2 := by
  unfold V2_1 at h
  split at h
  · cases h; rfl
  · cases h
noncomputable def L2_1 : LSpec := fun st K => match V2_1 st with
  | some x => P.sector_Best_l2_1 x.1 x.2.1 x.2.2.1 x.2.2.2.1 x.2.2.2.2.1 x.2.2.2.2.2.1 x.2.2.2.2.2.2.1 x.2.2.2.2.2.2.2.1 x.2.2.2.2.2.2.2.2 (fun v7_0 v7_1 v8 h1_0 h1_1 h2_0 h2_1 h3_0 h4_0 => K (.exit 0) (S2_1 v7_0 v7_1 v8 h1_0 h1_1 h2_0 h2_1 h3_0 h4_0))
  | none => none
noncomputable def D3 : Ctx := ({ P := Tryd.prog, G := [(31, sector_Read.spec)], globs := [(0, [.arr .u32 64 P.roots256]), (1, [.arr .u64 80 P.roots512])], hints := [], loops := [], inl := [], y := some (ycOf (rngAt Tryd.f33 5) 29 false) } : Ctx)
noncomputable def D2 : Ctx := ({ P := Tryd.prog, G := [(31, sector_Read.spec)], globs := [(0, [.arr .u32 64 P.roots256]), (1, [.arr .u64 80 P.roots512])], hints := [(1, ⟨[0, 7, 8], [], [], [], some (840, [1, 2, 3, 4]), [1, 2, 3, 4]⟩)], loops := [(1, L2_1)], inl := [], y := some (ycOf (rngAt Tryd.f33 5) 29 true), ys := some (roundY D3 (ycOf (rngAt Tryd.f33 5) 29 true)) } : Ctx)
noncomputable def D1 : Ctx := ({ P := Tryd.prog, G := [(31, sector_Read.spec)], globs := [(0, [.arr .u32 64 P.roots256]), (1, [.arr .u64 80 P.roots512])], hints := [], loops := [], inl := [] } : Ctx)
noncomputable def D : Ctx := ({ P := Tryd.prog, G := [(31, sector_Read.spec)], globs := [(0, [.arr .u32 64 P.roots256]), (1, [.arr .u64 80 P.roots512])], hints := [], loops := [], inl := [(77, bodyIn D1 Tryd.f77)], top := true, rng := [(5, ⟨121, 29, [2, 5, 6, 7], bodyIn D2 Tryd.f121⟩)] } : Ctx)
def E2_1 (K : AExit → ASt → Option R) : (((List Int) × (List Int) × Int × Int × Int × Int × Int × Int × Int)) → Option R := (fun x => K (.exit 0) (S2_1 x.1 x.2.1 x.2.2.1 x.2.2.2.1 x.2.2.2.2.1 x.2.2.2.2.2.1 x.2.2.2.2.2.2.1 x.2.2.2.2.2.2.2.1 x.2.2.2.2.2.2.2.2))
theorem round2_1 (K : AExit → ASt → Option R) (next : ASt → Option R) (x : (List Int) × (List Int) × Int × Int × Int × Int × Int × Int × Int) : roundA D2 (loopAt Tryd.f121 1) K next (S2_1 x.1 x.2.1 x.2.2.1 x.2.2.2.1 x.2.2.2.2.1 x.2.2.2.2.2.1 x.2.2.2.2.2.2.1 x.2.2.2.2.2.2.2.1 x.2.2.2.2.2.2.2.2) = (fun (x : (List Int) × (List Int) × Int × Int × Int × Int × Int × Int × Int) (next : ((List Int) × (List Int) × Int × Int × Int × Int × Int × Int × Int) → Option R) (ex : (((List Int) × (List Int) × Int × Int × Int × Int × Int × Int × Int)) → Option R) => P.sector_Best_r2_1 x.1 x.2.1 x.2.2.1 x.2.2.2.1 x.2.2.2.2.1 x.2.2.2.2.2.1 x.2.2.2.2.2.2.1 x.2.2.2.2.2.2.2.1 x.2.2.2.2.2.2.2.2 (fun v7_0 v7_1 v8 h1_0 h1_1 h2_0 h2_1 h3_0 h4_0 => next (v7_0, v7_1, v8, h1_0, h1_1, h2_0, h2_1, h3_0, h4_0)) (fun v7_0 v7_1 v8 h1_0 h1_1 h2_0 h2_1 h3_0 h4_0 => ex ((v7_0, v7_1, v8, h1_0, h1_1, h2_0, h2_1, h3_0, h4_0)))) x (fun x => next (S2_1 x.1 x.2.1 x.2.2.1 x.2.2.2.1 x.2.2.2.2.1 x.2.2.2.2.2.1 x.2.2.2.2.2.2.1 x.2.2.2.2.2.2.2.1 x.2.2.2.2.2.2.2.2)) (E2_1 K) := by kernel_rfl
theorem lq2_1 (st : ASt) (K : AExit → ASt → Option R) : L2_1 st K = vMap (V2_1 st) (fun x => lp (fun (x : (List Int) × (List Int) × Int × Int × Int × Int × Int × Int × Int) (next : ((List Int) × (List Int) × Int × Int × Int × Int × Int × Int × Int) → Option R) (ex : (((List Int) × (List Int) × Int × Int × Int × Int × Int × Int × Int)) → Option R) => P.sector_Best_r2_1 x.1 x.2.1 x.2.2.1 x.2.2.2.1 x.2.2.2.2.1 x.2.2.2.2.2.1 x.2.2.2.2.2.2.1 x.2.2.2.2.2.2.2.1 x.2.2.2.2.2.2.2.2 (fun v7_0 v7_1 v8 h1_0 h1_1 h2_0 h2_1 h3_0 h4_0 => next (v7_0, v7_1, v8, h1_0, h1_1, h2_0, h2_1, h3_0, h4_0)) (fun v7_0 v7_1 v8 h1_0 h1_1 h2_0 h2_1 h3_0 h4_0 => ex ((v7_0, v7_1, v8, h1_0, h1_1, h2_0, h2_1, h3_0, h4_0)))) x (E2_1 K)) := by
  unfold L2_1
  cases V2_1 st with
  | none => rfl
  | some x => simp only [P.sector_Best_l2_1_eq]; rfl
theorem loop2_1 : LoopOk D2 (loopAt Tryd.f121 1) := loopOk_lp (X := (List Int) × (List Int) × Int × Int × Int × Int × Int × Int × Int) (Y := ((List Int) × (List Int) × Int × Int × Int × Int × Int × Int × Int)) (fun x => S2_1 x.1 x.2.1 x.2.2.1 x.2.2.2.1 x.2.2.2.2.1 x.2.2.2.2.2.1 x.2.2.2.2.2.2.1 x.2.2.2.2.2.2.2.1 x.2.2.2.2.2.2.2.2) V2_1_ok (stp := (fun (x : (List Int) × (List Int) × Int × Int × Int × Int × Int × Int × Int) (next : ((List Int) × (List Int) × Int × Int × Int × Int × Int × Int × Int) → Option R) (ex : (((List Int) × (List Int) × Int × Int × Int × Int × Int × Int × Int)) → Option R) => P.sector_Best_r2_1 x.1 x.2.1 x.2.2.1 x.2.2.2.1 x.2.2.2.2.1 x.2.2.2.2.2.1 x.2.2.2.2.2.2.1 x.2.2.2.2.2.2.2.1 x.2.2.2.2.2.2.2.2 (fun v7_0 v7_1 v8 h1_0 h1_1 h2_0 h2_1 h3_0 h4_0 => next (v7_0, v7_1, v8, h1_0, h1_1, h2_0, h2_1, h3_0, h4_0)) (fun v7_0 v7_1 v8 h1_0 h1_1 h2_0 h2_1 h3_0 h4_0 => ex ((v7_0, v7_1, v8, h1_0, h1_1, h2_0, h2_1, h3_0, h4_0))))) (enc := E2_1) (L := L2_1) (by kernel_rfl) lq2_1 round2_1
theorem body (a0_0 : List Int) (a0_1 : List Int) (K : AVal → Option R) : bodyA D Tryd.f33 [.any, .any, .any] [.agg [.sl (.ints .u8 a0_0), .sl (.ints .u8 a0_1)]] K = P.sector_Best a0_0 a0_1 (fun r0_Epoch r0_Bound r1 r2 => K (.tuple [.agg [.v (.int .u64 r0_Epoch), .v (.int .u64 r0_Bound)], .v (.int .i64 r1), .v (.int .i64 r2)])) := by
  rw [P.sector_Best_eq]
  kernel_rfl
theorem loops : loopsOf (Tryd.f33.body.getD .skip) = [] := by kernel_rfl
theorem loops1 : loopsOf (Tryd.f77.body.getD .skip) = [] := by kernel_rfl
theorem loops2 : loopsOf (Tryd.f121.body.getD .skip) = [loopAt Tryd.f121 1] := by kernel_rfl
theorem loops3 : loopsOf (rbOf (rngAt Tryd.f33 5)) = [] := by kernel_rfl
theorem ranges : rangesOf (Tryd.f33.body.getD .skip) = [rngAt Tryd.f33 5] := by kernel_rfl
theorem round_y3 : RoundOk D2 (roundY D3 (ycOf (rngAt Tryd.f33 5) 29 true)) := roundY_ok (Y := ycOf (rngAt Tryd.f33 5) 29 true) (gok_of (D := D3) ⟨sector_Read.ok, trivial⟩) (globsPlain_of (by kernel_rfl)) (inl_of (D := D3) trivial (noYield rfl)) (by kernel_rfl) rfl rfl (by kernel_rfl) (by kernel_rfl) rfl rfl rfl (allLoops _ (by rw [show loopsOf (ycOf (rngAt Tryd.f33 5) 29 true).assign = [] from by kernel_rfl]; exact trivial)) (allLoops _ (by rw [show loopsOf (ycOf (rngAt Tryd.f33 5) 29 true).body = loopsOf (rbOf (rngAt Tryd.f33 5)) from by kernel_rfl, loops3]; exact trivial))
noncomputable def spec0 : Abs.Spec := fun args K => match args with
  | [.agg [.sl (.ints .u8 a0_0), .sl (.ints .u8 a0_1)]] => P.sector_Best a0_0 a0_1 (fun r0_Epoch r0_Bound r1 r2 => K (.tuple [.agg [.v (.int .u64 r0_Epoch), .v (.int .u64 r0_Bound)], .v (.int .i64 r1), .v (.int .i64 r2)]))
  | _ => none
noncomputable def spec : Abs.Spec := fun args K => spec0 (coerL [.agg [.sl (.ints .u8 []), .sl (.ints .u8 [])]] args) K
theorem ok0 : Proved Tryd.prog [(0, [.arr .u32 64 P.roots256]), (1, [.arr .u64 80 P.roots512])] 33 spec0 := by
  refine proved_of (D := D) (fn := Tryd.f33) (c := Tryd.f33.body.getD .skip) [.any, .any, .any] (by kernel_rfl) (globsPlain_of (by kernel_rfl)) (by kernel_rfl) (by kernel_rfl) (by kernel_rfl) ⟨sector_Read.ok, trivial⟩ ⟨run_of (D := D1) (D' := D) (fn := Tryd.f77) (c := Tryd.f77.body.getD .skip) rfl rfl (by kernel_rfl) (globsPlain_of (by kernel_rfl)) (by kernel_rfl) (by kernel_rfl) (by kernel_rfl) ⟨sector_Read.ok, trivial⟩ trivial (by rw [loops1]; exact trivial) (fun _ _ _ _ _ h => h), trivial⟩ ?_ ?_ (hRg := by rw [ranges]; exact ⟨rangeOk_of (D := D) (Di := D2) (e := ⟨121, 29, [2, 5, 6, 7], bodyIn D2 Tryd.f121⟩) (by kernel_rfl) rfl rfl (by kernel_rfl) (run_of (D := D2) (D' := D2) (fn := Tryd.f121) (c := Tryd.f121.body.getD .skip) rfl rfl (by kernel_rfl) (globsPlain_of (by kernel_rfl)) (by kernel_rfl) (by kernel_rfl) (by kernel_rfl) ⟨sector_Read.ok, trivial⟩ trivial (by rw [loops2]; exact ⟨loop2_1, trivial⟩) (fun _ _ _ _ _ h => h) rfl rfl (noRanges rfl _) (fun s hs => by have hs : some (roundY D3 (ycOf (rngAt Tryd.f33 5) 29 true)) = some s := hs; cases hs; exact round_y3)), trivial⟩)
  · rw [loops]; exact trivial
  · intro args K r h
    unfold spec0 at h
    split at h
    · rw [body]; exact h
    · cases h
theorem ok : Proved Tryd.prog [(0, [.arr .u32 64 P.roots256]), (1, [.arr .u64 80 P.roots512])] 33 spec := proved_coer _ ok0
end sector_Best
end

section
open Go Go.Abs Go.Proofs
set_option maxRecDepth 100000
set_option linter.unusedVariables false
namespace bits_Join
noncomputable def D : Ctx := ({ P := Tryd.prog, G := [(59, slices_Concat_byte.spec)], globs := [(0, [.arr .u32 64 P.roots256]), (1, [.arr .u64 80 P.roots512])], hints := [], loops := [], inl := [] } : Ctx)
theorem body (a0 : List (List Int)) (K : AVal → Option R) : bodyA D Tryd.f76 [.fr 5 (.ints .u8 [])] [.sl (.rows .u8 a0)] K = P.bits_Join a0 (fun r0 => K (.fr 5 (.ints .u8 r0))) := by
  rw [P.bits_Join_eq]
  kernel_rfl
theorem loops : loopsOf (Tryd.f76.body.getD .skip) = [] := by kernel_rfl
noncomputable def spec0 : Abs.Spec := fun args K => match args with
  | [.sl (.rows .u8 a0)] => P.bits_Join a0 (fun r0 => K (.fr 5 (.ints .u8 r0)))
  | _ => none
noncomputable def spec : Abs.Spec := fun args K => spec0 (coerL [.sl (.rows .u8 [])] args) K
theorem ok0 : Proved Tryd.prog [(0, [.arr .u32 64 P.roots256]), (1, [.arr .u64 80 P.roots512])] 76 spec0 := by
  refine proved_of (D := D) (fn := Tryd.f76) (c := Tryd.f76.body.getD .skip) [.fr 5 (.ints .u8 [])] (by kernel_rfl) (globsPlain_of (by kernel_rfl)) (by kernel_rfl) (by kernel_rfl) (by kernel_rfl) ⟨slices_Concat_byte.ok, trivial⟩ trivial ?_ ?_
  · rw [loops]; exact trivial
  · intro args K r h
    unfold spec0 at h
    split at h
    · rw [body]; exact h
    · cases h
theorem ok : Proved Tryd.prog [(0, [.arr .u32 64 P.roots256]), (1, [.arr .u64 80 P.roots512])] 76 spec := proved_coer _ ok0
end bits_Join
end

section
open Go Go.Abs Go.Proofs
set_option maxRecDepth 100000
set_option linter.unusedVariables false
namespace sector_Bytes
noncomputable def D : Ctx := ({ P := Tryd.prog, G := [(23, sha_Sum.spec), (68, bits_Be.spec), (76, bits_Join.spec)], globs := [(0, [.arr .u32 64 P.roots256]), (1, [.arr .u64 80 P.roots512])], hints := [], loops := [], inl := [] } : Ctx)
theorem body (a0_Epoch : Int) (a0_Bound : Int) (K : AVal → Option R) : bodyA D Tryd.f32 [.fr 5 (.ints .u8 [])] [.agg [.v (.int .u64 a0_Epoch), .v (.int .u64 a0_Bound)]] K = P.sector_Bytes a0_Epoch a0_Bound (fun r0 => K (.fr 5 (.ints .u8 r0))) := by
  rw [P.sector_Bytes_eq]
  kernel_rfl
theorem loops : loopsOf (Tryd.f32.body.getD .skip) = [] := by kernel_rfl
noncomputable def spec0 : Abs.Spec := fun args K => match args with
  | [.agg [.v (.int .u64 a0_Epoch), .v (.int .u64 a0_Bound)]] => P.sector_Bytes a0_Epoch a0_Bound (fun r0 => K (.fr 5 (.ints .u8 r0)))
  | _ => none
noncomputable def spec : Abs.Spec := spec0
theorem ok0 : Proved Tryd.prog [(0, [.arr .u32 64 P.roots256]), (1, [.arr .u64 80 P.roots512])] 32 spec0 := by
  refine proved_of (D := D) (fn := Tryd.f32) (c := Tryd.f32.body.getD .skip) [.fr 5 (.ints .u8 [])] (by kernel_rfl) (globsPlain_of (by kernel_rfl)) (by kernel_rfl) (by kernel_rfl) (by kernel_rfl) ⟨sha_Sum.ok, bits_Be.ok, bits_Join.ok, trivial⟩ trivial ?_ ?_
  · rw [loops]; exact trivial
  · intro args K r h
    unfold spec0 at h
    split at h
    · rw [body]; exact h
    · cases h
theorem ok : Proved Tryd.prog [(0, [.arr .u32 64 P.roots256]), (1, [.arr .u64 80 P.roots512])] 32 spec := ok0
end sector_Bytes
end

section
open Go Go.Abs Go.Proofs
set_option maxRecDepth 100000
set_option linter.unusedVariables false
namespace sector_New
noncomputable def D : Ctx := ({ P := Tryd.prog, G := [(32, sector_Bytes.spec)], globs := [(0, [.arr .u32 64 P.roots256]), (1, [.arr .u64 80 P.roots512])], hints := [], loops := [], inl := [] } : Ctx)
theorem body  (K : AVal → Option R) : bodyA D Tryd.f73 [.agg [.fr 5 (.ints .u8 []), .fr 5 (.ints .u8 [])]] [] K = P.sector_New (fun r0_0 r0_1 => K (.agg [.fr 5 (.ints .u8 r0_0), .fr 5 (.ints .u8 r0_1)])) := by
  rw [P.sector_New_eq]
  kernel_rfl
theorem loops : loopsOf (Tryd.f73.body.getD .skip) = [] := by kernel_rfl
noncomputable def spec0 : Abs.Spec := fun args K => match args with
  | [] => P.sector_New (fun r0_0 r0_1 => K (.agg [.fr 5 (.ints .u8 r0_0), .fr 5 (.ints .u8 r0_1)]))
  | _ => none
noncomputable def spec : Abs.Spec := spec0
theorem ok0 : Proved Tryd.prog [(0, [.arr .u32 64 P.roots256]), (1, [.arr .u64 80 P.roots512])] 73 spec0 := by
  refine proved_of (D := D) (fn := Tryd.f73) (c := Tryd.f73.body.getD .skip) [.agg [.fr 5 (.ints .u8 []), .fr 5 (.ints .u8 [])]] (by kernel_rfl) (globsPlain_of (by kernel_rfl)) (by kernel_rfl) (by kernel_rfl) (by kernel_rfl) ⟨sector_Bytes.ok, trivial⟩ trivial ?_ ?_
  · rw [loops]; exact trivial
  · intro args K r h
    unfold spec0 at h
    split at h
    · rw [body]; exact h
    · cases h
theorem ok : Proved Tryd.prog [(0, [.arr .u32 64 P.roots256]), (1, [.arr .u64 80 P.roots512])] 73 spec := ok0
end sector_New
end

section
open Go Go.Abs Go.Proofs
set_option maxRecDepth 100000
set_option linter.unusedVariables false
namespace L28_awake
noncomputable def D : Ctx := ({ P := Tryd.prog, G := [(33, sector_Best.spec), (73, sector_New.spec)], globs := [(0, [.arr .u32 64 P.roots256]), (1, [.arr .u64 80 P.roots512])], hints := [], loops := [], inl := [] } : Ctx)
theorem body  (K : AVal → Option R) : bodyA D Tryd.f30 [.any] [] K = P.L28_awake (fun r0 => K (.v (.bool r0))) := by
  rw [P.L28_awake_eq]
  kernel_rfl
theorem loops : loopsOf (Tryd.f30.body.getD .skip) = [] := by kernel_rfl
noncomputable def spec0 : Abs.Spec := fun args K => match args with
  | [] => P.L28_awake (fun r0 => K (.v (.bool r0)))
  | _ => none
noncomputable def spec : Abs.Spec := spec0
theorem ok0 : Proved Tryd.prog [(0, [.arr .u32 64 P.roots256]), (1, [.arr .u64 80 P.roots512])] 30 spec0 := by
  refine proved_of (D := D) (fn := Tryd.f30) (c := Tryd.f30.body.getD .skip) [.any] (by kernel_rfl) (globsPlain_of (by kernel_rfl)) (by kernel_rfl) (by kernel_rfl) (by kernel_rfl) ⟨sector_Best.ok, sector_New.ok, trivial⟩ trivial ?_ ?_
  · rw [loops]; exact trivial
  · intro args K r h
    unfold spec0 at h
    split at h
    · rw [body]; exact h
    · cases h
theorem ok : Proved Tryd.prog [(0, [.arr .u32 64 P.roots256]), (1, [.arr .u64 80 P.roots512])] 30 spec := ok0
end L28_awake
end

section
open Go Go.Abs Go.Proofs
set_option maxRecDepth 100000
set_option linter.unusedVariables false
namespace L28_few
noncomputable def D : Ctx := ({ P := Tryd.prog, G := [], globs := [(0, [.arr .u32 64 P.roots256]), (1, [.arr .u64 80 P.roots512])], hints := [], loops := [], inl := [] } : Ctx)
theorem body (a0_0 : List Int) (a0_1 : List Int) (K : AVal → Option R) : bodyA D Tryd.f29 [.any] [.agg [.sl (.ints .u8 a0_0), .sl (.ints .u8 a0_1)]] K = P.L28_few a0_0 a0_1 (fun r0 => K (.v (.bool r0))) := by
  rw [P.L28_few_eq]
  kernel_rfl
theorem loops : loopsOf (Tryd.f29.body.getD .skip) = [] := by kernel_rfl
noncomputable def spec0 : Abs.Spec := fun args K => match args with
  | [.agg [.sl (.ints .u8 a0_0), .sl (.ints .u8 a0_1)]] => P.L28_few a0_0 a0_1 (fun r0 => K (.v (.bool r0)))
  | _ => none
noncomputable def spec : Abs.Spec := fun args K => spec0 (coerL [.agg [.sl (.ints .u8 []), .sl (.ints .u8 [])]] args) K
theorem ok0 : Proved Tryd.prog [(0, [.arr .u32 64 P.roots256]), (1, [.arr .u64 80 P.roots512])] 29 spec0 := by
  refine proved_of (D := D) (fn := Tryd.f29) (c := Tryd.f29.body.getD .skip) [.any] (by kernel_rfl) (globsPlain_of (by kernel_rfl)) (by kernel_rfl) (by kernel_rfl) (by kernel_rfl) trivial trivial ?_ ?_
  · rw [loops]; exact trivial
  · intro args K r h
    unfold spec0 at h
    split at h
    · rw [body]; exact h
    · cases h
theorem ok : Proved Tryd.prog [(0, [.arr .u32 64 P.roots256]), (1, [.arr .u64 80 P.roots512])] 29 spec := proved_coer _ ok0
end L28_few
end

section
open Go Go.Abs Go.Proofs
set_option maxRecDepth 100000
set_option linter.unusedVariables false
namespace R01_Same
def S4 (v0 : List Int) (v1 : List Int) (v5 : Int) : ASt := ⟨[(0, .sl (.ints .u8 v0)), (1, .sl (.ints .u8 v1)), (5, .v (.int .i64 v5))], [], 0, 26⟩
def V4 : ASt → Option ((List Int) × (List Int) × Int)
  | ⟨[(0, .sl (.ints .u8 v0)), (1, .sl (.ints .u8 v1)), (5, .v (.int .i64 v5))], [], 0, 26⟩ => some (v0, v1, v5)
  | _ => none
theorem V4_ok (st : ASt) (x : (List Int) × (List Int) × Int) (h : V4 st = some x) : st = S4 x.1 x.2.1 x.2.2 := by
  unfold V4 at h
  split at h
  · cases h; rfl
  · cases h
noncomputable def L4 : LSpec := fun st K => match V4 st with
  | some x => P.R01_Same_l4 x.1 x.2.1 x.2.2 (fun v0 v1 v5 => K (.exit 0) (S4 v0 v1 v5)) (fun v4 => K .ret ⟨[(4, .v (.bool v4))], [], 0, 26⟩)
  | none => none
noncomputable def D : Ctx := ({ P := Tryd.prog, G := [], globs := [(0, [.arr .u32 64 P.roots256]), (1, [.arr .u64 80 P.roots512])], hints := [(4, ⟨[0, 1, 5], [], [4], [], none, []⟩)], loops := [(4, L4)], inl := [] } : Ctx)
def E4 (K : AExit → ASt → Option R) : (((List Int) × (List Int) × Int) ⊕ ((Bool))) → Option R := (Sum.elim (fun x => K (.exit 0) (S4 x.1 x.2.1 x.2.2)) (fun x => K .ret ⟨[(4, .v (.bool x))], [], 0, 26⟩))
theorem round4 (K : AExit → ASt → Option R) (next : ASt → Option R) (x : (List Int) × (List Int) × Int) : roundA D (loopAt Tryd.f18 4) K next (S4 x.1 x.2.1 x.2.2) = (fun (x : (List Int) × (List Int) × Int) (next : ((List Int) × (List Int) × Int) → Option R) (ex : (((List Int) × (List Int) × Int) ⊕ ((Bool))) → Option R) => P.R01_Same_r4 x.1 x.2.1 x.2.2 (fun v0 v1 v5 => next (v0, v1, v5)) (fun v0 v1 v5 => ex (.inl (v0, v1, v5))) (fun v4 => ex (.inr v4))) x (fun x => next (S4 x.1 x.2.1 x.2.2)) (E4 K) := by kernel_rfl
theorem lq4 (st : ASt) (K : AExit → ASt → Option R) : L4 st K = vMap (V4 st) (fun x => lp (fun (x : (List Int) × (List Int) × Int) (next : ((List Int) × (List Int) × Int) → Option R) (ex : (((List Int) × (List Int) × Int) ⊕ ((Bool))) → Option R) => P.R01_Same_r4 x.1 x.2.1 x.2.2 (fun v0 v1 v5 => next (v0, v1, v5)) (fun v0 v1 v5 => ex (.inl (v0, v1, v5))) (fun v4 => ex (.inr v4))) x (E4 K)) := by
  unfold L4
  cases V4 st with
  | none => rfl
  | some x => simp only [P.R01_Same_l4_eq]; rfl
theorem loop4 : LoopOk D (loopAt Tryd.f18 4) := loopOk_lp (X := (List Int) × (List Int) × Int) (Y := ((List Int) × (List Int) × Int) ⊕ ((Bool))) (fun x => S4 x.1 x.2.1 x.2.2) V4_ok (stp := (fun (x : (List Int) × (List Int) × Int) (next : ((List Int) × (List Int) × Int) → Option R) (ex : (((List Int) × (List Int) × Int) ⊕ ((Bool))) → Option R) => P.R01_Same_r4 x.1 x.2.1 x.2.2 (fun v0 v1 v5 => next (v0, v1, v5)) (fun v0 v1 v5 => ex (.inl (v0, v1, v5))) (fun v4 => ex (.inr v4)))) (enc := E4) (L := L4) (by kernel_rfl) lq4 round4
theorem body (a0 : List Int) (a1 : List Int) (K : AVal → Option R) : bodyA D Tryd.f18 [.any] [.sl (.ints .u8 a0), .sl (.ints .u8 a1)] K = P.R01_Same a0 a1 (fun r0 => K (.v (.bool r0))) := by
  rw [P.R01_Same_eq]
  kernel_rfl
theorem loops : loopsOf (Tryd.f18.body.getD .skip) = [loopAt Tryd.f18 4] := by kernel_rfl
noncomputable def spec0 : Abs.Spec := fun args K => match args with
  | [.sl (.ints .u8 a0), .sl (.ints .u8 a1)] => P.R01_Same a0 a1 (fun r0 => K (.v (.bool r0)))
  | _ => none
noncomputable def spec : Abs.Spec := fun args K => spec0 (coerL [.sl (.ints .u8 []), .sl (.ints .u8 [])] args) K
theorem ok0 : Proved Tryd.prog [(0, [.arr .u32 64 P.roots256]), (1, [.arr .u64 80 P.roots512])] 18 spec0 := by
  refine proved_of (D := D) (fn := Tryd.f18) (c := Tryd.f18.body.getD .skip) [.any] (by kernel_rfl) (globsPlain_of (by kernel_rfl)) (by kernel_rfl) (by kernel_rfl) (by kernel_rfl) trivial trivial ?_ ?_
  · rw [loops]; exact ⟨loop4, trivial⟩
  · intro args K r h
    unfold spec0 at h
    split at h
    · rw [body]; exact h
    · cases h
theorem ok : Proved Tryd.prog [(0, [.arr .u32 64 P.roots256]), (1, [.arr .u64 80 P.roots512])] 18 spec := proved_coer _ ok0
end R01_Same
end

section
open Go Go.Abs Go.Proofs
set_option maxRecDepth 100000
set_option linter.unusedVariables false
namespace R28_Same
noncomputable def D : Ctx := ({ P := Tryd.prog, G := [(18, R01_Same.spec)], globs := [(0, [.arr .u32 64 P.roots256]), (1, [.arr .u64 80 P.roots512])], hints := [], loops := [], inl := [] } : Ctx)
theorem body (a0_0 : List Int) (a0_1 : List Int) (a1_0 : List Int) (a1_1 : List Int) (K : AVal → Option R) : bodyA D Tryd.f35 [.any] [.agg [.sl (.ints .u8 a0_0), .sl (.ints .u8 a0_1)], .agg [.sl (.ints .u8 a1_0), .sl (.ints .u8 a1_1)]] K = P.R28_Same a0_0 a0_1 a1_0 a1_1 (fun r0 => K (.v (.bool r0))) := by
  rw [P.R28_Same_eq]
  kernel_rfl
theorem loops : loopsOf (Tryd.f35.body.getD .skip) = [] := by kernel_rfl
noncomputable def spec0 : Abs.Spec := fun args K => match args with
  | [.agg [.sl (.ints .u8 a0_0), .sl (.ints .u8 a0_1)], .agg [.sl (.ints .u8 a1_0), .sl (.ints .u8 a1_1)]] => P.R28_Same a0_0 a0_1 a1_0 a1_1 (fun r0 => K (.v (.bool r0)))
  | _ => none
noncomputable def spec : Abs.Spec := fun args K => spec0 (coerL [.agg [.sl (.ints .u8 []), .sl (.ints .u8 [])], .agg [.sl (.ints .u8 []), .sl (.ints .u8 [])]] args) K
theorem ok0 : Proved Tryd.prog [(0, [.arr .u32 64 P.roots256]), (1, [.arr .u64 80 P.roots512])] 35 spec0 := by
  refine proved_of (D := D) (fn := Tryd.f35) (c := Tryd.f35.body.getD .skip) [.any] (by kernel_rfl) (globsPlain_of (by kernel_rfl)) (by kernel_rfl) (by kernel_rfl) (by kernel_rfl) ⟨R01_Same.ok, trivial⟩ trivial ?_ ?_
  · rw [loops]; exact trivial
  · intro args K r h
    unfold spec0 at h
    split at h
    · rw [body]; exact h
    · cases h
theorem ok : Proved Tryd.prog [(0, [.arr .u32 64 P.roots256]), (1, [.arr .u64 80 P.roots512])] 35 spec := proved_coer _ ok0
end R28_Same
end

section
open Go Go.Abs Go.Proofs
set_option maxRecDepth 100000
set_option linter.unusedVariables false
namespace R01_Num
def S3 (v0 : List Int) (v3 : Int) (v4 : Int) : ASt := ⟨[(0, .sl (.ints .u8 v0)), (3, .v (.int .u64 v3)), (4, .v (.int .i64 v4))], [], 0, 20⟩
def V3 : ASt → Option ((List Int) × Int × Int)
  | ⟨[(0, .sl (.ints .u8 v0)), (3, .v (.int .u64 v3)), (4, .v (.int .i64 v4))], [], 0, 20⟩ => some (v0, v3, v4)
  | _ => none
theorem V3_ok (st : ASt) (x : (List Int) × Int × Int) (h : V3 st = some x) : st = S3 x.1 x.2.1 x.2.2 := by
  unfold V3 at h
  split at h
  · cases h; rfl
  · cases h
noncomputable def L3 : LSpec := fun st K => match V3 st with
  | some x => P.R01_Num_l3 x.1 x.2.1 x.2.2 (fun v0 v3 v4 => K (.exit 0) (S3 v0 v3 v4))
  | none => none
noncomputable def D : Ctx := ({ P := Tryd.prog, G := [], globs := [(0, [.arr .u32 64 P.roots256]), (1, [.arr .u64 80 P.roots512])], hints := [(3, ⟨[0, 3, 4], [], [2], [], none, []⟩)], loops := [(3, L3)], inl := [] } : Ctx)
def E3 (K : AExit → ASt → Option R) : (((List Int) × Int × Int)) → Option R := (fun x => K (.exit 0) (S3 x.1 x.2.1 x.2.2))
theorem round3 (K : AExit → ASt → Option R) (next : ASt → Option R) (x : (List Int) × Int × Int) : roundA D (loopAt Tryd.f24 3) K next (S3 x.1 x.2.1 x.2.2) = (fun (x : (List Int) × Int × Int) (next : ((List Int) × Int × Int) → Option R) (ex : (((List Int) × Int × Int)) → Option R) => P.R01_Num_r3 x.1 x.2.1 x.2.2 (fun v0 v3 v4 => next (v0, v3, v4)) (fun v0 v3 v4 => ex ((v0, v3, v4)))) x (fun x => next (S3 x.1 x.2.1 x.2.2)) (E3 K) := by kernel_rfl
theorem lq3 (st : ASt) (K : AExit → ASt → Option R) : L3 st K = vMap (V3 st) (fun x => lp (fun (x : (List Int) × Int × Int) (next : ((List Int) × Int × Int) → Option R) (ex : (((List Int) × Int × Int)) → Option R) => P.R01_Num_r3 x.1 x.2.1 x.2.2 (fun v0 v3 v4 => next (v0, v3, v4)) (fun v0 v3 v4 => ex ((v0, v3, v4)))) x (E3 K)) := by
  unfold L3
  cases V3 st with
  | none => rfl
  | some x => simp only [P.R01_Num_l3_eq]; rfl
theorem loop3 : LoopOk D (loopAt Tryd.f24 3) := loopOk_lp (X := (List Int) × Int × Int) (Y := ((List Int) × Int × Int)) (fun x => S3 x.1 x.2.1 x.2.2) V3_ok (stp := (fun (x : (List Int) × Int × Int) (next : ((List Int) × Int × Int) → Option R) (ex : (((List Int) × Int × Int)) → Option R) => P.R01_Num_r3 x.1 x.2.1 x.2.2 (fun v0 v3 v4 => next (v0, v3, v4)) (fun v0 v3 v4 => ex ((v0, v3, v4))))) (enc := E3) (L := L3) (by kernel_rfl) lq3 round3
theorem body (a0 : List Int) (K : AVal → Option R) : bodyA D Tryd.f24 [.any] [.sl (.ints .u8 a0)] K = P.R01_Num a0 (fun r0 => K (.v (.int .u64 r0))) := by
  rw [P.R01_Num_eq]
  kernel_rfl
theorem loops : loopsOf (Tryd.f24.body.getD .skip) = [loopAt Tryd.f24 3] := by kernel_rfl
noncomputable def spec0 : Abs.Spec := fun args K => match args with
  | [.sl (.ints .u8 a0)] => P.R01_Num a0 (fun r0 => K (.v (.int .u64 r0)))
  | _ => none
noncomputable def spec : Abs.Spec := fun args K => spec0 (coerL [.sl (.ints .u8 [])] args) K
theorem ok0 : Proved Tryd.prog [(0, [.arr .u32 64 P.roots256]), (1, [.arr .u64 80 P.roots512])] 24 spec0 := by
  refine proved_of (D := D) (fn := Tryd.f24) (c := Tryd.f24.body.getD .skip) [.any] (by kernel_rfl) (globsPlain_of (by kernel_rfl)) (by kernel_rfl) (by kernel_rfl) (by kernel_rfl) trivial trivial ?_ ?_
  · rw [loops]; exact ⟨loop3, trivial⟩
  · intro args K r h
    unfold spec0 at h
    split at h
    · rw [body]; exact h
    · cases h
theorem ok : Proved Tryd.prog [(0, [.arr .u32 64 P.roots256]), (1, [.arr .u64 80 P.roots512])] 24 spec := proved_coer _ ok0
end R01_Num
end

section
open Go Go.Abs Go.Proofs
set_option maxRecDepth 100000
set_option linter.unusedVariables false
namespace R01_Be
def S5 (v0 : Int) (v6 : Int) (h0 : List Int) : ASt := ⟨[(0, .v (.int .u64 v0)), (5, .own 0), (6, .v (.int .i64 v6))], [(0, some ⟨.row 5 (.ints .u8 h0), false⟩)], 1, 30⟩
def V5 : ASt → Option (Int × Int × (List Int))
  | ⟨[(0, .v (.int .u64 v0)), (5, .own 0), (6, .v (.int .i64 v6))], [(0, some ⟨.row 5 (.ints .u8 h0), false⟩)], 1, 30⟩ => some (v0, v6, h0)
  | _ => none
theorem V5_ok (st : ASt) (x : Int × Int × (List Int)) (h : V5 st = some x) : st = S5 x.1 x.2.1 x.2.2 := by
  unfold V5 at h
  split at h
  · cases h; rfl
  · cases h
noncomputable def L5 : LSpec := fun st K => match V5 st with
  | some x => P.R01_Be_l5 x.1 x.2.1 x.2.2 (fun v0 v6 h0 => K (.exit 0) (S5 v0 v6 h0))
  | none => none
noncomputable def D : Ctx := ({ P := Tryd.prog, G := [], globs := [(0, [.arr .u32 64 P.roots256]), (1, [.arr .u64 80 P.roots512])], hints := [(5, ⟨[0, 5, 6], [], [4], [], none, []⟩)], loops := [(5, L5)], inl := [] } : Ctx)
def E5 (K : AExit → ASt → Option R) : ((Int × Int × (List Int))) → Option R := (fun x => K (.exit 0) (S5 x.1 x.2.1 x.2.2))
theorem round5 (K : AExit → ASt → Option R) (next : ASt → Option R) (x : Int × Int × (List Int)) : roundA D (loopAt Tryd.f22 5) K next (S5 x.1 x.2.1 x.2.2) = (fun (x : Int × Int × (List Int)) (next : (Int × Int × (List Int)) → Option R) (ex : ((Int × Int × (List Int))) → Option R) => P.R01_Be_r5 x.1 x.2.1 x.2.2 (fun v0 v6 h0 => next (v0, v6, h0)) (fun v0 v6 h0 => ex ((v0, v6, h0)))) x (fun x => next (S5 x.1 x.2.1 x.2.2)) (E5 K) := by kernel_rfl
theorem lq5 (st : ASt) (K : AExit → ASt → Option R) : L5 st K = vMap (V5 st) (fun x => lp (fun (x : Int × Int × (List Int)) (next : (Int × Int × (List Int)) → Option R) (ex : ((Int × Int × (List Int))) → Option R) => P.R01_Be_r5 x.1 x.2.1 x.2.2 (fun v0 v6 h0 => next (v0, v6, h0)) (fun v0 v6 h0 => ex ((v0, v6, h0)))) x (E5 K)) := by
  unfold L5
  cases V5 st with
  | none => rfl
  | some x => simp only [P.R01_Be_l5_eq]; rfl
theorem loop5 : LoopOk D (loopAt Tryd.f22 5) := loopOk_lp (X := Int × Int × (List Int)) (Y := (Int × Int × (List Int))) (fun x => S5 x.1 x.2.1 x.2.2) V5_ok (stp := (fun (x : Int × Int × (List Int)) (next : (Int × Int × (List Int)) → Option R) (ex : ((Int × Int × (List Int))) → Option R) => P.R01_Be_r5 x.1 x.2.1 x.2.2 (fun v0 v6 h0 => next (v0, v6, h0)) (fun v0 v6 h0 => ex ((v0, v6, h0))))) (enc := E5) (L := L5) (by kernel_rfl) lq5 round5
theorem body (a0 : Int) (a1 : Int) (K : AVal → Option R) : bodyA D Tryd.f22 [.fr 5 (.ints .u8 [])] [.v (.int .u64 a0), .v (.int .i64 a1)] K = P.R01_Be a0 a1 (fun r0 => K (.fr 5 (.ints .u8 r0))) := by
  rw [P.R01_Be_eq]
  kernel_rfl
theorem loops : loopsOf (Tryd.f22.body.getD .skip) = [loopAt Tryd.f22 5] := by kernel_rfl
noncomputable def spec0 : Abs.Spec := fun args K => match args with
  | [.v (.int .u64 a0), .v (.int .i64 a1)] => P.R01_Be a0 a1 (fun r0 => K (.fr 5 (.ints .u8 r0)))
  | _ => none
noncomputable def spec : Abs.Spec := spec0
theorem ok0 : Proved Tryd.prog [(0, [.arr .u32 64 P.roots256]), (1, [.arr .u64 80 P.roots512])] 22 spec0 := by
  refine proved_of (D := D) (fn := Tryd.f22) (c := Tryd.f22.body.getD .skip) [.fr 5 (.ints .u8 [])] (by kernel_rfl) (globsPlain_of (by kernel_rfl)) (by kernel_rfl) (by kernel_rfl) (by kernel_rfl) trivial trivial ?_ ?_
  · rw [loops]; exact ⟨loop5, trivial⟩
  · intro args K r h
    unfold spec0 at h
    split at h
    · rw [body]; exact h
    · cases h
theorem ok : Proved Tryd.prog [(0, [.arr .u32 64 P.roots256]), (1, [.arr .u64 80 P.roots512])] 22 spec := ok0
end R01_Be
end

section
open Go Go.Abs Go.Proofs
set_option maxRecDepth 100000
set_option linter.unusedVariables false
namespace R01_Join
def S3 (v0 : List (List Int)) (v4 : Int) (h0 : List Int) : ASt := ⟨[(3, .own 0), (0, .sl (.rows .u8 v0)), (4, .v (.int .i64 v4))], [(0, some ⟨.row 5 (.ints .u8 h0), false⟩)], 1, 18⟩
def V3 : ASt → Option ((List (List Int)) × Int × (List Int))
  | ⟨[(3, .own 0), (0, .sl (.rows .u8 v0)), (4, .v (.int .i64 v4))], [(0, some ⟨.row 5 (.ints .u8 h0), false⟩)], 1, 18⟩ => some (v0, v4, h0)
  | _ => none
theorem V3_ok (st : ASt) (x : (List (List Int)) × Int × (List Int)) (h : V3 st = some x) : st = S3 x.1 x.2.1 x.2.2 := by
  unfold V3 at h
  split at h
  · cases h; rfl
  · cases h
noncomputable def L3 : LSpec := fun st K => match V3 st with
  | some x => P.R01_Join_l3 x.1 x.2.1 x.2.2 (fun v0 v4 h0 => K (.exit 0) (S3 v0 v4 h0))
  | none => none
noncomputable def D : Ctx := ({ P := Tryd.prog, G := [], globs := [(0, [.arr .u32 64 P.roots256]), (1, [.arr .u64 80 P.roots512])], hints := [(3, ⟨[0, 4], [(3, 5, .ints .u8 [])], [2], [], none, []⟩)], loops := [(3, L3)], inl := [] } : Ctx)
def E3 (K : AExit → ASt → Option R) : (((List (List Int)) × Int × (List Int))) → Option R := (fun x => K (.exit 0) (S3 x.1 x.2.1 x.2.2))
theorem round3 (K : AExit → ASt → Option R) (next : ASt → Option R) (x : (List (List Int)) × Int × (List Int)) : roundA D (loopAt Tryd.f65 3) K next (S3 x.1 x.2.1 x.2.2) = (fun (x : (List (List Int)) × Int × (List Int)) (next : ((List (List Int)) × Int × (List Int)) → Option R) (ex : (((List (List Int)) × Int × (List Int))) → Option R) => P.R01_Join_r3 x.1 x.2.1 x.2.2 (fun v0 v4 h0 => next (v0, v4, h0)) (fun v0 v4 h0 => ex ((v0, v4, h0)))) x (fun x => next (S3 x.1 x.2.1 x.2.2)) (E3 K) := by kernel_rfl
theorem lq3 (st : ASt) (K : AExit → ASt → Option R) : L3 st K = vMap (V3 st) (fun x => lp (fun (x : (List (List Int)) × Int × (List Int)) (next : ((List (List Int)) × Int × (List Int)) → Option R) (ex : (((List (List Int)) × Int × (List Int))) → Option R) => P.R01_Join_r3 x.1 x.2.1 x.2.2 (fun v0 v4 h0 => next (v0, v4, h0)) (fun v0 v4 h0 => ex ((v0, v4, h0)))) x (E3 K)) := by
  unfold L3
  cases V3 st with
  | none => rfl
  | some x => simp only [P.R01_Join_l3_eq]; rfl
theorem loop3 : LoopOk D (loopAt Tryd.f65 3) := loopOk_lp (X := (List (List Int)) × Int × (List Int)) (Y := ((List (List Int)) × Int × (List Int))) (fun x => S3 x.1 x.2.1 x.2.2) V3_ok (stp := (fun (x : (List (List Int)) × Int × (List Int)) (next : ((List (List Int)) × Int × (List Int)) → Option R) (ex : (((List (List Int)) × Int × (List Int))) → Option R) => P.R01_Join_r3 x.1 x.2.1 x.2.2 (fun v0 v4 h0 => next (v0, v4, h0)) (fun v0 v4 h0 => ex ((v0, v4, h0))))) (enc := E3) (L := L3) (by kernel_rfl) lq3 round3
theorem body (a0 : List (List Int)) (K : AVal → Option R) : bodyA D Tryd.f65 [.fr 5 (.ints .u8 [])] [.sl (.rows .u8 a0)] K = P.R01_Join a0 (fun r0 => K (.fr 5 (.ints .u8 r0))) := by
  rw [P.R01_Join_eq]
  kernel_rfl
theorem loops : loopsOf (Tryd.f65.body.getD .skip) = [loopAt Tryd.f65 3] := by kernel_rfl
noncomputable def spec0 : Abs.Spec := fun args K => match args with
  | [.sl (.rows .u8 a0)] => P.R01_Join a0 (fun r0 => K (.fr 5 (.ints .u8 r0)))
  | _ => none
noncomputable def spec : Abs.Spec := fun args K => spec0 (coerL [.sl (.rows .u8 [])] args) K
theorem ok0 : Proved Tryd.prog [(0, [.arr .u32 64 P.roots256]), (1, [.arr .u64 80 P.roots512])] 65 spec0 := by
  refine proved_of (D := D) (fn := Tryd.f65) (c := Tryd.f65.body.getD .skip) [.fr 5 (.ints .u8 [])] (by kernel_rfl) (globsPlain_of (by kernel_rfl)) (by kernel_rfl) (by kernel_rfl) (by kernel_rfl) trivial trivial ?_ ?_
  · rw [loops]; exact ⟨loop3, trivial⟩
  · intro args K r h
    unfold spec0 at h
    split at h
    · rw [body]; exact h
    · cases h
theorem ok : Proved Tryd.prog [(0, [.arr .u32 64 P.roots256]), (1, [.arr .u64 80 P.roots512])] 65 spec := proved_coer _ ok0
end R01_Join
end

section
open Go Go.Abs Go.Proofs
set_option maxRecDepth 100000
set_option linter.unusedVariables false
namespace R07_Block
noncomputable def D : Ctx := ({ P := Tryd.prog, G := [], globs := [(0, [.arr .u32 64 P.roots256]), (1, [.arr .u64 80 P.roots512])], hints := [], loops := [], inl := [] } : Ctx)
theorem body (a0 : Int) (K : AVal → Option R) : bodyA D Tryd.f58 [.any] [.v (.int .i64 a0)] K = P.R07_Block a0 (fun r0 => K (.v (.int .i64 r0))) := by
  rw [P.R07_Block_eq]
  kernel_rfl
theorem loops : loopsOf (Tryd.f58.body.getD .skip) = [] := by kernel_rfl
noncomputable def spec0 : Abs.Spec := fun args K => match args with
  | [.v (.int .i64 a0)] => P.R07_Block a0 (fun r0 => K (.v (.int .i64 r0)))
  | _ => none
noncomputable def spec : Abs.Spec := spec0
theorem ok0 : Proved Tryd.prog [(0, [.arr .u32 64 P.roots256]), (1, [.arr .u64 80 P.roots512])] 58 spec0 := by
  refine proved_of (D := D) (fn := Tryd.f58) (c := Tryd.f58.body.getD .skip) [.any] (by kernel_rfl) (globsPlain_of (by kernel_rfl)) (by kernel_rfl) (by kernel_rfl) (by kernel_rfl) trivial trivial ?_ ?_
  · rw [loops]; exact trivial
  · intro args K r h
    unfold spec0 at h
    split at h
    · rw [body]; exact h
    · cases h
theorem ok : Proved Tryd.prog [(0, [.arr .u32 64 P.roots256]), (1, [.arr .u64 80 P.roots512])] 58 spec := ok0
end R07_Block
end

section
open Go Go.Abs Go.Proofs
set_option maxRecDepth 100000
set_option linter.unusedVariables false
namespace R07_right
noncomputable def D : Ctx := ({ P := Tryd.prog, G := [], globs := [(0, [.arr .u32 64 P.roots256]), (1, [.arr .u64 80 P.roots512])], hints := [], loops := [], inl := [] } : Ctx)
theorem body (a0 : Int) (a1 : Int) (a2 : Bool) (K : AVal → Option R) : bodyA D Tryd.f134 [.any] [.v (.int .u64 a0), .v (.int .i64 a1), .v (.bool a2)] K = P.R07_right a0 a1 a2 (fun r0 => K (.v (.int .u64 r0))) := by
  rw [P.R07_right_eq]
  kernel_rfl
theorem loops : loopsOf (Tryd.f134.body.getD .skip) = [] := by kernel_rfl
noncomputable def spec0 : Abs.Spec := fun args K => match args with
  | [.v (.int .u64 a0), .v (.int .i64 a1), .v (.bool a2)] => P.R07_right a0 a1 a2 (fun r0 => K (.v (.int .u64 r0)))
  | _ => none
noncomputable def spec : Abs.Spec := spec0
theorem ok0 : Proved Tryd.prog [(0, [.arr .u32 64 P.roots256]), (1, [.arr .u64 80 P.roots512])] 134 spec0 := by
  refine proved_of (D := D) (fn := Tryd.f134) (c := Tryd.f134.body.getD .skip) [.any] (by kernel_rfl) (globsPlain_of (by kernel_rfl)) (by kernel_rfl) (by kernel_rfl) (by kernel_rfl) trivial trivial ?_ ?_
  · rw [loops]; exact trivial
  · intro args K r h
    unfold spec0 at h
    split at h
    · rw [body]; exact h
    · cases h
theorem ok : Proved Tryd.prog [(0, [.arr .u32 64 P.roots256]), (1, [.arr .u64 80 P.roots512])] 134 spec := ok0
end R07_right
end

section
open Go Go.Abs Go.Proofs
set_option maxRecDepth 100000
set_option linter.unusedVariables false
namespace R07_mix
noncomputable def D : Ctx := ({ P := Tryd.prog, G := [(134, R07_right.spec)], globs := [(0, [.arr .u32 64 P.roots256]), (1, [.arr .u64 80 P.roots512])], hints := [], loops := [], inl := [] } : Ctx)
theorem body (a0 : Int) (a1 : Int) (a2 : Int) (a3 : Int) (a4 : Bool) (a5 : Bool) (K : AVal → Option R) : bodyA D Tryd.f117 [.any] [.v (.int .u64 a0), .v (.int .i64 a1), .v (.int .i64 a2), .v (.int .i64 a3), .v (.bool a4), .v (.bool a5)] K = P.R07_mix a0 a1 a2 a3 a4 a5 (fun r0 => K (.v (.int .u64 r0))) := by
  rw [P.R07_mix_eq]
  kernel_rfl
theorem loops : loopsOf (Tryd.f117.body.getD .skip) = [] := by kernel_rfl
noncomputable def spec0 : Abs.Spec := fun args K => match args with
  | [.v (.int .u64 a0), .v (.int .i64 a1), .v (.int .i64 a2), .v (.int .i64 a3), .v (.bool a4), .v (.bool a5)] => P.R07_mix a0 a1 a2 a3 a4 a5 (fun r0 => K (.v (.int .u64 r0)))
  | _ => none
noncomputable def spec : Abs.Spec := spec0
theorem ok0 : Proved Tryd.prog [(0, [.arr .u32 64 P.roots256]), (1, [.arr .u64 80 P.roots512])] 117 spec0 := by
  refine proved_of (D := D) (fn := Tryd.f117) (c := Tryd.f117.body.getD .skip) [.any] (by kernel_rfl) (globsPlain_of (by kernel_rfl)) (by kernel_rfl) (by kernel_rfl) (by kernel_rfl) ⟨R07_right.ok, trivial⟩ trivial ?_ ?_
  · rw [loops]; exact trivial
  · intro args K r h
    unfold spec0 at h
    split at h
    · rw [body]; exact h
    · cases h
theorem ok : Proved Tryd.prog [(0, [.arr .u32 64 P.roots256]), (1, [.arr .u64 80 P.roots512])] 117 spec := ok0
end R07_mix
end

section
open Go Go.Abs Go.Proofs
set_option maxRecDepth 100000
set_option linter.unusedVariables false
namespace R07_roots256
noncomputable def D : Ctx := ({ P := Tryd.prog, G := [], globs := [(0, [.arr .u32 64 P.roots256]), (1, [.arr .u64 80 P.roots512])], hints := [], loops := [], inl := [] } : Ctx)
theorem body  (K : AVal → Option R) : bodyA D Tryd.f114 [.any] [] K = P.R07_roots256 (fun r0 => K (.arr .u64 64 r0)) := by
  rw [P.R07_roots256_eq]
  kernel_rfl
theorem loops : loopsOf (Tryd.f114.body.getD .skip) = [] := by kernel_rfl
noncomputable def spec0 : Abs.Spec := fun args K => match args with
  | [] => P.R07_roots256 (fun r0 => K (.arr .u64 64 r0))
  | _ => none
noncomputable def spec : Abs.Spec := spec0
theorem ok0 : Proved Tryd.prog [(0, [.arr .u32 64 P.roots256]), (1, [.arr .u64 80 P.roots512])] 114 spec0 := by
  refine proved_of (D := D) (fn := Tryd.f114) (c := Tryd.f114.body.getD .skip) [.any] (by kernel_rfl) (globsPlain_of (by kernel_rfl)) (by kernel_rfl) (by kernel_rfl) (by kernel_rfl) trivial trivial ?_ ?_
  · rw [loops]; exact trivial
  · intro args K r h
    unfold spec0 at h
    split at h
    · rw [body]; exact h
    · cases h
theorem ok : Proved Tryd.prog [(0, [.arr .u32 64 P.roots256]), (1, [.arr .u64 80 P.roots512])] 114 spec := ok0
end R07_roots256
end

section
open Go Go.Abs Go.Proofs
set_option maxRecDepth 100000
set_option linter.unusedVariables false
namespace R07_roots512
noncomputable def D : Ctx := ({ P := Tryd.prog, G := [], globs := [(0, [.arr .u32 64 P.roots256]), (1, [.arr .u64 80 P.roots512])], hints := [], loops := [], inl := [] } : Ctx)
theorem body  (K : AVal → Option R) : bodyA D Tryd.f115 [.any] [] K = P.R07_roots512 (fun r0 => K (.arr .u64 80 r0)) := by
  rw [P.R07_roots512_eq]
  kernel_rfl
theorem loops : loopsOf (Tryd.f115.body.getD .skip) = [] := by kernel_rfl
noncomputable def spec0 : Abs.Spec := fun args K => match args with
  | [] => P.R07_roots512 (fun r0 => K (.arr .u64 80 r0))
  | _ => none
noncomputable def spec : Abs.Spec := spec0
theorem ok0 : Proved Tryd.prog [(0, [.arr .u32 64 P.roots256]), (1, [.arr .u64 80 P.roots512])] 115 spec0 := by
  refine proved_of (D := D) (fn := Tryd.f115) (c := Tryd.f115.body.getD .skip) [.any] (by kernel_rfl) (globsPlain_of (by kernel_rfl)) (by kernel_rfl) (by kernel_rfl) (by kernel_rfl) trivial trivial ?_ ?_
  · rw [loops]; exact trivial
  · intro args K r h
    unfold spec0 at h
    split at h
    · rw [body]; exact h
    · cases h
theorem ok : Proved Tryd.prog [(0, [.arr .u32 64 P.roots256]), (1, [.arr .u64 80 P.roots512])] 115 spec := ok0
end R07_roots512
end

section
open Go Go.Abs Go.Proofs
set_option maxRecDepth 100000
set_option linter.unusedVariables false
namespace R07_words
def S6 (v0 : List Int) (v1 : Bool) (v2 : Int) (v3 : Int) (v9 : Int) (v11 : Int) (h0 : List Int) : ASt := ⟨[(10, .own 0), (0, .sl (.ints .u8 v0)), (1, .v (.bool v1)), (2, .v (.int .i64 v2)), (3, .v (.int .u64 v3)), (9, .v (.int .i64 v9)), (11, .v (.int .i64 v11))], [(0, some ⟨.row 22 (.ints .u64 h0), false⟩)], 1, 82⟩
def V6 : ASt → Option ((List Int) × Bool × Int × Int × Int × Int × (List Int))
  | ⟨[(10, .own 0), (0, .sl (.ints .u8 v0)), (1, .v (.bool v1)), (2, .v (.int .i64 v2)), (3, .v (.int .u64 v3)), (9, .v (.int .i64 v9)), (11, .v (.int .i64 v11))], [(0, some ⟨.row 22 (.ints .u64 h0), false⟩)], 1, 82⟩ => some (v0, v1, v2, v3, v9, v11, h0)
  | _ => none
theorem V6_ok (st : ASt) (x : (List Int) × Bool × Int × Int × Int × Int × (List Int)) (h : V6 st = some x) : st = S6 x.1 x.2.1 x.2.2.1 x.2.2.2.1 x.2.2.2.2.1 x.2.2.2.2.2.1 x.2.2.2.2.2.2 := by
  unfold V6 at h
  split at h
  · cases h; rfl
  · cases h
noncomputable def L6 : LSpec := fun st K => match V6 st with
  | some x => P.R07_words_l6 x.1 x.2.1 x.2.2.1 x.2.2.2.1 x.2.2.2.2.1 x.2.2.2.2.2.1 x.2.2.2.2.2.2 (fun v0 v1 v2 v3 v9 v11 h0 => K (.exit 0) (S6 v0 v1 v2 v3 v9 v11 h0))
  | none => none
noncomputable def D : Ctx := ({ P := Tryd.prog, G := [(24, R01_Num.spec), (117, R07_mix.spec)], globs := [(0, [.arr .u32 64 P.roots256]), (1, [.arr .u64 80 P.roots512])], hints := [(6, ⟨[0, 1, 2, 3, 9, 11], [(10, 22, .ints .u64 [])], [8], [], none, []⟩)], loops := [(6, L6)], inl := [] } : Ctx)
def E6 (K : AExit → ASt → Option R) : (((List Int) × Bool × Int × Int × Int × Int × (List Int))) → Option R := (fun x => K (.exit 0) (S6 x.1 x.2.1 x.2.2.1 x.2.2.2.1 x.2.2.2.2.1 x.2.2.2.2.2.1 x.2.2.2.2.2.2))
theorem round6 (K : AExit → ASt → Option R) (next : ASt → Option R) (x : (List Int) × Bool × Int × Int × Int × Int × (List Int)) : roundA D (loopAt Tryd.f116 6) K next (S6 x.1 x.2.1 x.2.2.1 x.2.2.2.1 x.2.2.2.2.1 x.2.2.2.2.2.1 x.2.2.2.2.2.2) = (fun (x : (List Int) × Bool × Int × Int × Int × Int × (List Int)) (next : ((List Int) × Bool × Int × Int × Int × Int × (List Int)) → Option R) (ex : (((List Int) × Bool × Int × Int × Int × Int × (List Int))) → Option R) => P.R07_words_r6 x.1 x.2.1 x.2.2.1 x.2.2.2.1 x.2.2.2.2.1 x.2.2.2.2.2.1 x.2.2.2.2.2.2 (fun v0 v1 v2 v3 v9 v11 h0 => next (v0, v1, v2, v3, v9, v11, h0)) (fun v0 v1 v2 v3 v9 v11 h0 => ex ((v0, v1, v2, v3, v9, v11, h0)))) x (fun x => next (S6 x.1 x.2.1 x.2.2.1 x.2.2.2.1 x.2.2.2.2.1 x.2.2.2.2.2.1 x.2.2.2.2.2.2)) (E6 K) := by kernel_rfl
theorem lq6 (st : ASt) (K : AExit → ASt → Option R) : L6 st K = vMap (V6 st) (fun x => lp (fun (x : (List Int) × Bool × Int × Int × Int × Int × (List Int)) (next : ((List Int) × Bool × Int × Int × Int × Int × (List Int)) → Option R) (ex : (((List Int) × Bool × Int × Int × Int × Int × (List Int))) → Option R) => P.R07_words_r6 x.1 x.2.1 x.2.2.1 x.2.2.2.1 x.2.2.2.2.1 x.2.2.2.2.2.1 x.2.2.2.2.2.2 (fun v0 v1 v2 v3 v9 v11 h0 => next (v0, v1, v2, v3, v9, v11, h0)) (fun v0 v1 v2 v3 v9 v11 h0 => ex ((v0, v1, v2, v3, v9, v11, h0)))) x (E6 K)) := by
  unfold L6
  cases V6 st with
  | none => rfl
  | some x => simp only [P.R07_words_l6_eq]; rfl
theorem loop6 : LoopOk D (loopAt Tryd.f116 6) := loopOk_lp (X := (List Int) × Bool × Int × Int × Int × Int × (List Int)) (Y := ((List Int) × Bool × Int × Int × Int × Int × (List Int))) (fun x => S6 x.1 x.2.1 x.2.2.1 x.2.2.2.1 x.2.2.2.2.1 x.2.2.2.2.2.1 x.2.2.2.2.2.2) V6_ok (stp := (fun (x : (List Int) × Bool × Int × Int × Int × Int × (List Int)) (next : ((List Int) × Bool × Int × Int × Int × Int × (List Int)) → Option R) (ex : (((List Int) × Bool × Int × Int × Int × Int × (List Int))) → Option R) => P.R07_words_r6 x.1 x.2.1 x.2.2.1 x.2.2.2.1 x.2.2.2.2.1 x.2.2.2.2.2.1 x.2.2.2.2.2.2 (fun v0 v1 v2 v3 v9 v11 h0 => next (v0, v1, v2, v3, v9, v11, h0)) (fun v0 v1 v2 v3 v9 v11 h0 => ex ((v0, v1, v2, v3, v9, v11, h0))))) (enc := E6) (L := L6) (by kernel_rfl) lq6 round6
theorem body (a0 : List Int) (a1 : Bool) (a2 : Int) (a3 : Int) (K : AVal → Option R) : bodyA D Tryd.f116 [.fr 22 (.ints .u64 [])] [.sl (.ints .u8 a0), .v (.bool a1), .v (.int .i64 a2), .v (.int .u64 a3)] K = P.R07_words a0 a1 a2 a3 (fun r0 => K (.fr 22 (.ints .u64 r0))) := by
  rw [P.R07_words_eq]
  kernel_rfl
theorem loops : loopsOf (Tryd.f116.body.getD .skip) = [loopAt Tryd.f116 6] := by kernel_rfl
noncomputable def spec0 : Abs.Spec := fun args K => match args with
  | [.sl (.ints .u8 a0), .v (.bool a1), .v (.int .i64 a2), .v (.int .u64 a3)] => P.R07_words a0 a1 a2 a3 (fun r0 => K (.fr 22 (.ints .u64 r0)))
  | _ => none
noncomputable def spec : Abs.Spec := fun args K => spec0 (coerL [.sl (.ints .u8 []), .any, .any, .any] args) K
theorem ok0 : Proved Tryd.prog [(0, [.arr .u32 64 P.roots256]), (1, [.arr .u64 80 P.roots512])] 116 spec0 := by
  refine proved_of (D := D) (fn := Tryd.f116) (c := Tryd.f116.body.getD .skip) [.fr 22 (.ints .u64 [])] (by kernel_rfl) (globsPlain_of (by kernel_rfl)) (by kernel_rfl) (by kernel_rfl) (by kernel_rfl) ⟨R01_Num.ok, R07_mix.ok, trivial⟩ trivial ?_ ?_
  · rw [loops]; exact ⟨loop6, trivial⟩
  · intro args K r h
    unfold spec0 at h
    split at h
    · rw [body]; exact h
    · cases h
theorem ok : Proved Tryd.prog [(0, [.arr .u32 64 P.roots256]), (1, [.arr .u64 80 P.roots512])] 116 spec := proved_coer _ ok0
end R07_words
end

section
open Go Go.Abs Go.Proofs
set_option maxRecDepth 100000
set_option linter.unusedVariables false
namespace R07_block
def S11 (v2 : Bool) (v7 : Int) (v8 : Int) (v13 : Int) (h0_0 : List Int) (h1_0 : List Int) (h2_0 : List Int) (h3_0 : List Int) (h4 : List Int) (h5_0 : List Int) : ASt := ⟨[(2, .v (.bool v2)), (3, .ptr 0 0), (6, .ptr 1 0), (7, .v (.int .i64 v7)), (8, .v (.int .u64 v8)), (9, .ptr 2 0), (10, .ptr 3 0), (11, .own 4), (12, .ptr 5 0), (13, .v (.int .i64 v13))], [(0, some ⟨.box 23 [.arr .u64 8 h0_0], false⟩), (1, some ⟨.box 23 [.arr .u64 8 h1_0], false⟩), (2, some ⟨.box 161 [.arr .u64 64 h2_0], false⟩), (3, some ⟨.box 163 [.arr .u64 80 h3_0], false⟩), (4, some ⟨.row 22 (.ints .u64 h4), false⟩), (5, some ⟨.box 23 [.arr .u64 8 h5_0], false⟩)], 6, 137⟩
def V11 : ASt → Option (Bool × Int × Int × Int × (List Int) × (List Int) × (List Int) × (List Int) × (List Int) × (List Int))
  | ⟨[(2, .v (.bool v2)), (3, .ptr 0 0), (6, .ptr 1 0), (7, .v (.int .i64 v7)), (8, .v (.int .u64 v8)), (9, .ptr 2 0), (10, .ptr 3 0), (11, .own 4), (12, .ptr 5 0), (13, .v (.int .i64 v13))], [(0, some ⟨.box 23 [.arr .u64 8 h0_0], false⟩), (1, some ⟨.box 23 [.arr .u64 8 h1_0], false⟩), (2, some ⟨.box 161 [.arr .u64 64 h2_0], false⟩), (3, some ⟨.box 163 [.arr .u64 80 h3_0], false⟩), (4, some ⟨.row 22 (.ints .u64 h4), false⟩), (5, some ⟨.box 23 [.arr .u64 8 h5_0], false⟩)], 6, 137⟩ => some (v2, v7, v8, v13, h0_0, h1_0, h2_0, h3_0, h4, h5_0)
  | _ => none
theorem V11_ok (st : ASt) (x : Bool × Int × Int × Int × (List Int) × (List Int) × (List Int) × (List Int) × (List Int) × (List Int)) (h : V11 st = some x) : st = S11 x.1 x.2.1 x.2.2.1 x.2.2.2.1 x.2.2.2.2.1 x.2.2.2.2.2.1 x.2.2.2.2.2.2.1 x.2.2.2.2.2.2.2.1 x.2.2.2.2.2.2.2.2.1 x.2.2.2.2.2.2.2.2.2 := by
  unfold V11 at h
  split at h
  · cases h; rfl
  · cases h
def S25 (v8 : Int) (v19 : Int) (h0_0 : List Int) (h1_0 : List Int) (h5_0 : List Int) : ASt := ⟨[(3, .ptr 0 0), (6, .ptr 1 0), (8, .v (.int .u64 v8)), (12, .ptr 5 0), (19, .v (.int .i64 v19))], [(0, some ⟨.box 23 [.arr .u64 8 h0_0], false⟩), (1, some ⟨.box 23 [.arr .u64 8 h1_0], false⟩), (5, some ⟨.box 23 [.arr .u64 8 h5_0], false⟩)], 80, 137⟩
def V25 : ASt → Option (Int × Int × (List Int) × (List Int) × (List Int))
  | ⟨[(3, .ptr 0 0), (6, .ptr 1 0), (8, .v (.int .u64 v8)), (12, .ptr 5 0), (19, .v (.int .i64 v19))], [(0, some ⟨.box 23 [.arr .u64 8 h0_0], false⟩), (1, some ⟨.box 23 [.arr .u64 8 h1_0], false⟩), (5, some ⟨.box 23 [.arr .u64 8 h5_0], false⟩)], 80, 137⟩ => some (v8, v19, h0_0, h1_0, h5_0)
  | _ => none
theorem V25_ok (st : ASt) (x : Int × Int × (List Int) × (List Int) × (List Int)) (h : V25 st = some x) : st = S25 x.1 x.2.1 x.2.2.1 x.2.2.2.1 x.2.2.2.2 := by
  unfold V25 at h
  split at h
  · cases h; rfl
  · cases h
noncomputable def L11 : LSpec := fun st K => match V11 st with
  | some x => P.R07_block_l11 x.1 x.2.1 x.2.2.1 x.2.2.2.1 x.2.2.2.2.1 x.2.2.2.2.2.1 x.2.2.2.2.2.2.1 x.2.2.2.2.2.2.2.1 x.2.2.2.2.2.2.2.2.1 x.2.2.2.2.2.2.2.2.2 (fun v2 v7 v8 v13 h0_0 h1_0 h2_0 h3_0 h4 h5_0 => K (.exit 0) (S11 v2 v7 v8 v13 h0_0 h1_0 h2_0 h3_0 h4 h5_0))
  | none => none
noncomputable def L25 : LSpec := fun st K => match V25 st with
  | some x => P.R07_block_l25 x.1 x.2.1 x.2.2.1 x.2.2.2.1 x.2.2.2.2 (fun v8 v19 h0_0 h1_0 h5_0 => K (.exit 2) (S25 v8 v19 h0_0 h1_0 h5_0))
  | none => none
noncomputable def D : Ctx := ({ P := Tryd.prog, G := [(114, R07_roots256.spec), (115, R07_roots512.spec), (116, R07_words.spec), (117, R07_mix.spec)], globs := [(0, [.arr .u32 64 P.roots256]), (1, [.arr .u64 80 P.roots512])], hints := [(25, ⟨[3, 6, 8, 12, 19], [], [6], [], some (80, [0, 1, 5]), []⟩), (11, ⟨[2, 3, 6, 7, 8, 9, 10, 11, 12, 13], [], [6], [], none, []⟩)], loops := [(11, L11), (25, L25)], inl := [] } : Ctx)
def E11 (K : AExit → ASt → Option R) : ((Bool × Int × Int × Int × (List Int) × (List Int) × (List Int) × (List Int) × (List Int) × (List Int))) → Option R := (fun x => K (.exit 0) (S11 x.1 x.2.1 x.2.2.1 x.2.2.2.1 x.2.2.2.2.1 x.2.2.2.2.2.1 x.2.2.2.2.2.2.1 x.2.2.2.2.2.2.2.1 x.2.2.2.2.2.2.2.2.1 x.2.2.2.2.2.2.2.2.2))
theorem round11 (K : AExit → ASt → Option R) (next : ASt → Option R) (x : Bool × Int × Int × Int × (List Int) × (List Int) × (List Int) × (List Int) × (List Int) × (List Int)) : roundA D (loopAt Tryd.f66 11) K next (S11 x.1 x.2.1 x.2.2.1 x.2.2.2.1 x.2.2.2.2.1 x.2.2.2.2.2.1 x.2.2.2.2.2.2.1 x.2.2.2.2.2.2.2.1 x.2.2.2.2.2.2.2.2.1 x.2.2.2.2.2.2.2.2.2) = (fun (x : Bool × Int × Int × Int × (List Int) × (List Int) × (List Int) × (List Int) × (List Int) × (List Int)) (next : (Bool × Int × Int × Int × (List Int) × (List Int) × (List Int) × (List Int) × (List Int) × (List Int)) → Option R) (ex : ((Bool × Int × Int × Int × (List Int) × (List Int) × (List Int) × (List Int) × (List Int) × (List Int))) → Option R) => P.R07_block_r11 x.1 x.2.1 x.2.2.1 x.2.2.2.1 x.2.2.2.2.1 x.2.2.2.2.2.1 x.2.2.2.2.2.2.1 x.2.2.2.2.2.2.2.1 x.2.2.2.2.2.2.2.2.1 x.2.2.2.2.2.2.2.2.2 (fun v2 v7 v8 v13 h0_0 h1_0 h2_0 h3_0 h4 h5_0 => next (v2, v7, v8, v13, h0_0, h1_0, h2_0, h3_0, h4, h5_0)) (fun v2 v7 v8 v13 h0_0 h1_0 h2_0 h3_0 h4 h5_0 => ex ((v2, v7, v8, v13, h0_0, h1_0, h2_0, h3_0, h4, h5_0)))) x (fun x => next (S11 x.1 x.2.1 x.2.2.1 x.2.2.2.1 x.2.2.2.2.1 x.2.2.2.2.2.1 x.2.2.2.2.2.2.1 x.2.2.2.2.2.2.2.1 x.2.2.2.2.2.2.2.2.1 x.2.2.2.2.2.2.2.2.2)) (E11 K) := by kernel_rfl
theorem lq11 (st : ASt) (K : AExit → ASt → Option R) : L11 st K = vMap (V11 st) (fun x => lp (fun (x : Bool × Int × Int × Int × (List Int) × (List Int) × (List Int) × (List Int) × (List Int) × (List Int)) (next : (Bool × Int × Int × Int × (List Int) × (List Int) × (List Int) × (List Int) × (List Int) × (List Int)) → Option R) (ex : ((Bool × Int × Int × Int × (List Int) × (List Int) × (List Int) × (List Int) × (List Int) × (List Int))) → Option R) => P.R07_block_r11 x.1 x.2.1 x.2.2.1 x.2.2.2.1 x.2.2.2.2.1 x.2.2.2.2.2.1 x.2.2.2.2.2.2.1 x.2.2.2.2.2.2.2.1 x.2.2.2.2.2.2.2.2.1 x.2.2.2.2.2.2.2.2.2 (fun v2 v7 v8 v13 h0_0 h1_0 h2_0 h3_0 h4 h5_0 => next (v2, v7, v8, v13, h0_0, h1_0, h2_0, h3_0, h4, h5_0)) (fun v2 v7 v8 v13 h0_0 h1_0 h2_0 h3_0 h4 h5_0 => ex ((v2, v7, v8, v13, h0_0, h1_0, h2_0, h3_0, h4, h5_0)))) x (E11 K)) := by
  unfold L11
  cases V11 st with
  | none => rfl
  | some x => simp only [P.R07_block_l11_eq]; rfl
theorem loop11 : LoopOk D (loopAt Tryd.f66 11) := loopOk_lp (X := Bool × Int × Int × Int × (List Int) × (List Int) × (List Int) × (List Int) × (List Int) × (List Int)) (Y := (Bool × Int × Int × Int × (List Int) × (List Int) × (List Int) × (List Int) × (List Int) × (List Int))) (fun x => S11 x.1 x.2.1 x.2.2.1 x.2.2.2.1 x.2.2.2.2.1 x.2.2.2.2.2.1 x.2.2.2.2.2.2.1 x.2.2.2.2.2.2.2.1 x.2.2.2.2.2.2.2.2.1 x.2.2.2.2.2.2.2.2.2) V11_ok (stp := (fun (x : Bool × Int × Int × Int × (List Int) × (List Int) × (List Int) × (List Int) × (List Int) × (List Int)) (next : (Bool × Int × Int × Int × (List Int) × (List Int) × (List Int) × (List Int) × (List Int) × (List Int)) → Option R) (ex : ((Bool × Int × Int × Int × (List Int) × (List Int) × (List Int) × (List Int) × (List Int) × (List Int))) → Option R) => P.R07_block_r11 x.1 x.2.1 x.2.2.1 x.2.2.2.1 x.2.2.2.2.1 x.2.2.2.2.2.1 x.2.2.2.2.2.2.1 x.2.2.2.2.2.2.2.1 x.2.2.2.2.2.2.2.2.1 x.2.2.2.2.2.2.2.2.2 (fun v2 v7 v8 v13 h0_0 h1_0 h2_0 h3_0 h4 h5_0 => next (v2, v7, v8, v13, h0_0, h1_0, h2_0, h3_0, h4, h5_0)) (fun v2 v7 v8 v13 h0_0 h1_0 h2_0 h3_0 h4 h5_0 => ex ((v2, v7, v8, v13, h0_0, h1_0, h2_0, h3_0, h4, h5_0))))) (enc := E11) (L := L11) (by kernel_rfl) lq11 round11
def E25 (K : AExit → ASt → Option R) : ((Int × Int × (List Int) × (List Int) × (List Int))) → Option R := (fun x => K (.exit 2) (S25 x.1 x.2.1 x.2.2.1 x.2.2.2.1 x.2.2.2.2))
theorem round25 (K : AExit → ASt → Option R) (next : ASt → Option R) (x : Int × Int × (List Int) × (List Int) × (List Int)) : roundA D (loopAt Tryd.f66 25) K next (S25 x.1 x.2.1 x.2.2.1 x.2.2.2.1 x.2.2.2.2) = (fun (x : Int × Int × (List Int) × (List Int) × (List Int)) (next : (Int × Int × (List Int) × (List Int) × (List Int)) → Option R) (ex : ((Int × Int × (List Int) × (List Int) × (List Int))) → Option R) => P.R07_block_r25 x.1 x.2.1 x.2.2.1 x.2.2.2.1 x.2.2.2.2 (fun v8 v19 h0_0 h1_0 h5_0 => next (v8, v19, h0_0, h1_0, h5_0)) (fun v8 v19 h0_0 h1_0 h5_0 => ex ((v8, v19, h0_0, h1_0, h5_0)))) x (fun x => next (S25 x.1 x.2.1 x.2.2.1 x.2.2.2.1 x.2.2.2.2)) (E25 K) := by kernel_rfl
theorem lq25 (st : ASt) (K : AExit → ASt → Option R) : L25 st K = vMap (V25 st) (fun x => lp (fun (x : Int × Int × (List Int) × (List Int) × (List Int)) (next : (Int × Int × (List Int) × (List Int) × (List Int)) → Option R) (ex : ((Int × Int × (List Int) × (List Int) × (List Int))) → Option R) => P.R07_block_r25 x.1 x.2.1 x.2.2.1 x.2.2.2.1 x.2.2.2.2 (fun v8 v19 h0_0 h1_0 h5_0 => next (v8, v19, h0_0, h1_0, h5_0)) (fun v8 v19 h0_0 h1_0 h5_0 => ex ((v8, v19, h0_0, h1_0, h5_0)))) x (E25 K)) := by
  unfold L25
  cases V25 st with
  | none => rfl
  | some x => simp only [P.R07_block_l25_eq]; rfl
theorem loop25 : LoopOk D (loopAt Tryd.f66 25) := loopOk_lp (X := Int × Int × (List Int) × (List Int) × (List Int)) (Y := (Int × Int × (List Int) × (List Int) × (List Int))) (fun x => S25 x.1 x.2.1 x.2.2.1 x.2.2.2.1 x.2.2.2.2) V25_ok (stp := (fun (x : Int × Int × (List Int) × (List Int) × (List Int)) (next : (Int × Int × (List Int) × (List Int) × (List Int)) → Option R) (ex : ((Int × Int × (List Int) × (List Int) × (List Int))) → Option R) => P.R07_block_r25 x.1 x.2.1 x.2.2.1 x.2.2.2.1 x.2.2.2.2 (fun v8 v19 h0_0 h1_0 h5_0 => next (v8, v19, h0_0, h1_0, h5_0)) (fun v8 v19 h0_0 h1_0 h5_0 => ex ((v8, v19, h0_0, h1_0, h5_0))))) (enc := E25) (L := L25) (by kernel_rfl) lq25 round25
theorem body (a0 : List Int) (a1 : List Int) (a2 : Bool) (K : AVal → Option R) : bodyA D Tryd.f66 [.any] [.arr .u64 8 a0, .sl (.ints .u8 a1), .v (.bool a2)] K = P.R07_block a0 a1 a2 (fun r0 => K (.arr .u64 8 r0)) := by
  rw [P.R07_block_eq]
  kernel_rfl
theorem loops : loopsOf (Tryd.f66.body.getD .skip) = [loopAt Tryd.f66 11, loopAt Tryd.f66 25] := by kernel_rfl
noncomputable def spec0 : Abs.Spec := fun args K => match args with
  | [.arr .u64 8 a0, .sl (.ints .u8 a1), .v (.bool a2)] => P.R07_block a0 a1 a2 (fun r0 => K (.arr .u64 8 r0))
  | _ => none
noncomputable def spec : Abs.Spec := fun args K => spec0 (coerL [.any, .sl (.ints .u8 []), .any] args) K
theorem ok0 : Proved Tryd.prog [(0, [.arr .u32 64 P.roots256]), (1, [.arr .u64 80 P.roots512])] 66 spec0 := by
  refine proved_of (D := D) (fn := Tryd.f66) (c := Tryd.f66.body.getD .skip) [.any] (by kernel_rfl) (globsPlain_of (by kernel_rfl)) (by kernel_rfl) (by kernel_rfl) (by kernel_rfl) ⟨R07_roots256.ok, R07_roots512.ok, R07_words.ok, R07_mix.ok, trivial⟩ trivial ?_ ?_
  · rw [loops]; exact ⟨loop11, loop25, trivial⟩
  · intro args K r h
    unfold spec0 at h
    split at h
    · rw [body]; exact h
    · cases h
theorem ok : Proved Tryd.prog [(0, [.arr .u32 64 P.roots256]), (1, [.arr .u64 80 P.roots512])] 66 spec := proved_coer _ ok0
end R07_block
end

section
open Go Go.Abs Go.Proofs
set_option maxRecDepth 100000
set_option linter.unusedVariables false
namespace R07_Add
def S4 (v5 : Int) (v6 : List Int) (h0_0 : Int) (h0_1 : List Int) (h0_2 : List Int) (h0_3 : Int) (h1_0 : Int) (h1_1 : List Int) (h1_3 : Int) : ASt := ⟨[(2, .ptr 0 0), (4, .ptr 1 0), (5, .v (.int .i64 v5)), (6, .sl (.ints .u8 v6))], [(0, some ⟨.box 26 [.v (.int .i64 h0_0), .arr .u64 8 h0_1, .sl (.ints .u8 h0_2), .v (.int .u64 h0_3)], false⟩), (1, some ⟨.box 26 [.v (.int .i64 h1_0), .arr .u64 8 h1_1, .v (.slice none 0 0), .v (.int .u64 h1_3)], false⟩)], 40, 41⟩
def V4 : ASt → Option (Int × (List Int) × Int × (List Int) × (List Int) × Int × Int × (List Int) × Int)
  | ⟨[(2, .ptr 0 0), (4, .ptr 1 0), (5, .v (.int .i64 v5)), (6, .sl (.ints .u8 v6))], [(0, some ⟨.box 26 [.v (.int .i64 h0_0), .arr .u64 8 h0_1, .sl (.ints .u8 h0_2), .v (.int .u64 h0_3)], false⟩), (1, some ⟨.box 26 [.v (.int .i64 h1_0), .arr .u64 8 h1_1, .v (.slice none 0 0), .v (.int .u64 h1_3)], false⟩)], 40, 41⟩ => some (v5, v6, h0_0, h0_1, h0_2, h0_3, h1_0, h1_1, h1_3)
  | _ => none
theorem V4_ok (st : ASt) (x : Int × (List Int) × Int × (List Int) × (List Int) × Int × Int × (List Int) × Int) (h : V4 st = some x) : st = S4 x.1 x.2.1 x.2.2.1 x.2.2.2.1 x.2.2.2.2.1 x.2.2.2.2.2.1 x.2.2.2.2.2.2.1 x.2.2.2.2.2.2.2.1 x.2.2.2.2.2.2.2.2 := by
  unfold V4 at h
  split at h
  · cases h; rfl
  · cases h
noncomputable def L4 : LSpec := fun st K => match V4 st with
  | some x => P.R07_Add_l4 x.1 x.2.1 x.2.2.1 x.2.2.2.1 x.2.2.2.2.1 x.2.2.2.2.2.1 x.2.2.2.2.2.2.1 x.2.2.2.2.2.2.2.1 x.2.2.2.2.2.2.2.2 (fun v5 v6 h0_0 h0_1 h0_2 h0_3 h1_0 h1_1 h1_3 => K (.exit 0) (S4 v5 v6 h0_0 h0_1 h0_2 h0_3 h1_0 h1_1 h1_3))
  | none => none
noncomputable def D : Ctx := ({ P := Tryd.prog, G := [(58, R07_Block.spec), (65, R01_Join.spec), (66, R07_block.spec)], globs := [(0, [.arr .u32 64 P.roots256]), (1, [.arr .u64 80 P.roots512])], hints := [(4, ⟨[2, 4, 5, 6], [], [4], [(6, .sl (.ints .u8 []))], some (40, [0, 1]), []⟩)], loops := [(4, L4)], inl := [] } : Ctx)
def E4 (K : AExit → ASt → Option R) : ((Int × (List Int) × Int × (List Int) × (List Int) × Int × Int × (List Int) × Int)) → Option R := (fun x => K (.exit 0) (S4 x.1 x.2.1 x.2.2.1 x.2.2.2.1 x.2.2.2.2.1 x.2.2.2.2.2.1 x.2.2.2.2.2.2.1 x.2.2.2.2.2.2.2.1 x.2.2.2.2.2.2.2.2))
theorem round4 (K : AExit → ASt → Option R) (next : ASt → Option R) (x : Int × (List Int) × Int × (List Int) × (List Int) × Int × Int × (List Int) × Int) : roundA D (loopAt Tryd.f17 4) K next (S4 x.1 x.2.1 x.2.2.1 x.2.2.2.1 x.2.2.2.2.1 x.2.2.2.2.2.1 x.2.2.2.2.2.2.1 x.2.2.2.2.2.2.2.1 x.2.2.2.2.2.2.2.2) = (fun (x : Int × (List Int) × Int × (List Int) × (List Int) × Int × Int × (List Int) × Int) (next : (Int × (List Int) × Int × (List Int) × (List Int) × Int × Int × (List Int) × Int) → Option R) (ex : ((Int × (List Int) × Int × (List Int) × (List Int) × Int × Int × (List Int) × Int)) → Option R) => P.R07_Add_r4 x.1 x.2.1 x.2.2.1 x.2.2.2.1 x.2.2.2.2.1 x.2.2.2.2.2.1 x.2.2.2.2.2.2.1 x.2.2.2.2.2.2.2.1 x.2.2.2.2.2.2.2.2 (fun v5 v6 h0_0 h0_1 h0_2 h0_3 h1_0 h1_1 h1_3 => next (v5, v6, h0_0, h0_1, h0_2, h0_3, h1_0, h1_1, h1_3)) (fun v5 v6 h0_0 h0_1 h0_2 h0_3 h1_0 h1_1 h1_3 => ex ((v5, v6, h0_0, h0_1, h0_2, h0_3, h1_0, h1_1, h1_3)))) x (fun x => next (S4 x.1 x.2.1 x.2.2.1 x.2.2.2.1 x.2.2.2.2.1 x.2.2.2.2.2.1 x.2.2.2.2.2.2.1 x.2.2.2.2.2.2.2.1 x.2.2.2.2.2.2.2.2)) (E4 K) := by kernel_rfl
theorem lq4 (st : ASt) (K : AExit → ASt → Option R) : L4 st K = vMap (V4 st) (fun x => lp (fun (x : Int × (List Int) × Int × (List Int) × (List Int) × Int × Int × (List Int) × Int) (next : (Int × (List Int) × Int × (List Int) × (List Int) × Int × Int × (List Int) × Int) → Option R) (ex : ((Int × (List Int) × Int × (List Int) × (List Int) × Int × Int × (List Int) × Int)) → Option R) => P.R07_Add_r4 x.1 x.2.1 x.2.2.1 x.2.2.2.1 x.2.2.2.2.1 x.2.2.2.2.2.1 x.2.2.2.2.2.2.1 x.2.2.2.2.2.2.2.1 x.2.2.2.2.2.2.2.2 (fun v5 v6 h0_0 h0_1 h0_2 h0_3 h1_0 h1_1 h1_3 => next (v5, v6, h0_0, h0_1, h0_2, h0_3, h1_0, h1_1, h1_3)) (fun v5 v6 h0_0 h0_1 h0_2 h0_3 h1_0 h1_1 h1_3 => ex ((v5, v6, h0_0, h0_1, h0_2, h0_3, h1_0, h1_1, h1_3)))) x (E4 K)) := by
  unfold L4
  cases V4 st with
  | none => rfl
  | some x => simp only [P.R07_Add_l4_eq]; rfl
theorem loop4 : LoopOk D (loopAt Tryd.f17 4) := loopOk_lp (X := Int × (List Int) × Int × (List Int) × (List Int) × Int × Int × (List Int) × Int) (Y := (Int × (List Int) × Int × (List Int) × (List Int) × Int × Int × (List Int) × Int)) (fun x => S4 x.1 x.2.1 x.2.2.1 x.2.2.2.1 x.2.2.2.2.1 x.2.2.2.2.2.1 x.2.2.2.2.2.2.1 x.2.2.2.2.2.2.2.1 x.2.2.2.2.2.2.2.2) V4_ok (stp := (fun (x : Int × (List Int) × Int × (List Int) × (List Int) × Int × Int × (List Int) × Int) (next : (Int × (List Int) × Int × (List Int) × (List Int) × Int × Int × (List Int) × Int) → Option R) (ex : ((Int × (List Int) × Int × (List Int) × (List Int) × Int × Int × (List Int) × Int)) → Option R) => P.R07_Add_r4 x.1 x.2.1 x.2.2.1 x.2.2.2.1 x.2.2.2.2.1 x.2.2.2.2.2.1 x.2.2.2.2.2.2.1 x.2.2.2.2.2.2.2.1 x.2.2.2.2.2.2.2.2 (fun v5 v6 h0_0 h0_1 h0_2 h0_3 h1_0 h1_1 h1_3 => next (v5, v6, h0_0, h0_1, h0_2, h0_3, h1_0, h1_1, h1_3)) (fun v5 v6 h0_0 h0_1 h0_2 h0_3 h1_0 h1_1 h1_3 => ex ((v5, v6, h0_0, h0_1, h0_2, h0_3, h1_0, h1_1, h1_3))))) (enc := E4) (L := L4) (by kernel_rfl) lq4 round4
theorem body (a0_Kind : Int) (a0_Words : List Int) (a0_Tail : List Int) (a0_Size : Int) (a1 : List Int) (K : AVal → Option R) : bodyA D Tryd.f17 [.agg [.any, .any, .sl (.ints .u8 []), .any]] [.agg [.v (.int .i64 a0_Kind), .arr .u64 8 a0_Words, .sl (.ints .u8 a0_Tail), .v (.int .u64 a0_Size)], .sl (.ints .u8 a1)] K = P.R07_Add a0_Kind a0_Words a0_Tail a0_Size a1 (fun r0_Kind r0_Words r0_Tail r0_Size => K (.agg [.v (.int .i64 r0_Kind), .arr .u64 8 r0_Words, .sl (.ints .u8 r0_Tail), .v (.int .u64 r0_Size)])) := by
  rw [P.R07_Add_eq]
  kernel_rfl
theorem loops : loopsOf (Tryd.f17.body.getD .skip) = [loopAt Tryd.f17 4] := by kernel_rfl
noncomputable def spec0 : Abs.Spec := fun args K => match args with
  | [.agg [.v (.int .i64 a0_Kind), .arr .u64 8 a0_Words, .sl (.ints .u8 a0_Tail), .v (.int .u64 a0_Size)], .sl (.ints .u8 a1)] => P.R07_Add a0_Kind a0_Words a0_Tail a0_Size a1 (fun r0_Kind r0_Words r0_Tail r0_Size => K (.agg [.v (.int .i64 r0_Kind), .arr .u64 8 r0_Words, .sl (.ints .u8 r0_Tail), .v (.int .u64 r0_Size)]))
  | _ => none
noncomputable def spec : Abs.Spec := fun args K => spec0 (coerL [.agg [.any, .any, .sl (.ints .u8 []), .any], .sl (.ints .u8 [])] args) K
theorem ok0 : Proved Tryd.prog [(0, [.arr .u32 64 P.roots256]), (1, [.arr .u64 80 P.roots512])] 17 spec0 := by
  refine proved_of (D := D) (fn := Tryd.f17) (c := Tryd.f17.body.getD .skip) [.agg [.any, .any, .sl (.ints .u8 []), .any]] (by kernel_rfl) (globsPlain_of (by kernel_rfl)) (by kernel_rfl) (by kernel_rfl) (by kernel_rfl) ⟨R07_Block.ok, R01_Join.ok, R07_block.ok, trivial⟩ trivial ?_ ?_
  · rw [loops]; exact ⟨loop4, trivial⟩
  · intro args K r h
    unfold spec0 at h
    split at h
    · rw [body]; exact h
    · cases h
theorem ok : Proved Tryd.prog [(0, [.arr .u32 64 P.roots256]), (1, [.arr .u64 80 P.roots512])] 17 spec := proved_coer _ ok0
end R07_Add
end
