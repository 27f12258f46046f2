/-
  ShaFills, part K: an interpreter of my own over abstract values, the pure functions, the walks and the plain law.
-/

import Derived.Test.YtknjpkgnideplaaDoorShaFillsG
import Derived.Test.YtknjpkgnideplaaDoorShaFillsF
import Derived.Test.YtknjpkgnideplaaDoorShaFillsJ
import Derived.Test.YtknjpkgnideplaaDoorProg
import Derived.KernelRfl
import Derived.Test.YtknjpkgnideplaaDoorShaFillsH
import Derived.Test.YtknjpkgnideplaaDoorShaFillsI

section
open Go Go.Abs Go.Proofs
set_option maxRecDepth 100000
set_option linter.unusedVariables false
namespace slices_Clone_byte
noncomputable def D : Ctx := { P := Tryd.prog, G := [], globs := [(0, [.arr .u32 64 P.roots256]), (1, [.arr .u64 80 P.roots512])], hints := [], loops := [] }
noncomputable def c : Code := Tryd.f64.body.getD .skip
noncomputable def o0 : Oper := (regOps (sq1 c)).getD 0 anOper
noncomputable def o1 : Oper := (regOps (sq1 (sq1 (sq2 c)))).getD 0 anOper
noncomputable def o2 : Oper := (regOps (sq1 (sq1 (sq2 c)))).getD 1 anOper
noncomputable def X : Code := condX (sq2 (sq1 (sq2 c)))
noncomputable def rest : Code := sq2 (sq2 c)
noncomputable def ox : Oper := (regOps (sq1 X)).getD 0 anOper
theorem rest_eq (a0 : List Int) : codeA D rest ⟨[(0, .sl (.ints .u8 a0)), (2, .v (.slice none 0 0))], [], 0, Tryd.f64.ntmps⟩ (outK D [.fr 5 (.ints .u8 a0)] Tryd.f64) = br (decide ((0 + a0.length) * 1 ≤ 140737488355328)) (some (.fr 5 (.ints .u8 a0))) none := by kernel_rfl
noncomputable def spec0 : Abs.Spec := fun args K => match args with
  | [.sl (.ints .u8 a0)] => P.slices_Clone_byte a0 (fun a0 => K (.fr 5 (.ints .u8 a0)))
  | _ => none
theorem body_eq : Tryd.f64.body = some (.seq (.region 0 #[o0] false) (.seq (.seq (.region 1 #[o1, o2] false) (.cond (.tmp 4) X .skip)) rest)) := by kernel_rfl
theorem ok0 : Proved Tryd.prog [(0, [.arr .u32 64 P.roots256]), (1, [.arr .u64 80 P.roots512])] 64 spec0 := by
  refine ⟨⟨Tryd.f64, by kernel_rfl, by kernel_rfl, by kernel_rfl⟩, fun args K r h => ?_⟩
  unfold spec0 at h
  split at h
  · rename_i a0
    unfold P.slices_Clone_byte at h
    obtain ⟨hp, hK⟩ := pre_some h
    refine ⟨_, hK, clone_ok (D := D) (fn := Tryd.f64) (t := 24) (e := 5) trivial (globsPlain_of (by kernel_rfl)) trivial (by kernel_rfl) (by kernel_rfl) body_eq ⟨by kernel_rfl, by kernel_rfl, by kernel_rfl⟩ ⟨by kernel_rfl, by kernel_rfl, by kernel_rfl⟩ ⟨by kernel_rfl, by kernel_rfl, by kernel_rfl⟩ (by kernel_rfl) (by decide +kernel) (by kernel_rfl) (by kernel_rfl) ⟨2, ox, by kernel_rfl, by kernel_rfl, by kernel_rfl, by kernel_rfl⟩ (by kernel_rfl) ?_⟩
    rw [rest_eq, br_pos (by omega)]
  · cases h
noncomputable def spec : Abs.Spec := fun args K => spec0 (coerL [.sl (.ints .u8 [])] args) K
theorem ok : Proved Tryd.prog [(0, [.arr .u32 64 P.roots256]), (1, [.arr .u64 80 P.roots512])] 64 spec := proved_coer _ ok0
end slices_Clone_byte
end

section
open Go Go.Abs Go.Proofs
set_option maxRecDepth 100000
set_option linter.unusedVariables false
namespace slices_Grow_byte
noncomputable def D : Ctx := ({ P := Tryd.prog, G := [], globs := [(0, [.arr .u32 64 P.roots256]), (1, [.arr .u64 80 P.roots512])], hints := [], loops := [], inl := [] } : Ctx)
theorem body (a1 : Int) (K : AVal → Option R) : bodyW D Tryd.f109 5 (.ints .u8 []) [.v (.slice none 0 0), .v (.int .i64 a1)] K = P.slices_Grow_byte a1 (fun r0 => K (.fr 5 (.ints .u8 r0))) := by
  rw [P.slices_Grow_byte_eq]
  kernel_rfl
theorem loops : loopsOf (Tryd.f109.body.getD .skip) = [] := by kernel_rfl
noncomputable def spec0 : Abs.Spec := fun args K => match args with
  | [.v (.slice none 0 0), .v (.int .i64 a1)] => P.slices_Grow_byte a1 (fun r0 => K (.fr 5 (.ints .u8 r0)))
  | _ => none
noncomputable def spec : Abs.Spec := spec0
theorem ok0 : Proved Tryd.prog [(0, [.arr .u32 64 P.roots256]), (1, [.arr .u64 80 P.roots512])] 109 spec0 := by
  refine provedW_of (D := D) (fn := Tryd.f109) (c := Tryd.f109.body.getD .skip) 5 (.ints .u8 []) (by kernel_rfl) (globsPlain_of (by kernel_rfl)) (by kernel_rfl) (by kernel_rfl) (by kernel_rfl) trivial trivial ?_ ?_
  · rw [loops]; exact trivial
  · intro args K r h
    unfold spec0 at h
    split at h
    · rw [body]; exact h
    · cases h
theorem ok : Proved Tryd.prog [(0, [.arr .u32 64 P.roots256]), (1, [.arr .u64 80 P.roots512])] 109 spec := ok0
end slices_Grow_byte
end

section
open Go Go.Abs Go.Proofs
set_option maxRecDepth 100000
set_option linter.unusedVariables false
namespace slices_Concat_byte
def S3 (v0 : List (List Int)) (v3 : Int) (v9 : List (List Int)) (v10 : Int) (v11 : Int) : ASt := ⟨[(0, .sl (.rows .u8 v0)), (3, .v (.int .i64 v3)), (9, .sl (.rows .u8 v9)), (10, .v (.int .i64 v10)), (11, .v (.int .i64 v11))], [], 0, 36⟩
def V3 : ASt → Option ((List (List Int)) × Int × (List (List Int)) × Int × Int)
  | ⟨[(0, .sl (.rows .u8 v0)), (3, .v (.int .i64 v3)), (9, .sl (.rows .u8 v9)), (10, .v (.int .i64 v10)), (11, .v (.int .i64 v11))], [], 0, 36⟩ => some (v0, v3, v9, v10, v11)
  | _ => none
theorem V3_ok (st : ASt) (x : (List (List Int)) × Int × (List (List Int)) × Int × Int) (h : V3 st = some x) : st = S3 x.1 x.2.1 x.2.2.1 x.2.2.2.1 x.2.2.2.2 := by
  unfold V3 at h
  split at h
  · cases h; rfl
  · cases h
def S11 (v25 : List (List Int)) (v26 : Int) (v27 : Int) (h1 : List Int) : ASt := ⟨[(6, .own 1), (25, .sl (.rows .u8 v25)), (26, .v (.int .i64 v26)), (27, .v (.int .i64 v27))], [(1, some ⟨.row 5 (.ints .u8 h1), false⟩), (0, none)], 2, 36⟩
def V11 : ASt → Option ((List (List Int)) × Int × Int × (List Int))
  | ⟨[(6, .own 1), (25, .sl (.rows .u8 v25)), (26, .v (.int .i64 v26)), (27, .v (.int .i64 v27))], [(1, some ⟨.row 5 (.ints .u8 h1), false⟩), (0, none)], 2, 36⟩ => some (v25, v26, v27, h1)
  | _ => none
theorem V11_ok (st : ASt) (x : (List (List Int)) × Int × Int × (List Int)) (h : V11 st = some x) : st = S11 x.1 x.2.1 x.2.2.1 x.2.2.2 := by
  unfold V11 at h
  split at h
  · cases h; rfl
  · cases h
noncomputable def L3 : LSpec := fun st K => match V3 st with
  | some x => P.slices_Concat_byte_l3 x.1 x.2.1 x.2.2.1 x.2.2.2.1 x.2.2.2.2 (fun v0 v3 v9 v10 v11 => K (.exit 0) (S3 v0 v3 v9 v10 v11))
  | none => none
noncomputable def L11 : LSpec := fun st K => match V11 st with
  | some x => P.slices_Concat_byte_l11 x.1 x.2.1 x.2.2.1 x.2.2.2 (fun v25 v26 v27 h1 => K (.exit 2) (S11 v25 v26 v27 h1))
  | none => none
noncomputable def D : Ctx := ({ P := Tryd.prog, G := [(109, slices_Grow_byte.spec)], globs := [(0, [.arr .u32 64 P.roots256]), (1, [.arr .u64 80 P.roots512])], hints := [(11, ⟨[25, 26, 27], [(6, 5, .ints .u8 [])], [2], [], none, []⟩), (3, ⟨[0, 3, 9, 10, 11], [], [2], [], none, []⟩)], loops := [(3, L3), (11, L11)], inl := [] } : Ctx)
def E3 (K : AExit → ASt → Option R) : (((List (List Int)) × Int × (List (List Int)) × Int × Int)) → Option R := (fun x => K (.exit 0) (S3 x.1 x.2.1 x.2.2.1 x.2.2.2.1 x.2.2.2.2))
theorem round3 (K : AExit → ASt → Option R) (next : ASt → Option R) (x : (List (List Int)) × Int × (List (List Int)) × Int × Int) : roundA D (loopAt Tryd.f59 3) K next (S3 x.1 x.2.1 x.2.2.1 x.2.2.2.1 x.2.2.2.2) = (fun (x : (List (List Int)) × Int × (List (List Int)) × Int × Int) (next : ((List (List Int)) × Int × (List (List Int)) × Int × Int) → Option R) (ex : (((List (List Int)) × Int × (List (List Int)) × Int × Int)) → Option R) => P.slices_Concat_byte_r3 x.1 x.2.1 x.2.2.1 x.2.2.2.1 x.2.2.2.2 (fun v0 v3 v9 v10 v11 => next (v0, v3, v9, v10, v11)) (fun v0 v3 v9 v10 v11 => ex ((v0, v3, v9, v10, v11)))) x (fun x => next (S3 x.1 x.2.1 x.2.2.1 x.2.2.2.1 x.2.2.2.2)) (E3 K) := by kernel_rfl
theorem lq3 (st : ASt) (K : AExit → ASt → Option R) : L3 st K = vMap (V3 st) (fun x => lp (fun (x : (List (List Int)) × Int × (List (List Int)) × Int × Int) (next : ((List (List Int)) × Int × (List (List Int)) × Int × Int) → Option R) (ex : (((List (List Int)) × Int × (List (List Int)) × Int × Int)) → Option R) => P.slices_Concat_byte_r3 x.1 x.2.1 x.2.2.1 x.2.2.2.1 x.2.2.2.2 (fun v0 v3 v9 v10 v11 => next (v0, v3, v9, v10, v11)) (fun v0 v3 v9 v10 v11 => ex ((v0, v3, v9, v10, v11)))) x (E3 K)) := by
  unfold L3
  cases V3 st with
  | none => rfl
  | some x => simp only [P.slices_Concat_byte_l3_eq]; rfl
theorem loop3 : LoopOk D (loopAt Tryd.f59 3) := loopOk_lp (X := (List (List Int)) × Int × (List (List Int)) × Int × Int) (Y := ((List (List Int)) × Int × (List (List Int)) × Int × Int)) (fun x => S3 x.1 x.2.1 x.2.2.1 x.2.2.2.1 x.2.2.2.2) V3_ok (stp := (fun (x : (List (List Int)) × Int × (List (List Int)) × Int × Int) (next : ((List (List Int)) × Int × (List (List Int)) × Int × Int) → Option R) (ex : (((List (List Int)) × Int × (List (List Int)) × Int × Int)) → Option R) => P.slices_Concat_byte_r3 x.1 x.2.1 x.2.2.1 x.2.2.2.1 x.2.2.2.2 (fun v0 v3 v9 v10 v11 => next (v0, v3, v9, v10, v11)) (fun v0 v3 v9 v10 v11 => ex ((v0, v3, v9, v10, v11))))) (enc := E3) (L := L3) (by kernel_rfl) lq3 round3
def E11 (K : AExit → ASt → Option R) : (((List (List Int)) × Int × Int × (List Int))) → Option R := (fun x => K (.exit 2) (S11 x.1 x.2.1 x.2.2.1 x.2.2.2))
theorem round11 (K : AExit → ASt → Option R) (next : ASt → Option R) (x : (List (List Int)) × Int × Int × (List Int)) : roundA D (loopAt Tryd.f59 11) K next (S11 x.1 x.2.1 x.2.2.1 x.2.2.2) = (fun (x : (List (List Int)) × Int × Int × (List Int)) (next : ((List (List Int)) × Int × Int × (List Int)) → Option R) (ex : (((List (List Int)) × Int × Int × (List Int))) → Option R) => P.slices_Concat_byte_r11 x.1 x.2.1 x.2.2.1 x.2.2.2 (fun v25 v26 v27 h1 => next (v25, v26, v27, h1)) (fun v25 v26 v27 h1 => ex ((v25, v26, v27, h1)))) x (fun x => next (S11 x.1 x.2.1 x.2.2.1 x.2.2.2)) (E11 K) := by kernel_rfl
theorem lq11 (st : ASt) (K : AExit → ASt → Option R) : L11 st K = vMap (V11 st) (fun x => lp (fun (x : (List (List Int)) × Int × Int × (List Int)) (next : ((List (List Int)) × Int × Int × (List Int)) → Option R) (ex : (((List (List Int)) × Int × Int × (List Int))) → Option R) => P.slices_Concat_byte_r11 x.1 x.2.1 x.2.2.1 x.2.2.2 (fun v25 v26 v27 h1 => next (v25, v26, v27, h1)) (fun v25 v26 v27 h1 => ex ((v25, v26, v27, h1)))) x (E11 K)) := by
  unfold L11
  cases V11 st with
  | none => rfl
  | some x => simp only [P.slices_Concat_byte_l11_eq]; rfl
theorem loop11 : LoopOk D (loopAt Tryd.f59 11) := loopOk_lp (X := (List (List Int)) × Int × Int × (List Int)) (Y := ((List (List Int)) × Int × Int × (List Int))) (fun x => S11 x.1 x.2.1 x.2.2.1 x.2.2.2) V11_ok (stp := (fun (x : (List (List Int)) × Int × Int × (List Int)) (next : ((List (List Int)) × Int × Int × (List Int)) → Option R) (ex : (((List (List Int)) × Int × Int × (List Int))) → Option R) => P.slices_Concat_byte_r11 x.1 x.2.1 x.2.2.1 x.2.2.2 (fun v25 v26 v27 h1 => next (v25, v26, v27, h1)) (fun v25 v26 v27 h1 => ex ((v25, v26, v27, h1))))) (enc := E11) (L := L11) (by kernel_rfl) lq11 round11
theorem body (a0 : List (List Int)) (K : AVal → Option R) : bodyA D Tryd.f59 [.fr 5 (.ints .u8 [])] [.sl (.rows .u8 a0)] K = P.slices_Concat_byte a0 (fun r0 => K (.fr 5 (.ints .u8 r0))) := by
  rw [P.slices_Concat_byte_eq]
  kernel_rfl
theorem loops : loopsOf (Tryd.f59.body.getD .skip) = [loopAt Tryd.f59 3, loopAt Tryd.f59 11] := by kernel_rfl
noncomputable def spec0 : Abs.Spec := fun args K => match args with
  | [.sl (.rows .u8 a0)] => P.slices_Concat_byte a0 (fun r0 => K (.fr 5 (.ints .u8 r0)))
  | _ => none
noncomputable def spec : Abs.Spec := fun args K => spec0 (coerL [.sl (.rows .u8 [])] args) K
theorem ok0 : Proved Tryd.prog [(0, [.arr .u32 64 P.roots256]), (1, [.arr .u64 80 P.roots512])] 59 spec0 := by
  refine proved_of (D := D) (fn := Tryd.f59) (c := Tryd.f59.body.getD .skip) [.fr 5 (.ints .u8 [])] (by kernel_rfl) (globsPlain_of (by kernel_rfl)) (by kernel_rfl) (by kernel_rfl) (by kernel_rfl) ⟨slices_Grow_byte.ok, trivial⟩ trivial ?_ ?_
  · rw [loops]; exact ⟨loop3, loop11, trivial⟩
  · intro args K r h
    unfold spec0 at h
    split at h
    · rw [body]; exact h
    · cases h
theorem ok : Proved Tryd.prog [(0, [.arr .u32 64 P.roots256]), (1, [.arr .u64 80 P.roots512])] 59 spec := proved_coer _ ok0
end slices_Concat_byte
end

section
open Go Go.Abs Go.Proofs
set_option maxRecDepth 100000
set_option linter.unusedVariables false
namespace sha_Add
noncomputable def D : Ctx := ({ P := Tryd.prog, G := [(59, slices_Concat_byte.spec), (60, sha_through_uint32.spec), (61, sha_small.spec), (62, sha_through_uint64.spec), (63, sha_great.spec), (64, slices_Clone_byte.spec)], globs := [(0, [.arr .u32 64 P.roots256]), (1, [.arr .u64 80 P.roots512])], hints := [], loops := [], inl := [] } : Ctx)
theorem body (a0_Kind : Int) (a0_Words : List Int) (a0_Tail : List Int) (a0_Size : Int) (a1 : List Int) (K : AVal → Option R) : bodyA D Tryd.f15 [.agg [.any, .any, .fr 5 (.ints .u8 []), .any]] [.agg [.v (.int .i64 a0_Kind), .arr .u64 8 a0_Words, .sl (.ints .u8 a0_Tail), .v (.int .u64 a0_Size)], .sl (.ints .u8 a1)] K = P.sha_Add a0_Kind a0_Words a0_Tail a0_Size a1 (fun r0_Kind r0_Words r0_Tail r0_Size => K (.agg [.v (.int .i64 r0_Kind), .arr .u64 8 r0_Words, .fr 5 (.ints .u8 r0_Tail), .v (.int .u64 r0_Size)])) := by
  rw [P.sha_Add_eq]
  kernel_rfl
theorem loops : loopsOf (Tryd.f15.body.getD .skip) = [] := by kernel_rfl
noncomputable def spec0 : Abs.Spec := fun args K => match args with
  | [.agg [.v (.int .i64 a0_Kind), .arr .u64 8 a0_Words, .sl (.ints .u8 a0_Tail), .v (.int .u64 a0_Size)], .sl (.ints .u8 a1)] => P.sha_Add a0_Kind a0_Words a0_Tail a0_Size a1 (fun r0_Kind r0_Words r0_Tail r0_Size => K (.agg [.v (.int .i64 r0_Kind), .arr .u64 8 r0_Words, .fr 5 (.ints .u8 r0_Tail), .v (.int .u64 r0_Size)]))
  | _ => none
noncomputable def spec : Abs.Spec := fun args K => spec0 (coerL [.agg [.any, .any, .sl (.ints .u8 []), .any], .sl (.ints .u8 [])] args) K
theorem ok0 : Proved Tryd.prog [(0, [.arr .u32 64 P.roots256]), (1, [.arr .u64 80 P.roots512])] 15 spec0 := by
  refine proved_of (D := D) (fn := Tryd.f15) (c := Tryd.f15.body.getD .skip) [.agg [.any, .any, .fr 5 (.ints .u8 []), .any]] (by kernel_rfl) (globsPlain_of (by kernel_rfl)) (by kernel_rfl) (by kernel_rfl) (by kernel_rfl) ⟨slices_Concat_byte.ok, sha_through_uint32.ok, sha_small.ok, sha_through_uint64.ok, sha_great.ok, slices_Clone_byte.ok, trivial⟩ trivial ?_ ?_
  · rw [loops]; exact trivial
  · intro args K r h
    unfold spec0 at h
    split at h
    · rw [body]; exact h
    · cases h
theorem ok : Proved Tryd.prog [(0, [.arr .u32 64 P.roots256]), (1, [.arr .u64 80 P.roots512])] 15 spec := proved_coer _ ok0
end sha_Add
end

section
open Go Go.Abs Go.Proofs
set_option maxRecDepth 100000
set_option linter.unusedVariables false
namespace bits_Le
def S5 (v0 : Int) (v16 : Int) (v17 : Int) (h0 : List Int) : ASt := ⟨[(0, .v (.int .u64 v0)), (5, .own 0), (16, .v (.int .i64 v16)), (17, .v (.int .i64 v17))], [(0, some ⟨.row 5 (.ints .u8 h0), false⟩)], 1, 30⟩
def V5 : ASt → Option (Int × Int × Int × (List Int))
  | ⟨[(0, .v (.int .u64 v0)), (5, .own 0), (16, .v (.int .i64 v16)), (17, .v (.int .i64 v17))], [(0, some ⟨.row 5 (.ints .u8 h0), false⟩)], 1, 30⟩ => some (v0, v16, v17, h0)
  | _ => none
theorem V5_ok (st : ASt) (x : Int × Int × Int × (List Int)) (h : V5 st = some x) : st = S5 x.1 x.2.1 x.2.2.1 x.2.2.2 := by
  unfold V5 at h
  split at h
  · cases h; rfl
  · cases h
noncomputable def L5 : LSpec := fun st K => match V5 st with
  | some x => P.bits_Le_l5 x.1 x.2.1 x.2.2.1 x.2.2.2 (fun v0 v16 v17 h0 => K (.exit 0) (S5 v0 v16 v17 h0))
  | none => none
noncomputable def D : Ctx := ({ P := Tryd.prog, G := [], globs := [(0, [.arr .u32 64 P.roots256]), (1, [.arr .u64 80 P.roots512])], hints := [(5, ⟨[0, 5, 16, 17], [], [4], [], none, []⟩)], loops := [(5, L5)], inl := [] } : Ctx)
def E5 (K : AExit → ASt → Option R) : ((Int × Int × Int × (List Int))) → Option R := (fun x => K (.exit 0) (S5 x.1 x.2.1 x.2.2.1 x.2.2.2))
theorem round5 (K : AExit → ASt → Option R) (next : ASt → Option R) (x : Int × Int × Int × (List Int)) : roundA D (loopAt Tryd.f118 5) K next (S5 x.1 x.2.1 x.2.2.1 x.2.2.2) = (fun (x : Int × Int × Int × (List Int)) (next : (Int × Int × Int × (List Int)) → Option R) (ex : ((Int × Int × Int × (List Int))) → Option R) => P.bits_Le_r5 x.1 x.2.1 x.2.2.1 x.2.2.2 (fun v0 v16 v17 h0 => next (v0, v16, v17, h0)) (fun v0 v16 v17 h0 => ex ((v0, v16, v17, h0)))) x (fun x => next (S5 x.1 x.2.1 x.2.2.1 x.2.2.2)) (E5 K) := by kernel_rfl
theorem lq5 (st : ASt) (K : AExit → ASt → Option R) : L5 st K = vMap (V5 st) (fun x => lp (fun (x : Int × Int × Int × (List Int)) (next : (Int × Int × Int × (List Int)) → Option R) (ex : ((Int × Int × Int × (List Int))) → Option R) => P.bits_Le_r5 x.1 x.2.1 x.2.2.1 x.2.2.2 (fun v0 v16 v17 h0 => next (v0, v16, v17, h0)) (fun v0 v16 v17 h0 => ex ((v0, v16, v17, h0)))) x (E5 K)) := by
  unfold L5
  cases V5 st with
  | none => rfl
  | some x => simp only [P.bits_Le_l5_eq]; rfl
theorem loop5 : LoopOk D (loopAt Tryd.f118 5) := loopOk_lp (X := Int × Int × Int × (List Int)) (Y := (Int × Int × Int × (List Int))) (fun x => S5 x.1 x.2.1 x.2.2.1 x.2.2.2) V5_ok (stp := (fun (x : Int × Int × Int × (List Int)) (next : (Int × Int × Int × (List Int)) → Option R) (ex : ((Int × Int × Int × (List Int))) → Option R) => P.bits_Le_r5 x.1 x.2.1 x.2.2.1 x.2.2.2 (fun v0 v16 v17 h0 => next (v0, v16, v17, h0)) (fun v0 v16 v17 h0 => ex ((v0, v16, v17, h0))))) (enc := E5) (L := L5) (by kernel_rfl) lq5 round5
theorem body (a0 : Int) (a1 : Int) (K : AVal → Option R) : bodyA D Tryd.f118 [.fr 5 (.ints .u8 [])] [.v (.int .u64 a0), .v (.int .i64 a1)] K = P.bits_Le a0 a1 (fun r0 => K (.fr 5 (.ints .u8 r0))) := by
  rw [P.bits_Le_eq]
  kernel_rfl
theorem loops : loopsOf (Tryd.f118.body.getD .skip) = [loopAt Tryd.f118 5] := by kernel_rfl
noncomputable def spec0 : Abs.Spec := fun args K => match args with
  | [.v (.int .u64 a0), .v (.int .i64 a1)] => P.bits_Le a0 a1 (fun r0 => K (.fr 5 (.ints .u8 r0)))
  | _ => none
noncomputable def spec : Abs.Spec := spec0
theorem ok0 : Proved Tryd.prog [(0, [.arr .u32 64 P.roots256]), (1, [.arr .u64 80 P.roots512])] 118 spec0 := by
  refine proved_of (D := D) (fn := Tryd.f118) (c := Tryd.f118.body.getD .skip) [.fr 5 (.ints .u8 [])] (by kernel_rfl) (globsPlain_of (by kernel_rfl)) (by kernel_rfl) (by kernel_rfl) (by kernel_rfl) trivial trivial ?_ ?_
  · rw [loops]; exact ⟨loop5, trivial⟩
  · intro args K r h
    unfold spec0 at h
    split at h
    · rw [body]; exact h
    · cases h
theorem ok : Proved Tryd.prog [(0, [.arr .u32 64 P.roots256]), (1, [.arr .u64 80 P.roots512])] 118 spec := ok0
end bits_Le
end

section
open Go Go.Abs Go.Proofs
set_option maxRecDepth 100000
set_option linter.unusedVariables false
namespace bits_Be
def S1_1 (v2 : Int) (v3 : Int) (h0 : List Int) : ASt := ⟨[(0, .own 0), (2, .v (.int .i64 v2)), (3, .v (.int .i64 v3))], [(0, some ⟨.row 5 (.ints .u8 h0), false⟩)], 1, 28⟩
def V1_1 : ASt → Option (Int × Int × (List Int))
  | ⟨[(0, .own 0), (2, .v (.int .i64 v2)), (3, .v (.int .i64 v3))], [(0, some ⟨.row 5 (.ints .u8 h0), false⟩)], 1, 28⟩ => some (v2, v3, h0)
  | _ => none
theorem V1_1_ok (st : ASt) (x : Int × Int × (List Int)) (h : V1_1 st = some x) : st = S1_1 x.1 x.2.1 x.2.2 := by
  unfold V1_1 at h
  split at h
  · cases h; rfl
  · cases h
noncomputable def L1_1 : LSpec := fun st K => match V1_1 st with
  | some x => P.bits_Be_l1_1 x.1 x.2.1 x.2.2 (fun v2 v3 h0 => K (.exit 0) (S1_1 v2 v3 h0))
  | none => none
noncomputable def D1 : Ctx := ({ P := Tryd.prog, G := [(118, bits_Le.spec)], globs := [(0, [.arr .u32 64 P.roots256]), (1, [.arr .u64 80 P.roots512])], hints := [(1, ⟨[0, 2, 3], [], [], [], none, []⟩)], loops := [(1, L1_1)], inl := [] } : Ctx)
noncomputable def D : Ctx := ({ P := Tryd.prog, G := [(118, bits_Le.spec)], globs := [(0, [.arr .u32 64 P.roots256]), (1, [.arr .u64 80 P.roots512])], hints := [], loops := [], inl := [(119, bodyIn D1 Tryd.f119)] } : Ctx)
def E1_1 (K : AExit → ASt → Option R) : ((Int × Int × (List Int))) → Option R := (fun x => K (.exit 0) (S1_1 x.1 x.2.1 x.2.2))
theorem round1_1 (K : AExit → ASt → Option R) (next : ASt → Option R) (x : Int × Int × (List Int)) : roundA D1 (loopAt Tryd.f119 1) K next (S1_1 x.1 x.2.1 x.2.2) = (fun (x : Int × Int × (List Int)) (next : (Int × Int × (List Int)) → Option R) (ex : ((Int × Int × (List Int))) → Option R) => P.bits_Be_r1_1 x.1 x.2.1 x.2.2 (fun v2 v3 h0 => next (v2, v3, h0)) (fun v2 v3 h0 => ex ((v2, v3, h0)))) x (fun x => next (S1_1 x.1 x.2.1 x.2.2)) (E1_1 K) := by kernel_rfl
theorem lq1_1 (st : ASt) (K : AExit → ASt → Option R) : L1_1 st K = vMap (V1_1 st) (fun x => lp (fun (x : Int × Int × (List Int)) (next : (Int × Int × (List Int)) → Option R) (ex : ((Int × Int × (List Int))) → Option R) => P.bits_Be_r1_1 x.1 x.2.1 x.2.2 (fun v2 v3 h0 => next (v2, v3, h0)) (fun v2 v3 h0 => ex ((v2, v3, h0)))) x (E1_1 K)) := by
  unfold L1_1
  cases V1_1 st with
  | none => rfl
  | some x => simp only [P.bits_Be_l1_1_eq]; rfl
theorem loop1_1 : LoopOk D1 (loopAt Tryd.f119 1) := loopOk_lp (X := Int × Int × (List Int)) (Y := (Int × Int × (List Int))) (fun x => S1_1 x.1 x.2.1 x.2.2) V1_1_ok (stp := (fun (x : Int × Int × (List Int)) (next : (Int × Int × (List Int)) → Option R) (ex : ((Int × Int × (List Int))) → Option R) => P.bits_Be_r1_1 x.1 x.2.1 x.2.2 (fun v2 v3 h0 => next (v2, v3, h0)) (fun v2 v3 h0 => ex ((v2, v3, h0))))) (enc := E1_1) (L := L1_1) (by kernel_rfl) lq1_1 round1_1
theorem body (a0 : Int) (a1 : Int) (K : AVal → Option R) : bodyA D Tryd.f68 [.fr 5 (.ints .u8 [])] [.v (.int .u64 a0), .v (.int .i64 a1)] K = P.bits_Be a0 a1 (fun r0 => K (.fr 5 (.ints .u8 r0))) := by
  rw [P.bits_Be_eq]
  kernel_rfl
theorem loops : loopsOf (Tryd.f68.body.getD .skip) = [] := by kernel_rfl
theorem loops1 : loopsOf (Tryd.f119.body.getD .skip) = [loopAt Tryd.f119 1] := by kernel_rfl
noncomputable def spec0 : Abs.Spec := fun args K => match args with
  | [.v (.int .u64 a0), .v (.int .i64 a1)] => P.bits_Be a0 a1 (fun r0 => K (.fr 5 (.ints .u8 r0)))
  | _ => none
noncomputable def spec : Abs.Spec := spec0
theorem ok0 : Proved Tryd.prog [(0, [.arr .u32 64 P.roots256]), (1, [.arr .u64 80 P.roots512])] 68 spec0 := by
  refine proved_of (D := D) (fn := Tryd.f68) (c := Tryd.f68.body.getD .skip) [.fr 5 (.ints .u8 [])] (by kernel_rfl) (globsPlain_of (by kernel_rfl)) (by kernel_rfl) (by kernel_rfl) (by kernel_rfl) ⟨bits_Le.ok, trivial⟩ ⟨run_of (D := D1) (D' := D) (fn := Tryd.f119) (c := Tryd.f119.body.getD .skip) rfl rfl (by kernel_rfl) (globsPlain_of (by kernel_rfl)) (by kernel_rfl) (by kernel_rfl) (by kernel_rfl) ⟨bits_Le.ok, trivial⟩ trivial (by rw [loops1]; exact ⟨loop1_1, trivial⟩) (fun _ _ _ _ _ h => h), trivial⟩ ?_ ?_
  · rw [loops]; exact trivial
  · intro args K r h
    unfold spec0 at h
    split at h
    · rw [body]; exact h
    · cases h
theorem ok : Proved Tryd.prog [(0, [.arr .u32 64 P.roots256]), (1, [.arr .u64 80 P.roots512])] 68 spec := ok0
end bits_Be
end

section
open Go Go.Abs Go.Proofs
set_option maxRecDepth 100000
set_option linter.unusedVariables false
namespace sha_blockSize
noncomputable def D : Ctx := ({ P := Tryd.prog, G := [], globs := [(0, [.arr .u32 64 P.roots256]), (1, [.arr .u64 80 P.roots512])], hints := [], loops := [], inl := [] } : Ctx)
theorem body (a0 : Int) (K : AVal → Option R) : bodyA D Tryd.f67 [.any] [.v (.int .i64 a0)] K = P.sha_blockSize a0 (fun r0 => K (.v (.int .i64 r0))) := by
  rw [P.sha_blockSize_eq]
  kernel_rfl
theorem loops : loopsOf (Tryd.f67.body.getD .skip) = [] := by kernel_rfl
noncomputable def spec0 : Abs.Spec := fun args K => match args with
  | [.v (.int .i64 a0)] => P.sha_blockSize a0 (fun r0 => K (.v (.int .i64 r0)))
  | _ => none
noncomputable def spec : Abs.Spec := spec0
theorem ok0 : Proved Tryd.prog [(0, [.arr .u32 64 P.roots256]), (1, [.arr .u64 80 P.roots512])] 67 spec0 := by
  refine proved_of (D := D) (fn := Tryd.f67) (c := Tryd.f67.body.getD .skip) [.any] (by kernel_rfl) (globsPlain_of (by kernel_rfl)) (by kernel_rfl) (by kernel_rfl) (by kernel_rfl) trivial trivial ?_ ?_
  · rw [loops]; exact trivial
  · intro args K r h
    unfold spec0 at h
    split at h
    · rw [body]; exact h
    · cases h
theorem ok : Proved Tryd.prog [(0, [.arr .u32 64 P.roots256]), (1, [.arr .u64 80 P.roots512])] 67 spec := ok0
end sha_blockSize
end

section
open Go Go.Abs Go.Proofs
set_option maxRecDepth 100000
set_option linter.unusedVariables false
namespace sha_End
def S10 (v3 : Int) (v45 : List Int) (v46 : Int) (h40 : List Int) (h0_0 : Int) (h0_1 : List Int) (h0_3 : Int) (h5 : List Int) : ASt := ⟨[(7, .own 40), (1, .ptr 0 0), (3, .v (.int .i64 v3)), (45, .arr .u64 8 v45), (46, .v (.int .i64 v46))], [(40, some ⟨.row 5 (.ints .u8 h40), false⟩), (0, some ⟨.box 26 [.v (.int .i64 h0_0), .arr .u64 8 h0_1, .own 5, .v (.int .u64 h0_3)], false⟩), (5, some ⟨.row 5 (.ints .u8 h5), false⟩)], 41, 62⟩
def V10 : ASt → Option (Int × (List Int) × Int × (List Int) × Int × (List Int) × Int × (List Int))
  | ⟨[(7, .own 40), (1, .ptr 0 0), (3, .v (.int .i64 v3)), (45, .arr .u64 8 v45), (46, .v (.int .i64 v46))], [(40, some ⟨.row 5 (.ints .u8 h40), false⟩), (0, some ⟨.box 26 [.v (.int .i64 h0_0), .arr .u64 8 h0_1, .own 5, .v (.int .u64 h0_3)], false⟩), (5, some ⟨.row 5 (.ints .u8 h5), false⟩)], 41, 62⟩ => some (v3, v45, v46, h40, h0_0, h0_1, h0_3, h5)
  | _ => none
theorem V10_ok (st : ASt) (x : Int × (List Int) × Int × (List Int) × Int × (List Int) × Int × (List Int)) (h : V10 st = some x) : st = S10 x.1 x.2.1 x.2.2.1 x.2.2.2.1 x.2.2.2.2.1 x.2.2.2.2.2.1 x.2.2.2.2.2.2.1 x.2.2.2.2.2.2.2 := by
  unfold V10 at h
  split at h
  · cases h; rfl
  · cases h
noncomputable def L10 : LSpec := fun st K => match V10 st with
  | some x => P.sha_End_l10 x.1 x.2.1 x.2.2.1 x.2.2.2.1 x.2.2.2.2.1 x.2.2.2.2.2.1 x.2.2.2.2.2.2.1 x.2.2.2.2.2.2.2 (fun v3 v45 v46 h40 h0_0 h0_1 h0_3 h5 => K (.exit 0) (S10 v3 v45 v46 h40 h0_0 h0_1 h0_3 h5))
  | none => none
noncomputable def D : Ctx := ({ P := Tryd.prog, G := [(15, sha_Add.spec), (67, sha_blockSize.spec), (68, bits_Be.spec)], globs := [(0, [.arr .u32 64 P.roots256]), (1, [.arr .u64 80 P.roots512])], hints := [(10, ⟨[1, 3, 45, 46], [(7, 5, .ints .u8 [])], [2], [], some (40, [0, 5]), []⟩)], loops := [(10, L10)], inl := [] } : Ctx)
def E10 (K : AExit → ASt → Option R) : ((Int × (List Int) × Int × (List Int) × Int × (List Int) × Int × (List Int))) → Option R := (fun x => K (.exit 0) (S10 x.1 x.2.1 x.2.2.1 x.2.2.2.1 x.2.2.2.2.1 x.2.2.2.2.2.1 x.2.2.2.2.2.2.1 x.2.2.2.2.2.2.2))
theorem round10 (K : AExit → ASt → Option R) (next : ASt → Option R) (x : Int × (List Int) × Int × (List Int) × Int × (List Int) × Int × (List Int)) : roundA D (loopAt Tryd.f19 10) K next (S10 x.1 x.2.1 x.2.2.1 x.2.2.2.1 x.2.2.2.2.1 x.2.2.2.2.2.1 x.2.2.2.2.2.2.1 x.2.2.2.2.2.2.2) = (fun (x : Int × (List Int) × Int × (List Int) × Int × (List Int) × Int × (List Int)) (next : (Int × (List Int) × Int × (List Int) × Int × (List Int) × Int × (List Int)) → Option R) (ex : ((Int × (List Int) × Int × (List Int) × Int × (List Int) × Int × (List Int))) → Option R) => P.sha_End_r10 x.1 x.2.1 x.2.2.1 x.2.2.2.1 x.2.2.2.2.1 x.2.2.2.2.2.1 x.2.2.2.2.2.2.1 x.2.2.2.2.2.2.2 (fun v3 v45 v46 h40 h0_0 h0_1 h0_3 h5 => next (v3, v45, v46, h40, h0_0, h0_1, h0_3, h5)) (fun v3 v45 v46 h40 h0_0 h0_1 h0_3 h5 => ex ((v3, v45, v46, h40, h0_0, h0_1, h0_3, h5)))) x (fun x => next (S10 x.1 x.2.1 x.2.2.1 x.2.2.2.1 x.2.2.2.2.1 x.2.2.2.2.2.1 x.2.2.2.2.2.2.1 x.2.2.2.2.2.2.2)) (E10 K) := by kernel_rfl
theorem lq10 (st : ASt) (K : AExit → ASt → Option R) : L10 st K = vMap (V10 st) (fun x => lp (fun (x : Int × (List Int) × Int × (List Int) × Int × (List Int) × Int × (List Int)) (next : (Int × (List Int) × Int × (List Int) × Int × (List Int) × Int × (List Int)) → Option R) (ex : ((Int × (List Int) × Int × (List Int) × Int × (List Int) × Int × (List Int))) → Option R) => P.sha_End_r10 x.1 x.2.1 x.2.2.1 x.2.2.2.1 x.2.2.2.2.1 x.2.2.2.2.2.1 x.2.2.2.2.2.2.1 x.2.2.2.2.2.2.2 (fun v3 v45 v46 h40 h0_0 h0_1 h0_3 h5 => next (v3, v45, v46, h40, h0_0, h0_1, h0_3, h5)) (fun v3 v45 v46 h40 h0_0 h0_1 h0_3 h5 => ex ((v3, v45, v46, h40, h0_0, h0_1, h0_3, h5)))) x (E10 K)) := by
  unfold L10
  cases V10 st with
  | none => rfl
  | some x => simp only [P.sha_End_l10_eq]; rfl
theorem loop10 : LoopOk D (loopAt Tryd.f19 10) := loopOk_lp (X := Int × (List Int) × Int × (List Int) × Int × (List Int) × Int × (List Int)) (Y := (Int × (List Int) × Int × (List Int) × Int × (List Int) × Int × (List Int))) (fun x => S10 x.1 x.2.1 x.2.2.1 x.2.2.2.1 x.2.2.2.2.1 x.2.2.2.2.2.1 x.2.2.2.2.2.2.1 x.2.2.2.2.2.2.2) V10_ok (stp := (fun (x : Int × (List Int) × Int × (List Int) × Int × (List Int) × Int × (List Int)) (next : (Int × (List Int) × Int × (List Int) × Int × (List Int) × Int × (List Int)) → Option R) (ex : ((Int × (List Int) × Int × (List Int) × Int × (List Int) × Int × (List Int))) → Option R) => P.sha_End_r10 x.1 x.2.1 x.2.2.1 x.2.2.2.1 x.2.2.2.2.1 x.2.2.2.2.2.1 x.2.2.2.2.2.2.1 x.2.2.2.2.2.2.2 (fun v3 v45 v46 h40 h0_0 h0_1 h0_3 h5 => next (v3, v45, v46, h40, h0_0, h0_1, h0_3, h5)) (fun v3 v45 v46 h40 h0_0 h0_1 h0_3 h5 => ex ((v3, v45, v46, h40, h0_0, h0_1, h0_3, h5))))) (enc := E10) (L := L10) (by kernel_rfl) lq10 round10
theorem body (a0_Kind : Int) (a0_Words : List Int) (a0_Tail : List Int) (a0_Size : Int) (K : AVal → Option R) : bodyW D Tryd.f19 5 (.ints .u8 []) [.agg [.v (.int .i64 a0_Kind), .arr .u64 8 a0_Words, .sl (.ints .u8 a0_Tail), .v (.int .u64 a0_Size)]] K = P.sha_End a0_Kind a0_Words a0_Tail a0_Size (fun r0 => K (.fr 5 (.ints .u8 r0))) := by
  rw [P.sha_End_eq]
  kernel_rfl
theorem loops : loopsOf (Tryd.f19.body.getD .skip) = [loopAt Tryd.f19 10] := by kernel_rfl
noncomputable def spec0 : Abs.Spec := fun args K => match args with
  | [.agg [.v (.int .i64 a0_Kind), .arr .u64 8 a0_Words, .sl (.ints .u8 a0_Tail), .v (.int .u64 a0_Size)]] => P.sha_End a0_Kind a0_Words a0_Tail a0_Size (fun r0 => K (.fr 5 (.ints .u8 r0)))
  | _ => none
noncomputable def spec : Abs.Spec := fun args K => spec0 (coerL [.agg [.any, .any, .sl (.ints .u8 []), .any]] args) K
theorem ok0 : Proved Tryd.prog [(0, [.arr .u32 64 P.roots256]), (1, [.arr .u64 80 P.roots512])] 19 spec0 := by
  refine provedW_of (D := D) (fn := Tryd.f19) (c := Tryd.f19.body.getD .skip) 5 (.ints .u8 []) (by kernel_rfl) (globsPlain_of (by kernel_rfl)) (by kernel_rfl) (by kernel_rfl) (by kernel_rfl) ⟨sha_Add.ok, sha_blockSize.ok, bits_Be.ok, trivial⟩ trivial ?_ ?_
  · rw [loops]; exact ⟨loop10, trivial⟩
  · intro args K r h
    unfold spec0 at h
    split at h
    · rw [body]; exact h
    · cases h
theorem ok : Proved Tryd.prog [(0, [.arr .u32 64 P.roots256]), (1, [.arr .u64 80 P.roots512])] 19 spec := proved_coer _ ok0
end sha_End
end

section
open Go Go.Abs Go.Proofs
set_option maxRecDepth 100000
set_option linter.unusedVariables false
namespace sha_Sum
noncomputable def D : Ctx := ({ P := Tryd.prog, G := [(15, sha_Add.spec), (19, sha_End.spec), (21, sha_New.spec)], globs := [(0, [.arr .u32 64 P.roots256]), (1, [.arr .u64 80 P.roots512])], hints := [], loops := [], inl := [] } : Ctx)
theorem body (a0 : Int) (a1 : List Int) (K : AVal → Option R) : bodyA D Tryd.f23 [.fr 5 (.ints .u8 []), .any] [.v (.int .i64 a0), .sl (.ints .u8 a1)] K = P.sha_Sum a0 a1 (fun r0 r1 => K (.tuple [.fr 5 (.ints .u8 r0), .v (.int .i64 r1)])) := by
  rw [P.sha_Sum_eq]
  kernel_rfl
theorem loops : loopsOf (Tryd.f23.body.getD .skip) = [] := by kernel_rfl
noncomputable def spec0 : Abs.Spec := fun args K => match args with
  | [.v (.int .i64 a0), .sl (.ints .u8 a1)] => P.sha_Sum a0 a1 (fun r0 r1 => K (.tuple [.fr 5 (.ints .u8 r0), .v (.int .i64 r1)]))
  | _ => none
noncomputable def spec : Abs.Spec := fun args K => spec0 (coerL [.any, .sl (.ints .u8 [])] args) K
theorem ok0 : Proved Tryd.prog [(0, [.arr .u32 64 P.roots256]), (1, [.arr .u64 80 P.roots512])] 23 spec0 := by
  refine proved_of (D := D) (fn := Tryd.f23) (c := Tryd.f23.body.getD .skip) [.fr 5 (.ints .u8 []), .any] (by kernel_rfl) (globsPlain_of (by kernel_rfl)) (by kernel_rfl) (by kernel_rfl) (by kernel_rfl) ⟨sha_Add.ok, sha_End.ok, sha_New.ok, trivial⟩ trivial ?_ ?_
  · rw [loops]; exact trivial
  · intro args K r h
    unfold spec0 at h
    split at h
    · rw [body]; exact h
    · cases h
theorem ok : Proved Tryd.prog [(0, [.arr .u32 64 P.roots256]), (1, [.arr .u64 80 P.roots512])] 23 spec := proved_coer _ ok0
end sha_Sum
end

section
open Go Go.Abs Go.Proofs
set_option maxRecDepth 100000
set_option linter.unusedVariables false
namespace L07_awake
noncomputable def D : Ctx := ({ P := Tryd.prog, G := [(18, R01_Same.spec), (21, sha_New.spec), (23, sha_Sum.spec)], globs := [(0, [.arr .u32 64 P.roots256]), (1, [.arr .u64 80 P.roots512])], hints := [], loops := [], inl := [] } : Ctx)
theorem body  (K : AVal → Option R) : bodyA D Tryd.f14 [.any] [] K = P.L07_awake (fun r0 => K (.v (.bool r0))) := by
  rw [P.L07_awake_eq]
  kernel_rfl
theorem loops : loopsOf (Tryd.f14.body.getD .skip) = [] := by kernel_rfl
noncomputable def spec0 : Abs.Spec := fun args K => match args with
  | [] => P.L07_awake (fun r0 => K (.v (.bool r0)))
  | _ => none
noncomputable def spec : Abs.Spec := spec0
theorem ok0 : Proved Tryd.prog [(0, [.arr .u32 64 P.roots256]), (1, [.arr .u64 80 P.roots512])] 14 spec0 := by
  refine proved_of (D := D) (fn := Tryd.f14) (c := Tryd.f14.body.getD .skip) [.any] (by kernel_rfl) (globsPlain_of (by kernel_rfl)) (by kernel_rfl) (by kernel_rfl) (by kernel_rfl) ⟨R01_Same.ok, sha_New.ok, sha_Sum.ok, trivial⟩ trivial ?_ ?_
  · rw [loops]; exact trivial
  · intro args K r h
    unfold spec0 at h
    split at h
    · rw [body]; exact h
    · cases h
theorem ok : Proved Tryd.prog [(0, [.arr .u32 64 P.roots256]), (1, [.arr .u64 80 P.roots512])] 14 spec := ok0
end L07_awake
end

section
open Go Go.Abs Go.Proofs
set_option maxRecDepth 100000
set_option linter.unusedVariables false
namespace R01_Be
def S5 (v0 : Int) (v6 : Int) (h0 : List Int) : ASt := ⟨[(0, .v (.int .u64 v0)), (5, .own 0), (6, .v (.int .i64 v6))], [(0, some ⟨.row 5 (.ints .u8 h0), false⟩)], 1, 30⟩
def V5 : ASt → Option (Int × Int × (List Int))
  | ⟨[(0, .v (.int .u64 v0)), (5, .own 0), (6, .v (.int .i64 v6))], [(0, some ⟨.row 5 (.ints .u8 h0), false⟩)], 1, 30⟩ => some (v0, v6, h0)
  | _ => none
theorem V5_ok (st : ASt) (x : Int × Int × (List Int)) (h : V5 st = some x) : st = S5 x.1 x.2.1 x.2.2 := by
  unfold V5 at h
  split at h
  · cases h; rfl
  · cases h
noncomputable def L5 : LSpec := fun st K => match V5 st with
  | some x => P.R01_Be_l5 x.1 x.2.1 x.2.2 (fun v0 v6 h0 => K (.exit 0) (S5 v0 v6 h0))
  | none => none
noncomputable def D : Ctx := ({ P := Tryd.prog, G := [], globs := [(0, [.arr .u32 64 P.roots256]), (1, [.arr .u64 80 P.roots512])], hints := [(5, ⟨[0, 5, 6], [], [4], [], none, []⟩)], loops := [(5, L5)], inl := [] } : Ctx)
def E5 (K : AExit → ASt → Option R) : ((Int × Int × (List Int))) → Option R := (fun x => K (.exit 0) (S5 x.1 x.2.1 x.2.2))
theorem round5 (K : AExit → ASt → Option R) (next : ASt → Option R) (x : Int × Int × (List Int)) : roundA D (loopAt Tryd.f22 5) K next (S5 x.1 x.2.1 x.2.2) = (fun (x : Int × Int × (List Int)) (next : (Int × Int × (List Int)) → Option R) (ex : ((Int × Int × (List Int))) → Option R) => P.R01_Be_r5 x.1 x.2.1 x.2.2 (fun v0 v6 h0 => next (v0, v6, h0)) (fun v0 v6 h0 => ex ((v0, v6, h0)))) x (fun x => next (S5 x.1 x.2.1 x.2.2)) (E5 K) := by kernel_rfl
theorem lq5 (st : ASt) (K : AExit → ASt → Option R) : L5 st K = vMap (V5 st) (fun x => lp (fun (x : Int × Int × (List Int)) (next : (Int × Int × (List Int)) → Option R) (ex : ((Int × Int × (List Int))) → Option R) => P.R01_Be_r5 x.1 x.2.1 x.2.2 (fun v0 v6 h0 => next (v0, v6, h0)) (fun v0 v6 h0 => ex ((v0, v6, h0)))) x (E5 K)) := by
  unfold L5
  cases V5 st with
  | none => rfl
  | some x => simp only [P.R01_Be_l5_eq]; rfl
theorem loop5 : LoopOk D (loopAt Tryd.f22 5) := loopOk_lp (X := Int × Int × (List Int)) (Y := (Int × Int × (List Int))) (fun x => S5 x.1 x.2.1 x.2.2) V5_ok (stp := (fun (x : Int × Int × (List Int)) (next : (Int × Int × (List Int)) → Option R) (ex : ((Int × Int × (List Int))) → Option R) => P.R01_Be_r5 x.1 x.2.1 x.2.2 (fun v0 v6 h0 => next (v0, v6, h0)) (fun v0 v6 h0 => ex ((v0, v6, h0))))) (enc := E5) (L := L5) (by kernel_rfl) lq5 round5
theorem body (a0 : Int) (a1 : Int) (K : AVal → Option R) : bodyA D Tryd.f22 [.fr 5 (.ints .u8 [])] [.v (.int .u64 a0), .v (.int .i64 a1)] K = P.R01_Be a0 a1 (fun r0 => K (.fr 5 (.ints .u8 r0))) := by
  rw [P.R01_Be_eq]
  kernel_rfl
theorem loops : loopsOf (Tryd.f22.body.getD .skip) = [loopAt Tryd.f22 5] := by kernel_rfl
noncomputable def spec0 : Abs.Spec := fun args K => match args with
  | [.v (.int .u64 a0), .v (.int .i64 a1)] => P.R01_Be a0 a1 (fun r0 => K (.fr 5 (.ints .u8 r0)))
  | _ => none
noncomputable def spec : Abs.Spec := spec0
theorem ok0 : Proved Tryd.prog [(0, [.arr .u32 64 P.roots256]), (1, [.arr .u64 80 P.roots512])] 22 spec0 := by
  refine proved_of (D := D) (fn := Tryd.f22) (c := Tryd.f22.body.getD .skip) [.fr 5 (.ints .u8 [])] (by kernel_rfl) (globsPlain_of (by kernel_rfl)) (by kernel_rfl) (by kernel_rfl) (by kernel_rfl) trivial trivial ?_ ?_
  · rw [loops]; exact ⟨loop5, trivial⟩
  · intro args K r h
    unfold spec0 at h
    split at h
    · rw [body]; exact h
    · cases h
theorem ok : Proved Tryd.prog [(0, [.arr .u32 64 P.roots256]), (1, [.arr .u64 80 P.roots512])] 22 spec := ok0
end R01_Be
end

section
open Go Go.Abs Go.Proofs
set_option maxRecDepth 100000
set_option linter.unusedVariables false
namespace R01_Num
def S3 (v0 : List Int) (v3 : Int) (v4 : Int) : ASt := ⟨[(0, .sl (.ints .u8 v0)), (3, .v (.int .u64 v3)), (4, .v (.int .i64 v4))], [], 0, 20⟩
def V3 : ASt → Option ((List Int) × Int × Int)
  | ⟨[(0, .sl (.ints .u8 v0)), (3, .v (.int .u64 v3)), (4, .v (.int .i64 v4))], [], 0, 20⟩ => some (v0, v3, v4)
  | _ => none
theorem V3_ok (st : ASt) (x : (List Int) × Int × Int) (h : V3 st = some x) : st = S3 x.1 x.2.1 x.2.2 := by
  unfold V3 at h
  split at h
  · cases h; rfl
  · cases h
noncomputable def L3 : LSpec := fun st K => match V3 st with
  | some x => P.R01_Num_l3 x.1 x.2.1 x.2.2 (fun v0 v3 v4 => K (.exit 0) (S3 v0 v3 v4))
  | none => none
noncomputable def D : Ctx := ({ P := Tryd.prog, G := [], globs := [(0, [.arr .u32 64 P.roots256]), (1, [.arr .u64 80 P.roots512])], hints := [(3, ⟨[0, 3, 4], [], [2], [], none, []⟩)], loops := [(3, L3)], inl := [] } : Ctx)
def E3 (K : AExit → ASt → Option R) : (((List Int) × Int × Int)) → Option R := (fun x => K (.exit 0) (S3 x.1 x.2.1 x.2.2))
theorem round3 (K : AExit → ASt → Option R) (next : ASt → Option R) (x : (List Int) × Int × Int) : roundA D (loopAt Tryd.f24 3) K next (S3 x.1 x.2.1 x.2.2) = (fun (x : (List Int) × Int × Int) (next : ((List Int) × Int × Int) → Option R) (ex : (((List Int) × Int × Int)) → Option R) => P.R01_Num_r3 x.1 x.2.1 x.2.2 (fun v0 v3 v4 => next (v0, v3, v4)) (fun v0 v3 v4 => ex ((v0, v3, v4)))) x (fun x => next (S3 x.1 x.2.1 x.2.2)) (E3 K) := by kernel_rfl
theorem lq3 (st : ASt) (K : AExit → ASt → Option R) : L3 st K = vMap (V3 st) (fun x => lp (fun (x : (List Int) × Int × Int) (next : ((List Int) × Int × Int) → Option R) (ex : (((List Int) × Int × Int)) → Option R) => P.R01_Num_r3 x.1 x.2.1 x.2.2 (fun v0 v3 v4 => next (v0, v3, v4)) (fun v0 v3 v4 => ex ((v0, v3, v4)))) x (E3 K)) := by
  unfold L3
  cases V3 st with
  | none => rfl
  | some x => simp only [P.R01_Num_l3_eq]; rfl
theorem loop3 : LoopOk D (loopAt Tryd.f24 3) := loopOk_lp (X := (List Int) × Int × Int) (Y := ((List Int) × Int × Int)) (fun x => S3 x.1 x.2.1 x.2.2) V3_ok (stp := (fun (x : (List Int) × Int × Int) (next : ((List Int) × Int × Int) → Option R) (ex : (((List Int) × Int × Int)) → Option R) => P.R01_Num_r3 x.1 x.2.1 x.2.2 (fun v0 v3 v4 => next (v0, v3, v4)) (fun v0 v3 v4 => ex ((v0, v3, v4))))) (enc := E3) (L := L3) (by kernel_rfl) lq3 round3
theorem body (a0 : List Int) (K : AVal → Option R) : bodyA D Tryd.f24 [.any] [.sl (.ints .u8 a0)] K = P.R01_Num a0 (fun r0 => K (.v (.int .u64 r0))) := by
  rw [P.R01_Num_eq]
  kernel_rfl
theorem loops : loopsOf (Tryd.f24.body.getD .skip) = [loopAt Tryd.f24 3] := by kernel_rfl
noncomputable def spec0 : Abs.Spec := fun args K => match args with
  | [.sl (.ints .u8 a0)] => P.R01_Num a0 (fun r0 => K (.v (.int .u64 r0)))
  | _ => none
noncomputable def spec : Abs.Spec := fun args K => spec0 (coerL [.sl (.ints .u8 [])] args) K
theorem ok0 : Proved Tryd.prog [(0, [.arr .u32 64 P.roots256]), (1, [.arr .u64 80 P.roots512])] 24 spec0 := by
  refine proved_of (D := D) (fn := Tryd.f24) (c := Tryd.f24.body.getD .skip) [.any] (by kernel_rfl) (globsPlain_of (by kernel_rfl)) (by kernel_rfl) (by kernel_rfl) (by kernel_rfl) trivial trivial ?_ ?_
  · rw [loops]; exact ⟨loop3, trivial⟩
  · intro args K r h
    unfold spec0 at h
    split at h
    · rw [body]; exact h
    · cases h
theorem ok : Proved Tryd.prog [(0, [.arr .u32 64 P.roots256]), (1, [.arr .u64 80 P.roots512])] 24 spec := proved_coer _ ok0
end R01_Num
end

section
open Go Go.Abs Go.Proofs
set_option maxRecDepth 100000
set_option linter.unusedVariables false
namespace L07_ShaFills
def S5 (v0 : List Int) (v4 : Int) (h40 : List Int) (h0 : List Int) (h1_0 : Int) (h1_1 : List Int) (h1_3 : Int) : ASt := ⟨[(5, .own 40), (0, .sl (.ints .u8 v0)), (3, .ptr 1 0), (4, .v (.int .i64 v4))], [(40, some ⟨.row 5 (.ints .u8 h40), false⟩), (0, some ⟨.row 5 (.ints .u8 h0), false⟩), (1, some ⟨.box 26 [.v (.int .i64 h1_0), .arr .u64 8 h1_1, .own 0, .v (.int .u64 h1_3)], false⟩)], 41, 81⟩
def V5 : ASt → Option ((List Int) × Int × (List Int) × (List Int) × Int × (List Int) × Int)
  | ⟨[(5, .own 40), (0, .sl (.ints .u8 v0)), (3, .ptr 1 0), (4, .v (.int .i64 v4))], [(40, some ⟨.row 5 (.ints .u8 h40), false⟩), (0, some ⟨.row 5 (.ints .u8 h0), false⟩), (1, some ⟨.box 26 [.v (.int .i64 h1_0), .arr .u64 8 h1_1, .own 0, .v (.int .u64 h1_3)], false⟩)], 41, 81⟩ => some (v0, v4, h40, h0, h1_0, h1_1, h1_3)
  | _ => none
theorem V5_ok (st : ASt) (x : (List Int) × Int × (List Int) × (List Int) × Int × (List Int) × Int) (h : V5 st = some x) : st = S5 x.1 x.2.1 x.2.2.1 x.2.2.2.1 x.2.2.2.2.1 x.2.2.2.2.2.1 x.2.2.2.2.2.2 := by
  unfold V5 at h
  split at h
  · cases h; rfl
  · cases h
def S13 (v63 : Int) (h44 : List Int) (h45_0 : Int) (h45_1 : List Int) (h45_3 : Int) (h46 : List Int) : ASt := ⟨[(6, .ptr 45 0), (7, .own 46), (63, .v (.int .i64 v63))], [(44, some ⟨.row 5 (.ints .u8 h44), false⟩), (45, some ⟨.box 26 [.v (.int .i64 h45_0), .arr .u64 8 h45_1, .own 44, .v (.int .u64 h45_3)], false⟩), (46, some ⟨.row 5 (.ints .u8 h46), false⟩)], 80, 81⟩
def V13 : ASt → Option (Int × (List Int) × Int × (List Int) × Int × (List Int))
  | ⟨[(6, .ptr 45 0), (7, .own 46), (63, .v (.int .i64 v63))], [(44, some ⟨.row 5 (.ints .u8 h44), false⟩), (45, some ⟨.box 26 [.v (.int .i64 h45_0), .arr .u64 8 h45_1, .own 44, .v (.int .u64 h45_3)], false⟩), (46, some ⟨.row 5 (.ints .u8 h46), false⟩)], 80, 81⟩ => some (v63, h44, h45_0, h45_1, h45_3, h46)
  | _ => none
theorem V13_ok (st : ASt) (x : Int × (List Int) × Int × (List Int) × Int × (List Int)) (h : V13 st = some x) : st = S13 x.1 x.2.1 x.2.2.1 x.2.2.2.1 x.2.2.2.2.1 x.2.2.2.2.2 := by
  unfold V13 at h
  split at h
  · cases h; rfl
  · cases h
noncomputable def L5 : LSpec := fun st K => match V5 st with
  | some x => P.L07_ShaFills_l5 x.1 x.2.1 x.2.2.1 x.2.2.2.1 x.2.2.2.2.1 x.2.2.2.2.2.1 x.2.2.2.2.2.2 (fun v0 v4 h40 h0 h1_0 h1_1 h1_3 => K (.exit 0) (S5 v0 v4 h40 h0 h1_0 h1_1 h1_3))
  | none => none
noncomputable def L13 : LSpec := fun st K => match V13 st with
  | some x => P.L07_ShaFills_l13 x.1 x.2.1 x.2.2.1 x.2.2.2.1 x.2.2.2.2.1 x.2.2.2.2.2 (fun v63 h44 h45_0 h45_1 h45_3 h46 => K (.exit 2) (S13 v63 h44 h45_0 h45_1 h45_3 h46)) (fun v2 h44 h45_0 h45_1 h45_3 h46 => K .ret ⟨[(2, .v (.bool v2))], [(44, some ⟨.row 5 (.ints .u8 h44), false⟩), (45, some ⟨.box 26 [.v (.int .i64 h45_0), .arr .u64 8 h45_1, .own 44, .v (.int .u64 h45_3)], false⟩), (46, some ⟨.row 5 (.ints .u8 h46), false⟩)], 80, 81⟩)
  | none => none
noncomputable def D : Ctx := ({ P := Tryd.prog, G := [(14, L07_awake.spec), (15, sha_Add.spec), (21, sha_New.spec), (22, R01_Be.spec), (23, sha_Sum.spec), (24, R01_Num.spec)], globs := [(0, [.arr .u32 64 P.roots256]), (1, [.arr .u64 80 P.roots512])], hints := [(13, ⟨[6, 7, 63], [], [2], [], some (80, [44, 45, 46]), []⟩), (5, ⟨[0, 3, 4], [(5, 5, .ints .u8 [])], [2], [], some (40, [0, 1]), []⟩)], loops := [(5, L5), (13, L13)], inl := [] } : Ctx)
def E5 (K : AExit → ASt → Option R) : (((List Int) × Int × (List Int) × (List Int) × Int × (List Int) × Int)) → Option R := (fun x => K (.exit 0) (S5 x.1 x.2.1 x.2.2.1 x.2.2.2.1 x.2.2.2.2.1 x.2.2.2.2.2.1 x.2.2.2.2.2.2))
theorem round5 (K : AExit → ASt → Option R) (next : ASt → Option R) (x : (List Int) × Int × (List Int) × (List Int) × Int × (List Int) × Int) : roundA D (loopAt Tryd.f4 5) K next (S5 x.1 x.2.1 x.2.2.1 x.2.2.2.1 x.2.2.2.2.1 x.2.2.2.2.2.1 x.2.2.2.2.2.2) = (fun (x : (List Int) × Int × (List Int) × (List Int) × Int × (List Int) × Int) (next : ((List Int) × Int × (List Int) × (List Int) × Int × (List Int) × Int) → Option R) (ex : (((List Int) × Int × (List Int) × (List Int) × Int × (List Int) × Int)) → Option R) => P.L07_ShaFills_r5 x.1 x.2.1 x.2.2.1 x.2.2.2.1 x.2.2.2.2.1 x.2.2.2.2.2.1 x.2.2.2.2.2.2 (fun v0 v4 h40 h0 h1_0 h1_1 h1_3 => next (v0, v4, h40, h0, h1_0, h1_1, h1_3)) (fun v0 v4 h40 h0 h1_0 h1_1 h1_3 => ex ((v0, v4, h40, h0, h1_0, h1_1, h1_3)))) x (fun x => next (S5 x.1 x.2.1 x.2.2.1 x.2.2.2.1 x.2.2.2.2.1 x.2.2.2.2.2.1 x.2.2.2.2.2.2)) (E5 K) := by kernel_rfl
theorem lq5 (st : ASt) (K : AExit → ASt → Option R) : L5 st K = vMap (V5 st) (fun x => lp (fun (x : (List Int) × Int × (List Int) × (List Int) × Int × (List Int) × Int) (next : ((List Int) × Int × (List Int) × (List Int) × Int × (List Int) × Int) → Option R) (ex : (((List Int) × Int × (List Int) × (List Int) × Int × (List Int) × Int)) → Option R) => P.L07_ShaFills_r5 x.1 x.2.1 x.2.2.1 x.2.2.2.1 x.2.2.2.2.1 x.2.2.2.2.2.1 x.2.2.2.2.2.2 (fun v0 v4 h40 h0 h1_0 h1_1 h1_3 => next (v0, v4, h40, h0, h1_0, h1_1, h1_3)) (fun v0 v4 h40 h0 h1_0 h1_1 h1_3 => ex ((v0, v4, h40, h0, h1_0, h1_1, h1_3)))) x (E5 K)) := by
  unfold L5
  cases V5 st with
  | none => rfl
  | some x => simp only [P.L07_ShaFills_l5_eq]; rfl
theorem loop5 : LoopOk D (loopAt Tryd.f4 5) := loopOk_lp (X := (List Int) × Int × (List Int) × (List Int) × Int × (List Int) × Int) (Y := ((List Int) × Int × (List Int) × (List Int) × Int × (List Int) × Int)) (fun x => S5 x.1 x.2.1 x.2.2.1 x.2.2.2.1 x.2.2.2.2.1 x.2.2.2.2.2.1 x.2.2.2.2.2.2) V5_ok (stp := (fun (x : (List Int) × Int × (List Int) × (List Int) × Int × (List Int) × Int) (next : ((List Int) × Int × (List Int) × (List Int) × Int × (List Int) × Int) → Option R) (ex : (((List Int) × Int × (List Int) × (List Int) × Int × (List Int) × Int)) → Option R) => P.L07_ShaFills_r5 x.1 x.2.1 x.2.2.1 x.2.2.2.1 x.2.2.2.2.1 x.2.2.2.2.2.1 x.2.2.2.2.2.2 (fun v0 v4 h40 h0 h1_0 h1_1 h1_3 => next (v0, v4, h40, h0, h1_0, h1_1, h1_3)) (fun v0 v4 h40 h0 h1_0 h1_1 h1_3 => ex ((v0, v4, h40, h0, h1_0, h1_1, h1_3))))) (enc := E5) (L := L5) (by kernel_rfl) lq5 round5
def E13 (K : AExit → ASt → Option R) : ((Int × (List Int) × Int × (List Int) × Int × (List Int)) ⊕ ((Bool × (List Int) × Int × (List Int) × Int × (List Int)))) → Option R := (Sum.elim (fun x => K (.exit 2) (S13 x.1 x.2.1 x.2.2.1 x.2.2.2.1 x.2.2.2.2.1 x.2.2.2.2.2)) (fun x => K .ret ⟨[(2, .v (.bool x.1))], [(44, some ⟨.row 5 (.ints .u8 x.2.1), false⟩), (45, some ⟨.box 26 [.v (.int .i64 x.2.2.1), .arr .u64 8 x.2.2.2.1, .own 44, .v (.int .u64 x.2.2.2.2.1)], false⟩), (46, some ⟨.row 5 (.ints .u8 x.2.2.2.2.2), false⟩)], 80, 81⟩))
theorem round13 (K : AExit → ASt → Option R) (next : ASt → Option R) (x : Int × (List Int) × Int × (List Int) × Int × (List Int)) : roundA D (loopAt Tryd.f4 13) K next (S13 x.1 x.2.1 x.2.2.1 x.2.2.2.1 x.2.2.2.2.1 x.2.2.2.2.2) = (fun (x : Int × (List Int) × Int × (List Int) × Int × (List Int)) (next : (Int × (List Int) × Int × (List Int) × Int × (List Int)) → Option R) (ex : ((Int × (List Int) × Int × (List Int) × Int × (List Int)) ⊕ ((Bool × (List Int) × Int × (List Int) × Int × (List Int)))) → Option R) => P.L07_ShaFills_r13 x.1 x.2.1 x.2.2.1 x.2.2.2.1 x.2.2.2.2.1 x.2.2.2.2.2 (fun v63 h44 h45_0 h45_1 h45_3 h46 => next (v63, h44, h45_0, h45_1, h45_3, h46)) (fun v63 h44 h45_0 h45_1 h45_3 h46 => ex (.inl (v63, h44, h45_0, h45_1, h45_3, h46))) (fun v2 h44 h45_0 h45_1 h45_3 h46 => ex (.inr (v2, h44, h45_0, h45_1, h45_3, h46)))) x (fun x => next (S13 x.1 x.2.1 x.2.2.1 x.2.2.2.1 x.2.2.2.2.1 x.2.2.2.2.2)) (E13 K) := by kernel_rfl
theorem lq13 (st : ASt) (K : AExit → ASt → Option R) : L13 st K = vMap (V13 st) (fun x => lp (fun (x : Int × (List Int) × Int × (List Int) × Int × (List Int)) (next : (Int × (List Int) × Int × (List Int) × Int × (List Int)) → Option R) (ex : ((Int × (List Int) × Int × (List Int) × Int × (List Int)) ⊕ ((Bool × (List Int) × Int × (List Int) × Int × (List Int)))) → Option R) => P.L07_ShaFills_r13 x.1 x.2.1 x.2.2.1 x.2.2.2.1 x.2.2.2.2.1 x.2.2.2.2.2 (fun v63 h44 h45_0 h45_1 h45_3 h46 => next (v63, h44, h45_0, h45_1, h45_3, h46)) (fun v63 h44 h45_0 h45_1 h45_3 h46 => ex (.inl (v63, h44, h45_0, h45_1, h45_3, h46))) (fun v2 h44 h45_0 h45_1 h45_3 h46 => ex (.inr (v2, h44, h45_0, h45_1, h45_3, h46)))) x (E13 K)) := by
  unfold L13
  cases V13 st with
  | none => rfl
  | some x => simp only [P.L07_ShaFills_l13_eq]; rfl
theorem loop13 : LoopOk D (loopAt Tryd.f4 13) := loopOk_lp (X := Int × (List Int) × Int × (List Int) × Int × (List Int)) (Y := (Int × (List Int) × Int × (List Int) × Int × (List Int)) ⊕ ((Bool × (List Int) × Int × (List Int) × Int × (List Int)))) (fun x => S13 x.1 x.2.1 x.2.2.1 x.2.2.2.1 x.2.2.2.2.1 x.2.2.2.2.2) V13_ok (stp := (fun (x : Int × (List Int) × Int × (List Int) × Int × (List Int)) (next : (Int × (List Int) × Int × (List Int) × Int × (List Int)) → Option R) (ex : ((Int × (List Int) × Int × (List Int) × Int × (List Int)) ⊕ ((Bool × (List Int) × Int × (List Int) × Int × (List Int)))) → Option R) => P.L07_ShaFills_r13 x.1 x.2.1 x.2.2.1 x.2.2.2.1 x.2.2.2.2.1 x.2.2.2.2.2 (fun v63 h44 h45_0 h45_1 h45_3 h46 => next (v63, h44, h45_0, h45_1, h45_3, h46)) (fun v63 h44 h45_0 h45_1 h45_3 h46 => ex (.inl (v63, h44, h45_0, h45_1, h45_3, h46))) (fun v2 h44 h45_0 h45_1 h45_3 h46 => ex (.inr (v2, h44, h45_0, h45_1, h45_3, h46))))) (enc := E13) (L := L13) (by kernel_rfl) lq13 round13
theorem body (a0 : List Int) (K : AVal → Option R) : bodyA D Tryd.f4 [.any] [.sl (.ints .u8 a0)] K = P.L07_ShaFills a0 (fun r0 => K (.v (.bool r0))) := by
  rw [P.L07_ShaFills_eq]
  kernel_rfl
theorem loops : loopsOf (Tryd.f4.body.getD .skip) = [loopAt Tryd.f4 5, loopAt Tryd.f4 13] := by kernel_rfl
noncomputable def spec0 : Abs.Spec := fun args K => match args with
  | [.sl (.ints .u8 a0)] => P.L07_ShaFills a0 (fun r0 => K (.v (.bool r0)))
  | _ => none
noncomputable def spec : Abs.Spec := fun args K => spec0 (coerL [.sl (.ints .u8 [])] args) K
theorem ok0 : Proved Tryd.prog [(0, [.arr .u32 64 P.roots256]), (1, [.arr .u64 80 P.roots512])] 4 spec0 := by
  refine proved_of (D := D) (fn := Tryd.f4) (c := Tryd.f4.body.getD .skip) [.any] (by kernel_rfl) (globsPlain_of (by kernel_rfl)) (by kernel_rfl) (by kernel_rfl) (by kernel_rfl) ⟨L07_awake.ok, sha_Add.ok, sha_New.ok, R01_Be.ok, sha_Sum.ok, R01_Num.ok, trivial⟩ trivial ?_ ?_
  · rw [loops]; exact ⟨loop5, loop13, trivial⟩
  · intro args K r h
    unfold spec0 at h
    split at h
    · rw [body]; exact h
    · cases h
theorem ok : Proved Tryd.prog [(0, [.arr .u32 64 P.roots256]), (1, [.arr .u64 80 P.roots512])] 4 spec := proved_coer _ ok0
end L07_ShaFills
end
