/-
  SectorThere, part J: an interpreter of my own over abstract values, the pure functions, the walks and the plain law.
-/

import Derived.Test.YtknjpkgnideplaaDoorSectorThereG
import Derived.Test.YtknjpkgnideplaaDoorSectorThereF
import Derived.Test.YtknjpkgnideplaaDoorSectorThereI
import Derived.Test.YtknjpkgnideplaaDoorProg
import Derived.KernelRfl
import Derived.Test.YtknjpkgnideplaaDoorSectorThereH

section
open Go Go.Abs Go.Proofs
set_option maxRecDepth 100000
set_option linter.unusedVariables false
namespace slices_Clone_byte
noncomputable def D : Ctx := { P := Tryd.prog, G := [], globs := GLO.gB, hints := [], loops := [] }
noncomputable def c : Code := Tryd.f64.body.getD .skip
noncomputable def o0 : Oper := (regOps (sq1 c)).getD 0 anOper
noncomputable def o1 : Oper := (regOps (sq1 (sq1 (sq2 c)))).getD 0 anOper
noncomputable def o2 : Oper := (regOps (sq1 (sq1 (sq2 c)))).getD 1 anOper
noncomputable def X : Code := condX (sq2 (sq1 (sq2 c)))
noncomputable def rest : Code := sq2 (sq2 c)
noncomputable def ox : Oper := (regOps (sq1 X)).getD 0 anOper
theorem rest_eq (a0 : List Int) : codeA D rest ⟨[(0, .sl (.ints .u8 a0)), (2, .v (.slice none 0 0))], [], 0, Tryd.f64.ntmps⟩ (outK D [.fr 5 (.ints .u8 a0)] Tryd.f64) = br (decide ((0 + a0.length) * 1 ≤ 140737488355328)) (some (.fr 5 (.ints .u8 a0))) none := by kernel_rfl
noncomputable def spec0 : Abs.Spec := fun args K => match args with
  | [.sl (.ints .u8 a0)] => P.slices_Clone_byte a0 (fun a0 => K (.fr 5 (.ints .u8 a0)))
  | _ => none
theorem body_eq : Tryd.f64.body = some (.seq (.region 0 #[o0] false) (.seq (.seq (.region 1 #[o1, o2] false) (.cond (.tmp 4) X .skip)) rest)) := by kernel_rfl
theorem ok0 : Proved Tryd.prog GLO.gB 64 spec0 := by
  refine ⟨⟨Tryd.f64, by kernel_rfl, by kernel_rfl, by kernel_rfl⟩, fun args K r h => ?_⟩
  unfold spec0 at h
  split at h
  · rename_i a0
    unfold P.slices_Clone_byte at h
    obtain ⟨hp, hK⟩ := pre_some h
    refine ⟨_, hK, clone_ok (D := D) (fn := Tryd.f64) (t := 24) (e := 5) trivial (globsPlain_of (by kernel_rfl)) trivial (by kernel_rfl) (by kernel_rfl) body_eq ⟨by kernel_rfl, by kernel_rfl, by kernel_rfl⟩ ⟨by kernel_rfl, by kernel_rfl, by kernel_rfl⟩ ⟨by kernel_rfl, by kernel_rfl, by kernel_rfl⟩ (by kernel_rfl) (by decide +kernel) (by kernel_rfl) (by kernel_rfl) ⟨2, ox, by kernel_rfl, by kernel_rfl, by kernel_rfl, by kernel_rfl⟩ (by kernel_rfl) rfl rfl rfl ?_⟩
    rw [rest_eq, br_pos (by omega)]
  · cases h
noncomputable def spec : Abs.Spec := fun args K => spec0 (coerL [.sl (.ints .u8 [])] args) K
theorem ok : Proved Tryd.prog GLO.gB 64 spec := proved_coer _ ok0
end slices_Clone_byte
end

section
open Go Go.Abs Go.Proofs
set_option maxRecDepth 100000
set_option linter.unusedVariables false
namespace slices_Grow_byte
noncomputable def D : Ctx := ({ P := Tryd.prog, G := [], globs := GLO.gB, hints := [], loops := [], inl := [] } : Ctx)
theorem body (a1 : Int) (K : AVal → Option R) : bodyW D Tryd.f109 5 (.ints .u8 []) [.v (.slice none 0 0), .v (.int .i64 a1)] K = P.slices_Grow_byte a1 (fun r0 => K (.fr 5 (.ints .u8 r0))) := by
 rw [P.slices_Grow_byte_eq]
 kernel_rfl
theorem loops : loopsOf (Tryd.f109.body.getD .skip) = [] := by kernel_rfl
noncomputable def spec0 : Abs.Spec := fun args K => match args with
 | [.v (.slice none 0 0), .v (.int .i64 a1)] => P.slices_Grow_byte a1 (fun r0 => K (.fr 5 (.ints .u8 r0)))
 | _ => none
noncomputable def spec : Abs.Spec := spec0
theorem ok0 : Proved Tryd.prog GLO.gB 109 spec0 := by
 refine provedW_of (D := D) (fn := Tryd.f109) (c := Tryd.f109.body.getD .skip) 5 (.ints .u8 []) (by kernel_rfl) (globsPlain_of (by kernel_rfl)) (by kernel_rfl) (by kernel_rfl) (by kernel_rfl) trivial trivial ?_ ?_
 · rw [loops]; exact trivial
 · intro args K r h
   unfold spec0 at h
   split at h
   · rw [body]; exact h
   · cases h
theorem ok : Proved Tryd.prog GLO.gB 109 spec := ok0
end slices_Grow_byte
end

section
open Go Go.Abs Go.Proofs
set_option maxRecDepth 100000
set_option linter.unusedVariables false
namespace slices_Concat_byte
abbrev X3 := (List (List Int)) × Int × (List (List Int)) × Int × Int
def S3 : X3 → ASt := fun (v0, v3, v9, v10, v11) => ⟨[(0, .sl (.rows .u8 v0)), (3, .v (.int .i64 v3)), (9, .sl (.rows .u8 v9)), (10, .v (.int .i64 v10)), (11, .v (.int .i64 v11))], [], 0, 36⟩
def V3 : ASt → Option X3
 | ⟨[(0, .sl (.rows .u8 v0)), (3, .v (.int .i64 v3)), (9, .sl (.rows .u8 v9)), (10, .v (.int .i64 v10)), (11, .v (.int .i64 v11))], [], 0, 36⟩ => some (v0, v3, v9, v10, v11)
 | _ => none
theorem V3_ok (st) (x) (h : V3 st = some x) : st = S3 x := by
 unfold V3 at h
 split at h
 · cases h; rfl
 · cases h
abbrev Y3 := X3
noncomputable def T3 : X3 → (X3 → Option R) → (Y3 → Option R) → Option R := fun (v0, v3, v9, v10, v11) next ex => P.slices_Concat_byte_r3 v0 v3 v9 v10 v11 (fun v0 v3 v9 v10 v11 => next (v0, v3, v9, v10, v11)) (fun v0 v3 v9 v10 v11 => ex (v0, v3, v9, v10, v11))
abbrev X11 := (List (List Int)) × Int × Int × (List Int)
def S11 : X11 → ASt := fun (v25, v26, v27, h1) => ⟨[(6, .own 1), (25, .sl (.rows .u8 v25)), (26, .v (.int .i64 v26)), (27, .v (.int .i64 v27))], [(1, some ⟨.row 5 (.ints .u8 h1), false⟩), (0, none)], 2, 36⟩
def V11 : ASt → Option X11
 | ⟨[(6, .own 1), (25, .sl (.rows .u8 v25)), (26, .v (.int .i64 v26)), (27, .v (.int .i64 v27))], [(1, some ⟨.row 5 (.ints .u8 h1), false⟩), (0, none)], 2, 36⟩ => some (v25, v26, v27, h1)
 | _ => none
theorem V11_ok (st) (x) (h : V11 st = some x) : st = S11 x := by
 unfold V11 at h
 split at h
 · cases h; rfl
 · cases h
abbrev Y11 := X11
noncomputable def T11 : X11 → (X11 → Option R) → (Y11 → Option R) → Option R := fun (v25, v26, v27, h1) next ex => P.slices_Concat_byte_r11 v25 v26 v27 h1 (fun v25 v26 v27 h1 => next (v25, v26, v27, h1)) (fun v25 v26 v27 h1 => ex (v25, v26, v27, h1))
def E3 (K : AExit → ASt → Option R) : Y3 → Option R := (fun x => K (.exit 0) (S3 x))
noncomputable def L3 : LSpec := fun st K => vMap (V3 st) fun (v0, v3, v9, v10, v11) => P.slices_Concat_byte_l3 v0 v3 v9 v10 v11 (fun v0 v3 v9 v10 v11 => K (.exit 0) (S3 (v0, v3, v9, v10, v11)))
def E11 (K : AExit → ASt → Option R) : Y11 → Option R := (fun x => K (.exit 2) (S11 x))
noncomputable def L11 : LSpec := fun st K => vMap (V11 st) fun (v25, v26, v27, h1) => P.slices_Concat_byte_l11 v25 v26 v27 h1 (fun v25 v26 v27 h1 => K (.exit 2) (S11 (v25, v26, v27, h1)))
noncomputable def D : Ctx := ({ P := Tryd.prog, G := [(109, slices_Grow_byte.spec)], globs := GLO.gB, hints := [(11, ⟨[25, 26, 27], [(6, 5, .ints .u8 [])], [2], [], none, []⟩), (3, ⟨[0, 3, 9, 10, 11], [], [2], [], none, []⟩)], loops := [(3, L3), (11, L11)], inl := [] } : Ctx)
theorem round3 (K) (next) (x) : roundA D (loopAt Tryd.f59 3) K next (S3 x) = T3 x (fun x => next (S3 x)) (E3 K) := by kernel_rfl
theorem lq3 (st) (K) : L3 st K = vMap (V3 st) (fun x => lp T3 x (E3 K)) := by
 unfold L3
 cases V3 st with
 | none => rfl
 | some x => rw [P.slices_Concat_byte_l3_eq]; kernel_rfl
theorem loop3 : LoopOk D (loopAt Tryd.f59 3) := loopOk_lp S3 V3_ok (by kernel_rfl) lq3 round3
theorem round11 (K) (next) (x) : roundA D (loopAt Tryd.f59 11) K next (S11 x) = T11 x (fun x => next (S11 x)) (E11 K) := by kernel_rfl
theorem lq11 (st) (K) : L11 st K = vMap (V11 st) (fun x => lp T11 x (E11 K)) := by
 unfold L11
 cases V11 st with
 | none => rfl
 | some x => rw [P.slices_Concat_byte_l11_eq]; kernel_rfl
theorem loop11 : LoopOk D (loopAt Tryd.f59 11) := loopOk_lp S11 V11_ok (by kernel_rfl) lq11 round11
theorem body (a0 : List (List Int)) (K : AVal → Option R) : bodyA D Tryd.f59 [.fr 5 (.ints .u8 [])] [.sl (.rows .u8 a0)] K = P.slices_Concat_byte a0 (fun r0 => K (.fr 5 (.ints .u8 r0))) := by
 rw [P.slices_Concat_byte_eq]
 kernel_rfl
theorem loops : loopsOf (Tryd.f59.body.getD .skip) = [loopAt Tryd.f59 3, loopAt Tryd.f59 11] := by kernel_rfl
noncomputable def spec0 : Abs.Spec := fun args K => match args with
 | [.sl (.rows .u8 a0)] => P.slices_Concat_byte a0 (fun r0 => K (.fr 5 (.ints .u8 r0)))
 | _ => none
noncomputable def spec : Abs.Spec := fun args K => spec0 (coerL [.sl (.rows .u8 [])] args) K
theorem ok0 : Proved Tryd.prog GLO.gB 59 spec0 := by
 refine proved_of (D := D) (fn := Tryd.f59) (c := Tryd.f59.body.getD .skip) [.fr 5 (.ints .u8 [])] (by kernel_rfl) (globsPlain_of (by kernel_rfl)) (by kernel_rfl) (by kernel_rfl) (by kernel_rfl) ⟨slices_Grow_byte.ok, trivial⟩ trivial ?_ ?_
 · rw [loops]; exact ⟨loop3, loop11, trivial⟩
 · intro args K r h
   unfold spec0 at h
   split at h
   · rw [body]; exact h
   · cases h
theorem ok : Proved Tryd.prog GLO.gB 59 spec := proved_coer _ ok0
end slices_Concat_byte
end

section
open Go Go.Abs Go.Proofs
set_option maxRecDepth 100000
set_option linter.unusedVariables false
namespace sha_Add
noncomputable def D : Ctx := ({ P := Tryd.prog, G := [(59, slices_Concat_byte.spec), (60, sha_through_uint32.spec), (61, sha_small.spec), (62, sha_through_uint64.spec), (63, sha_great.spec), (64, slices_Clone_byte.spec)], globs := GLO.gB, hints := [], loops := [], inl := [] } : Ctx)
theorem body (a0_Kind : Int) (a0_Words : List Int) (a0_Tail : List Int) (a0_Size : Int) (a1 : List Int) (K : AVal → Option R) : bodyA D Tryd.f15 [.agg [.any, .any, .fr 5 (.ints .u8 []), .any]] [.agg [.v (.int .i64 a0_Kind), .arr .u64 8 a0_Words, .sl (.ints .u8 a0_Tail), .v (.int .u64 a0_Size)], .sl (.ints .u8 a1)] K = P.sha_Add a0_Kind a0_Words a0_Tail a0_Size a1 (fun r0_Kind r0_Words r0_Tail r0_Size => K (.agg [.v (.int .i64 r0_Kind), .arr .u64 8 r0_Words, .fr 5 (.ints .u8 r0_Tail), .v (.int .u64 r0_Size)])) := by
 rw [P.sha_Add_eq]
 kernel_rfl
theorem loops : loopsOf (Tryd.f15.body.getD .skip) = [] := by kernel_rfl
noncomputable def spec0 : Abs.Spec := fun args K => match args with
 | [.agg [.v (.int .i64 a0_Kind), .arr .u64 8 a0_Words, .sl (.ints .u8 a0_Tail), .v (.int .u64 a0_Size)], .sl (.ints .u8 a1)] => P.sha_Add a0_Kind a0_Words a0_Tail a0_Size a1 (fun r0_Kind r0_Words r0_Tail r0_Size => K (.agg [.v (.int .i64 r0_Kind), .arr .u64 8 r0_Words, .fr 5 (.ints .u8 r0_Tail), .v (.int .u64 r0_Size)]))
 | _ => none
noncomputable def spec : Abs.Spec := fun args K => spec0 (coerL [.agg [.any, .any, .sl (.ints .u8 []), .any], .sl (.ints .u8 [])] args) K
theorem ok0 : Proved Tryd.prog GLO.gB 15 spec0 := by
 refine proved_of (D := D) (fn := Tryd.f15) (c := Tryd.f15.body.getD .skip) [.agg [.any, .any, .fr 5 (.ints .u8 []), .any]] (by kernel_rfl) (globsPlain_of (by kernel_rfl)) (by kernel_rfl) (by kernel_rfl) (by kernel_rfl) ⟨slices_Concat_byte.ok, sha_through_uint32.ok, sha_small.ok, sha_through_uint64.ok, sha_great.ok, slices_Clone_byte.ok, trivial⟩ trivial ?_ ?_
 · rw [loops]; exact trivial
 · intro args K r h
   unfold spec0 at h
   split at h
   · rw [body]; exact h
   · cases h
theorem ok : Proved Tryd.prog GLO.gB 15 spec := proved_coer _ ok0
end sha_Add
end

section
open Go Go.Abs Go.Proofs
set_option maxRecDepth 100000
set_option linter.unusedVariables false
namespace bits_Le
abbrev X5 := Int × Int × Int × (List Int)
def S5 : X5 → ASt := fun (v0, v16, v17, h0) => ⟨[(0, .v (.int .u64 v0)), (5, .own 0), (16, .v (.int .i64 v16)), (17, .v (.int .i64 v17))], [(0, some ⟨.row 5 (.ints .u8 h0), false⟩)], 1, 30⟩
def V5 : ASt → Option X5
 | ⟨[(0, .v (.int .u64 v0)), (5, .own 0), (16, .v (.int .i64 v16)), (17, .v (.int .i64 v17))], [(0, some ⟨.row 5 (.ints .u8 h0), false⟩)], 1, 30⟩ => some (v0, v16, v17, h0)
 | _ => none
theorem V5_ok (st) (x) (h : V5 st = some x) : st = S5 x := by
 unfold V5 at h
 split at h
 · cases h; rfl
 · cases h
abbrev Y5 := X5
noncomputable def T5 : X5 → (X5 → Option R) → (Y5 → Option R) → Option R := fun (v0, v16, v17, h0) next ex => P.bits_Le_r5 v0 v16 v17 h0 (fun v0 v16 v17 h0 => next (v0, v16, v17, h0)) (fun v0 v16 v17 h0 => ex (v0, v16, v17, h0))
def E5 (K : AExit → ASt → Option R) : Y5 → Option R := (fun x => K (.exit 0) (S5 x))
noncomputable def L5 : LSpec := fun st K => vMap (V5 st) fun (v0, v16, v17, h0) => P.bits_Le_l5 v0 v16 v17 h0 (fun v0 v16 v17 h0 => K (.exit 0) (S5 (v0, v16, v17, h0)))
noncomputable def D : Ctx := ({ P := Tryd.prog, G := [], globs := [(0, [.arr .u32 64 P.roots256]), (1, [.arr .u64 80 P.roots512])], hints := [(5, ⟨[0, 5, 16, 17], [], [4], [], none, []⟩)], loops := [(5, L5)], inl := [] } : Ctx)
theorem round5 (K) (next) (x) : roundA D (loopAt Tryd.f118 5) K next (S5 x) = T5 x (fun x => next (S5 x)) (E5 K) := by kernel_rfl
theorem lq5 (st) (K) : L5 st K = vMap (V5 st) (fun x => lp T5 x (E5 K)) := by
 unfold L5
 cases V5 st with
 | none => rfl
 | some x => rw [P.bits_Le_l5_eq]; kernel_rfl
theorem loop5 : LoopOk D (loopAt Tryd.f118 5) := loopOk_lp S5 V5_ok (by kernel_rfl) lq5 round5
theorem body (a0 : Int) (a1 : Int) (K : AVal → Option R) : bodyA D Tryd.f118 [.fr 5 (.ints .u8 [])] [.v (.int .u64 a0), .v (.int .i64 a1)] K = P.bits_Le a0 a1 (fun r0 => K (.fr 5 (.ints .u8 r0))) := by
 rw [P.bits_Le_eq]
 kernel_rfl
theorem loops : loopsOf (Tryd.f118.body.getD .skip) = [loopAt Tryd.f118 5] := by kernel_rfl
noncomputable def spec0 : Abs.Spec := fun args K => match args with
 | [.v (.int .u64 a0), .v (.int .i64 a1)] => P.bits_Le a0 a1 (fun r0 => K (.fr 5 (.ints .u8 r0)))
 | _ => none
noncomputable def spec : Abs.Spec := spec0
theorem ok0 : Proved Tryd.prog [(0, [.arr .u32 64 P.roots256]), (1, [.arr .u64 80 P.roots512])] 118 spec0 := by
 refine proved_of (D := D) (fn := Tryd.f118) (c := Tryd.f118.body.getD .skip) [.fr 5 (.ints .u8 [])] (by kernel_rfl) (globsPlain_of (by kernel_rfl)) (by kernel_rfl) (by kernel_rfl) (by kernel_rfl) trivial trivial ?_ ?_
 · rw [loops]; exact ⟨loop5, trivial⟩
 · intro args K r h
   unfold spec0 at h
   split at h
   · rw [body]; exact h
   · cases h
theorem ok : Proved Tryd.prog [(0, [.arr .u32 64 P.roots256]), (1, [.arr .u64 80 P.roots512])] 118 spec := ok0
end bits_Le
end

section
open Go Go.Abs Go.Proofs
set_option maxRecDepth 100000
set_option linter.unusedVariables false
namespace bits_Be
abbrev X1_1 := Int × Int × (List Int)
def S1_1 : X1_1 → ASt := fun (v2, v3, h0) => ⟨[(0, .own 0), (2, .v (.int .i64 v2)), (3, .v (.int .i64 v3))], [(0, some ⟨.row 5 (.ints .u8 h0), false⟩)], 1, 28⟩
def V1_1 : ASt → Option X1_1
 | ⟨[(0, .own 0), (2, .v (.int .i64 v2)), (3, .v (.int .i64 v3))], [(0, some ⟨.row 5 (.ints .u8 h0), false⟩)], 1, 28⟩ => some (v2, v3, h0)
 | _ => none
theorem V1_1_ok (st) (x) (h : V1_1 st = some x) : st = S1_1 x := by
 unfold V1_1 at h
 split at h
 · cases h; rfl
 · cases h
abbrev Y1_1 := X1_1
noncomputable def T1_1 : X1_1 → (X1_1 → Option R) → (Y1_1 → Option R) → Option R := fun (v2, v3, h0) next ex => P.bits_Be_r1_1 v2 v3 h0 (fun v2 v3 h0 => next (v2, v3, h0)) (fun v2 v3 h0 => ex (v2, v3, h0))
def E1_1 (K : AExit → ASt → Option R) : Y1_1 → Option R := (fun x => K (.exit 0) (S1_1 x))
noncomputable def L1_1 : LSpec := fun st K => vMap (V1_1 st) fun (v2, v3, h0) => P.bits_Be_l1_1 v2 v3 h0 (fun v2 v3 h0 => K (.exit 0) (S1_1 (v2, v3, h0)))
noncomputable def D1 : Ctx := ({ P := Tryd.prog, G := [(118, bits_Le.spec)], globs := [(0, [.arr .u32 64 P.roots256]), (1, [.arr .u64 80 P.roots512])], hints := [(1, ⟨[0, 2, 3], [], [], [], none, []⟩)], loops := [(1, L1_1)], inl := [] } : Ctx)
noncomputable def D : Ctx := ({ P := Tryd.prog, G := [(118, bits_Le.spec)], globs := [(0, [.arr .u32 64 P.roots256]), (1, [.arr .u64 80 P.roots512])], hints := [], loops := [], inl := [(119, bodyIn D1 Tryd.f119)] } : Ctx)
theorem round1_1 (K) (next) (x) : roundA D1 (loopAt Tryd.f119 1) K next (S1_1 x) = T1_1 x (fun x => next (S1_1 x)) (E1_1 K) := by kernel_rfl
theorem lq1_1 (st) (K) : L1_1 st K = vMap (V1_1 st) (fun x => lp T1_1 x (E1_1 K)) := by
 unfold L1_1
 cases V1_1 st with
 | none => rfl
 | some x => rw [P.bits_Be_l1_1_eq]; kernel_rfl
theorem loop1_1 : LoopOk D1 (loopAt Tryd.f119 1) := loopOk_lp S1_1 V1_1_ok (by kernel_rfl) lq1_1 round1_1
theorem body (a0 : Int) (a1 : Int) (K : AVal → Option R) : bodyA D Tryd.f68 [.fr 5 (.ints .u8 [])] [.v (.int .u64 a0), .v (.int .i64 a1)] K = P.bits_Be a0 a1 (fun r0 => K (.fr 5 (.ints .u8 r0))) := by
 rw [P.bits_Be_eq]
 kernel_rfl
theorem loops : loopsOf (Tryd.f68.body.getD .skip) = [] := by kernel_rfl
theorem loops1 : loopsOf (Tryd.f119.body.getD .skip) = [loopAt Tryd.f119 1] := by kernel_rfl
noncomputable def spec0 : Abs.Spec := fun args K => match args with
 | [.v (.int .u64 a0), .v (.int .i64 a1)] => P.bits_Be a0 a1 (fun r0 => K (.fr 5 (.ints .u8 r0)))
 | _ => none
noncomputable def spec : Abs.Spec := spec0
theorem ok0 : Proved Tryd.prog [(0, [.arr .u32 64 P.roots256]), (1, [.arr .u64 80 P.roots512])] 68 spec0 := by
 refine proved_of (D := D) (fn := Tryd.f68) (c := Tryd.f68.body.getD .skip) [.fr 5 (.ints .u8 [])] (by kernel_rfl) (globsPlain_of (by kernel_rfl)) (by kernel_rfl) (by kernel_rfl) (by kernel_rfl) ⟨bits_Le.ok, trivial⟩ ⟨run_of (D := D1) (D' := D) (fn := Tryd.f119) (c := Tryd.f119.body.getD .skip) rfl rfl (by kernel_rfl) (globsPlain_of (by kernel_rfl)) (by kernel_rfl) (by kernel_rfl) (by kernel_rfl) ⟨bits_Le.ok, trivial⟩ trivial (by rw [loops1]; exact ⟨loop1_1, trivial⟩) (fun _ _ _ _ _ h => h), trivial⟩ ?_ ?_
 · rw [loops]; exact trivial
 · intro args K r h
   unfold spec0 at h
   split at h
   · rw [body]; exact h
   · cases h
theorem ok : Proved Tryd.prog [(0, [.arr .u32 64 P.roots256]), (1, [.arr .u64 80 P.roots512])] 68 spec := ok0
end bits_Be
end

section
open Go Go.Abs Go.Proofs
set_option maxRecDepth 100000
set_option linter.unusedVariables false
namespace sha_blockSize
noncomputable def D : Ctx := ({ P := Tryd.prog, G := [], globs := GLO.gB, hints := [], loops := [], inl := [] } : Ctx)
theorem body (a0 : Int) (K : AVal → Option R) : bodyA D Tryd.f67 [.any] [.v (.int .i64 a0)] K = P.sha_blockSize a0 (fun r0 => K (.v (.int .i64 r0))) := by
 rw [P.sha_blockSize_eq]
 kernel_rfl
theorem loops : loopsOf (Tryd.f67.body.getD .skip) = [] := by kernel_rfl
noncomputable def spec0 : Abs.Spec := fun args K => match args with
 | [.v (.int .i64 a0)] => P.sha_blockSize a0 (fun r0 => K (.v (.int .i64 r0)))
 | _ => none
noncomputable def spec : Abs.Spec := spec0
theorem ok0 : Proved Tryd.prog GLO.gB 67 spec0 := by
 refine proved_of (D := D) (fn := Tryd.f67) (c := Tryd.f67.body.getD .skip) [.any] (by kernel_rfl) (globsPlain_of (by kernel_rfl)) (by kernel_rfl) (by kernel_rfl) (by kernel_rfl) trivial trivial ?_ ?_
 · rw [loops]; exact trivial
 · intro args K r h
   unfold spec0 at h
   split at h
   · rw [body]; exact h
   · cases h
theorem ok : Proved Tryd.prog GLO.gB 67 spec := ok0
end sha_blockSize
end

section
open Go Go.Abs Go.Proofs
set_option maxRecDepth 100000
set_option linter.unusedVariables false
namespace sha_End
abbrev X10 := Int × (List Int) × Int × (List Int) × Int × (List Int) × Int × (List Int)
def S10 : X10 → ASt := fun (v3, v45, v46, h40, h0_0, h0_1, h0_3, h5) => ⟨[(7, .own 40), (1, .ptr 0 0), (3, .v (.int .i64 v3)), (45, .arr .u64 8 v45), (46, .v (.int .i64 v46))], [(40, some ⟨.row 5 (.ints .u8 h40), false⟩), (0, some ⟨.box 26 [.v (.int .i64 h0_0), .arr .u64 8 h0_1, .own 5, .v (.int .u64 h0_3)], false⟩), (5, some ⟨.row 5 (.ints .u8 h5), false⟩)], 41, 62⟩
def V10 : ASt → Option X10
 | ⟨[(7, .own 40), (1, .ptr 0 0), (3, .v (.int .i64 v3)), (45, .arr .u64 8 v45), (46, .v (.int .i64 v46))], [(40, some ⟨.row 5 (.ints .u8 h40), false⟩), (0, some ⟨.box 26 [.v (.int .i64 h0_0), .arr .u64 8 h0_1, .own 5, .v (.int .u64 h0_3)], false⟩), (5, some ⟨.row 5 (.ints .u8 h5), false⟩)], 41, 62⟩ => some (v3, v45, v46, h40, h0_0, h0_1, h0_3, h5)
 | _ => none
theorem V10_ok (st) (x) (h : V10 st = some x) : st = S10 x := by
 unfold V10 at h
 split at h
 · cases h; rfl
 · cases h
abbrev Y10 := X10
noncomputable def T10 : X10 → (X10 → Option R) → (Y10 → Option R) → Option R := fun (v3, v45, v46, h40, h0_0, h0_1, h0_3, h5) next ex => P.sha_End_r10 v3 v45 v46 h40 h0_0 h0_1 h0_3 h5 (fun v3 v45 v46 h40 h0_0 h0_1 h0_3 h5 => next (v3, v45, v46, h40, h0_0, h0_1, h0_3, h5)) (fun v3 v45 v46 h40 h0_0 h0_1 h0_3 h5 => ex (v3, v45, v46, h40, h0_0, h0_1, h0_3, h5))
def E10 (K : AExit → ASt → Option R) : Y10 → Option R := (fun x => K (.exit 0) (S10 x))
noncomputable def L10 : LSpec := fun st K => vMap (V10 st) fun (v3, v45, v46, h40, h0_0, h0_1, h0_3, h5) => P.sha_End_l10 v3 v45 v46 h40 h0_0 h0_1 h0_3 h5 (fun v3 v45 v46 h40 h0_0 h0_1 h0_3 h5 => K (.exit 0) (S10 (v3, v45, v46, h40, h0_0, h0_1, h0_3, h5)))
noncomputable def D : Ctx := ({ P := Tryd.prog, G := [(15, sha_Add.spec), (67, sha_blockSize.spec), (68, bits_Be.spec)], globs := GLO.gB, hints := [(10, ⟨[1, 3, 45, 46], [(7, 5, .ints .u8 [])], [2], [], some (40, [0, 5]), []⟩)], loops := [(10, L10)], inl := [] } : Ctx)
theorem round10 (K) (next) (x) : roundA D (loopAt Tryd.f19 10) K next (S10 x) = T10 x (fun x => next (S10 x)) (E10 K) := by kernel_rfl
theorem lq10 (st) (K) : L10 st K = vMap (V10 st) (fun x => lp T10 x (E10 K)) := by
 unfold L10
 cases V10 st with
 | none => rfl
 | some x => rw [P.sha_End_l10_eq]; kernel_rfl
theorem loop10 : LoopOk D (loopAt Tryd.f19 10) := loopOk_lp S10 V10_ok (by kernel_rfl) lq10 round10
theorem body (a0_Kind : Int) (a0_Words : List Int) (a0_Tail : List Int) (a0_Size : Int) (K : AVal → Option R) : bodyW D Tryd.f19 5 (.ints .u8 []) [.agg [.v (.int .i64 a0_Kind), .arr .u64 8 a0_Words, .sl (.ints .u8 a0_Tail), .v (.int .u64 a0_Size)]] K = P.sha_End a0_Kind a0_Words a0_Tail a0_Size (fun r0 => K (.fr 5 (.ints .u8 r0))) := by
 rw [P.sha_End_eq]
 kernel_rfl
theorem loops : loopsOf (Tryd.f19.body.getD .skip) = [loopAt Tryd.f19 10] := by kernel_rfl
noncomputable def spec0 : Abs.Spec := fun args K => match args with
 | [.agg [.v (.int .i64 a0_Kind), .arr .u64 8 a0_Words, .sl (.ints .u8 a0_Tail), .v (.int .u64 a0_Size)]] => P.sha_End a0_Kind a0_Words a0_Tail a0_Size (fun r0 => K (.fr 5 (.ints .u8 r0)))
 | _ => none
noncomputable def spec : Abs.Spec := fun args K => spec0 (coerL [.agg [.any, .any, .sl (.ints .u8 []), .any]] args) K
theorem ok0 : Proved Tryd.prog GLO.gB 19 spec0 := by
 refine provedW_of (D := D) (fn := Tryd.f19) (c := Tryd.f19.body.getD .skip) 5 (.ints .u8 []) (by kernel_rfl) (globsPlain_of (by kernel_rfl)) (by kernel_rfl) (by kernel_rfl) (by kernel_rfl) ⟨sha_Add.ok, sha_blockSize.ok, bits_Be.ok, trivial⟩ trivial ?_ ?_
 · rw [loops]; exact ⟨loop10, trivial⟩
 · intro args K r h
   unfold spec0 at h
   split at h
   · rw [body]; exact h
   · cases h
theorem ok : Proved Tryd.prog GLO.gB 19 spec := proved_coer _ ok0
end sha_End
end

section
open Go Go.Abs Go.Proofs
set_option maxRecDepth 100000
set_option linter.unusedVariables false
namespace sha_begin
noncomputable def D : Ctx := ({ P := Tryd.prog, G := [], globs := GLO.gB, hints := [], loops := [], inl := [] } : Ctx)
theorem body (a0 : Int) (K : AVal → Option R) : bodyA D Tryd.f69 [.any, .any] [.v (.int .i64 a0)] K = P.sha_begin a0 (fun r0 r1 => K (.tuple [.arr .u64 8 r0, .v (.bool r1)])) := by
 rw [P.sha_begin_eq]
 kernel_rfl
theorem loops : loopsOf (Tryd.f69.body.getD .skip) = [] := by kernel_rfl
noncomputable def spec0 : Abs.Spec := fun args K => match args with
 | [.v (.int .i64 a0)] => P.sha_begin a0 (fun r0 r1 => K (.tuple [.arr .u64 8 r0, .v (.bool r1)]))
 | _ => none
noncomputable def spec : Abs.Spec := spec0
theorem ok0 : Proved Tryd.prog GLO.gB 69 spec0 := by
 refine proved_of (D := D) (fn := Tryd.f69) (c := Tryd.f69.body.getD .skip) [.any, .any] (by kernel_rfl) (globsPlain_of (by kernel_rfl)) (by kernel_rfl) (by kernel_rfl) (by kernel_rfl) trivial trivial ?_ ?_
 · rw [loops]; exact trivial
 · intro args K r h
   unfold spec0 at h
   split at h
   · rw [body]; exact h
   · cases h
theorem ok : Proved Tryd.prog GLO.gB 69 spec := ok0
end sha_begin
end

section
open Go Go.Abs Go.Proofs
set_option maxRecDepth 100000
set_option linter.unusedVariables false
namespace sha_New
noncomputable def D : Ctx := ({ P := Tryd.prog, G := [(69, sha_begin.spec)], globs := GLO.gB, hints := [], loops := [], inl := [] } : Ctx)
theorem body (a0 : Int) (K : AVal → Option R) : bodyA D Tryd.f21 [.agg [.any, .any, .fr 5 (.ints .u8 []), .any], .any] [.v (.int .i64 a0)] K = P.sha_New a0 (fun r0_Kind r0_Words r0_Tail r0_Size r1 => K (.tuple [.agg [.v (.int .i64 r0_Kind), .arr .u64 8 r0_Words, .fr 5 (.ints .u8 r0_Tail), .v (.int .u64 r0_Size)], .v (.int .i64 r1)])) := by
 rw [P.sha_New_eq]
 kernel_rfl
theorem loops : loopsOf (Tryd.f21.body.getD .skip) = [] := by kernel_rfl
noncomputable def spec0 : Abs.Spec := fun args K => match args with
 | [.v (.int .i64 a0)] => P.sha_New a0 (fun r0_Kind r0_Words r0_Tail r0_Size r1 => K (.tuple [.agg [.v (.int .i64 r0_Kind), .arr .u64 8 r0_Words, .fr 5 (.ints .u8 r0_Tail), .v (.int .u64 r0_Size)], .v (.int .i64 r1)]))
 | _ => none
noncomputable def spec : Abs.Spec := spec0
theorem ok0 : Proved Tryd.prog GLO.gB 21 spec0 := by
 refine proved_of (D := D) (fn := Tryd.f21) (c := Tryd.f21.body.getD .skip) [.agg [.any, .any, .fr 5 (.ints .u8 []), .any], .any] (by kernel_rfl) (globsPlain_of (by kernel_rfl)) (by kernel_rfl) (by kernel_rfl) (by kernel_rfl) ⟨sha_begin.ok, trivial⟩ trivial ?_ ?_
 · rw [loops]; exact trivial
 · intro args K r h
   unfold spec0 at h
   split at h
   · rw [body]; exact h
   · cases h
theorem ok : Proved Tryd.prog GLO.gB 21 spec := ok0
end sha_New
end

section
open Go Go.Abs Go.Proofs
set_option maxRecDepth 100000
set_option linter.unusedVariables false
namespace sha_Sum
noncomputable def D : Ctx := ({ P := Tryd.prog, G := [(15, sha_Add.spec), (19, sha_End.spec), (21, sha_New.spec)], globs := GLO.gB, hints := [], loops := [], inl := [] } : Ctx)
theorem body (a0 : Int) (a1 : List Int) (K : AVal → Option R) : bodyA D Tryd.f23 [.fr 5 (.ints .u8 []), .any] [.v (.int .i64 a0), .sl (.ints .u8 a1)] K = P.sha_Sum a0 a1 (fun r0 r1 => K (.tuple [.fr 5 (.ints .u8 r0), .v (.int .i64 r1)])) := by
 rw [P.sha_Sum_eq]
 kernel_rfl
theorem loops : loopsOf (Tryd.f23.body.getD .skip) = [] := by kernel_rfl
noncomputable def spec0 : Abs.Spec := fun args K => match args with
 | [.v (.int .i64 a0), .sl (.ints .u8 a1)] => P.sha_Sum a0 a1 (fun r0 r1 => K (.tuple [.fr 5 (.ints .u8 r0), .v (.int .i64 r1)]))
 | _ => none
noncomputable def spec : Abs.Spec := fun args K => spec0 (coerL [.any, .sl (.ints .u8 [])] args) K
theorem ok0 : Proved Tryd.prog GLO.gB 23 spec0 := by
 refine proved_of (D := D) (fn := Tryd.f23) (c := Tryd.f23.body.getD .skip) [.fr 5 (.ints .u8 []), .any] (by kernel_rfl) (globsPlain_of (by kernel_rfl)) (by kernel_rfl) (by kernel_rfl) (by kernel_rfl) ⟨sha_Add.ok, sha_End.ok, sha_New.ok, trivial⟩ trivial ?_ ?_
 · rw [loops]; exact trivial
 · intro args K r h
   unfold spec0 at h
   split at h
   · rw [body]; exact h
   · cases h
theorem ok : Proved Tryd.prog GLO.gB 23 spec := proved_coer _ ok0
end sha_Sum
end

section
open Go Go.Abs Go.Proofs
set_option maxRecDepth 100000
set_option linter.unusedVariables false
namespace sector_Read
noncomputable def D : Ctx := ({ P := Tryd.prog, G := [(23, sha_Sum.spec), (74, bits_Same.spec), (75, bits_Num.spec)], globs := GLO.gB, hints := [], loops := [], inl := [] } : Ctx)
theorem body (a0 : List Int) (K : AVal → Option R) : bodyA D Tryd.f31 [.any, .any] [.sl (.ints .u8 a0)] K = P.sector_Read a0 (fun r0_Epoch r0_Bound r1 => K (.tuple [.agg [.v (.int .u64 r0_Epoch), .v (.int .u64 r0_Bound)], .v (.bool r1)])) := by
 rw [P.sector_Read_eq]
 kernel_rfl
theorem loops : loopsOf (Tryd.f31.body.getD .skip) = [] := by kernel_rfl
noncomputable def spec0 : Abs.Spec := fun args K => match args with
 | [.sl (.ints .u8 a0)] => P.sector_Read a0 (fun r0_Epoch r0_Bound r1 => K (.tuple [.agg [.v (.int .u64 r0_Epoch), .v (.int .u64 r0_Bound)], .v (.bool r1)]))
 | _ => none
noncomputable def spec : Abs.Spec := fun args K => spec0 (coerL [.sl (.ints .u8 [])] args) K
theorem ok0 : Proved Tryd.prog GLO.gB 31 spec0 := by
 refine proved_of (D := D) (fn := Tryd.f31) (c := Tryd.f31.body.getD .skip) [.any, .any] (by kernel_rfl) (globsPlain_of (by kernel_rfl)) (by kernel_rfl) (by kernel_rfl) (by kernel_rfl) ⟨sha_Sum.ok, bits_Same.ok, bits_Num.ok, trivial⟩ trivial ?_ ?_
 · rw [loops]; exact trivial
 · intro args K r h
   unfold spec0 at h
   split at h
   · rw [body]; exact h
   · cases h
theorem ok : Proved Tryd.prog GLO.gB 31 spec := proved_coer _ ok0
end sector_Read
end

section
open Go Go.Abs Go.Proofs
set_option maxRecDepth 100000
set_option linter.unusedVariables false
namespace sector_Best
abbrev X2_1 := (List Int) × (List Int) × Int × Int × Int × Int × Int × Int × Int
def S2_1 : X2_1 → ASt := fun (v7_0, v7_1, v8, h1_0, h1_1, h2_0, h2_1, h3_0, h4_0) => ⟨[(0, .yld 6 [2, 5, 6, 7] [.ptr 1 0, .ptr 2 0, .ptr 3 0, .ptr 4 0]), (7, .agg [.sl (.ints .u8 v7_0), .sl (.ints .u8 v7_1)]), (8, .v (.int .i64 v8))], [(1, some ⟨.box 48 [.v (.int .u64 h1_0), .v (.int .u64 h1_1)], false⟩), (2, some ⟨.box 48 [.v (.int .u64 h2_0), .v (.int .u64 h2_1)], false⟩), (3, some ⟨.box 3 [.v (.int .i64 h3_0)], false⟩), (4, some ⟨.box 34 [.v (.int .i64 h4_0)], false⟩)], 840, 26⟩
def V2_1 : ASt → Option X2_1
 | ⟨[(0, .yld 6 [2, 5, 6, 7] [.ptr 1 0, .ptr 2 0, .ptr 3 0, .ptr 4 0]), (7, .agg [.sl (.ints .u8 v7_0), .sl (.ints .u8 v7_1)]), (8, .v (.int .i64 v8))], [(1, some ⟨.box 48 [.v (.int .u64 h1_0), .v (.int .u64 h1_1)], false⟩), (2, some ⟨.box 48 [.v (.int .u64 h2_0), .v (.int .u64 h2_1)], false⟩), (3, some ⟨.box 3 [.v (.int .i64 h3_0)], false⟩), (4, some ⟨.box 34 [.v (.int .i64 h4_0)], false⟩)], 840, 26⟩ => some (v7_0, v7_1, v8, h1_0, h1_1, h2_0, h2_1, h3_0, h4_0)
 | _ => none
theorem V2_1_ok (st) (x) (h : V2_1 st = some x) : st = S2_1 x := by
 unfold V2_1 at h
 split at h
 · cases h; rfl
 · cases h
abbrev Y2_1 := X2_1
noncomputable def T2_1 : X2_1 → (X2_1 → Option R) → (Y2_1 → Option R) → Option R := fun (v7_0, v7_1, v8, h1_0, h1_1, h2_0, h2_1, h3_0, h4_0) next ex => P.sector_Best_r2_1 v7_0 v7_1 v8 h1_0 h1_1 h2_0 h2_1 h3_0 h4_0 (fun v7_0 v7_1 v8 h1_0 h1_1 h2_0 h2_1 h3_0 h4_0 => next (v7_0, v7_1, v8, h1_0, h1_1, h2_0, h2_1, h3_0, h4_0)) (fun v7_0 v7_1 v8 h1_0 h1_1 h2_0 h2_1 h3_0 h4_0 => ex (v7_0, v7_1, v8, h1_0, h1_1, h2_0, h2_1, h3_0, h4_0))
def E2_1 (K : AExit → ASt → Option R) : Y2_1 → Option R := (fun x => K (.exit 0) (S2_1 x))
noncomputable def L2_1 : LSpec := fun st K => vMap (V2_1 st) fun (v7_0, v7_1, v8, h1_0, h1_1, h2_0, h2_1, h3_0, h4_0) => P.sector_Best_l2_1 v7_0 v7_1 v8 h1_0 h1_1 h2_0 h2_1 h3_0 h4_0 (fun v7_0 v7_1 v8 h1_0 h1_1 h2_0 h2_1 h3_0 h4_0 => K (.exit 0) (S2_1 (v7_0, v7_1, v8, h1_0, h1_1, h2_0, h2_1, h3_0, h4_0)))
noncomputable def D3 : Ctx := ({ P := Tryd.prog, G := [(31, sector_Read.spec)], globs := GLO.gB, hints := [], loops := [], inl := [], y := some (ycOf (rngAt Tryd.f33 5) 29 false) } : Ctx)
noncomputable def D2 : Ctx := ({ P := Tryd.prog, G := [(31, sector_Read.spec)], globs := GLO.gB, hints := [(1, ⟨[0, 7, 8], [], [], [], some (840, [1, 2, 3, 4]), [1, 2, 3, 4]⟩)], loops := [(1, L2_1)], inl := [], y := some (ycOf (rngAt Tryd.f33 5) 29 true), ys := some (roundY D3 (ycOf (rngAt Tryd.f33 5) 29 true)) } : Ctx)
noncomputable def D1 : Ctx := ({ P := Tryd.prog, G := [(31, sector_Read.spec)], globs := GLO.gB, hints := [], loops := [], inl := [] } : Ctx)
noncomputable def D : Ctx := ({ P := Tryd.prog, G := [(31, sector_Read.spec)], globs := GLO.gB, hints := [], loops := [], inl := [(77, bodyIn D1 Tryd.f77)], top := true, rng := [(5, ⟨121, 29, [2, 5, 6, 7], bodyIn D2 Tryd.f121⟩)] } : Ctx)
theorem round2_1 (K) (next) (x) : roundA D2 (loopAt Tryd.f121 1) K next (S2_1 x) = T2_1 x (fun x => next (S2_1 x)) (E2_1 K) := by kernel_rfl
theorem lq2_1 (st) (K) : L2_1 st K = vMap (V2_1 st) (fun x => lp T2_1 x (E2_1 K)) := by
 unfold L2_1
 cases V2_1 st with
 | none => rfl
 | some x => rw [P.sector_Best_l2_1_eq]; kernel_rfl
theorem loop2_1 : LoopOk D2 (loopAt Tryd.f121 1) := loopOk_lp S2_1 V2_1_ok (by kernel_rfl) lq2_1 round2_1
theorem body (a0_0 : List Int) (a0_1 : List Int) (K : AVal → Option R) : bodyA D Tryd.f33 [.any, .any, .any] [.agg [.sl (.ints .u8 a0_0), .sl (.ints .u8 a0_1)]] K = P.sector_Best a0_0 a0_1 (fun r0_Epoch r0_Bound r1 r2 => K (.tuple [.agg [.v (.int .u64 r0_Epoch), .v (.int .u64 r0_Bound)], .v (.int .i64 r1), .v (.int .i64 r2)])) := by
 rw [P.sector_Best_eq]
 kernel_rfl
theorem loops : loopsOf (Tryd.f33.body.getD .skip) = [] := by kernel_rfl
theorem loops1 : loopsOf (Tryd.f77.body.getD .skip) = [] := by kernel_rfl
theorem loops2 : loopsOf (Tryd.f121.body.getD .skip) = [loopAt Tryd.f121 1] := by kernel_rfl
theorem loops3 : loopsOf (rbOf (rngAt Tryd.f33 5)) = [] := by kernel_rfl
theorem ranges : rangesOf (Tryd.f33.body.getD .skip) = [rngAt Tryd.f33 5] := by kernel_rfl
theorem round_y3 : RoundOk D2 (roundY D3 (ycOf (rngAt Tryd.f33 5) 29 true)) := roundY_ok (Y := ycOf (rngAt Tryd.f33 5) 29 true) (gok_of (D := D3) ⟨sector_Read.ok, trivial⟩) (globsPlain_of (by kernel_rfl)) (inl_of (D := D3) trivial (noYield rfl)) (by kernel_rfl) rfl rfl (by kernel_rfl) (by kernel_rfl) rfl rfl rfl (allLoops _ (by rw [show loopsOf (ycOf (rngAt Tryd.f33 5) 29 true).assign = [] from by kernel_rfl]; exact trivial)) (allLoops _ (by rw [show loopsOf (ycOf (rngAt Tryd.f33 5) 29 true).body = loopsOf (rbOf (rngAt Tryd.f33 5)) from by kernel_rfl, loops3]; exact trivial))
noncomputable def spec0 : Abs.Spec := fun args K => match args with
 | [.agg [.sl (.ints .u8 a0_0), .sl (.ints .u8 a0_1)]] => P.sector_Best a0_0 a0_1 (fun r0_Epoch r0_Bound r1 r2 => K (.tuple [.agg [.v (.int .u64 r0_Epoch), .v (.int .u64 r0_Bound)], .v (.int .i64 r1), .v (.int .i64 r2)]))
 | _ => none
noncomputable def spec : Abs.Spec := fun args K => spec0 (coerL [.agg [.sl (.ints .u8 []), .sl (.ints .u8 [])]] args) K
theorem ok0 : Proved Tryd.prog GLO.gB 33 spec0 := by
 refine proved_of (D := D) (fn := Tryd.f33) (c := Tryd.f33.body.getD .skip) [.any, .any, .any] (by kernel_rfl) (globsPlain_of (by kernel_rfl)) (by kernel_rfl) (by kernel_rfl) (by kernel_rfl) ⟨sector_Read.ok, trivial⟩ ⟨run_of (D := D1) (D' := D) (fn := Tryd.f77) (c := Tryd.f77.body.getD .skip) rfl rfl (by kernel_rfl) (globsPlain_of (by kernel_rfl)) (by kernel_rfl) (by kernel_rfl) (by kernel_rfl) ⟨sector_Read.ok, trivial⟩ trivial (by rw [loops1]; exact trivial) (fun _ _ _ _ _ h => h), trivial⟩ ?_ ?_ (hRg := by rw [ranges]; exact ⟨rangeOk_of (D := D) (Di := D2) (e := ⟨121, 29, [2, 5, 6, 7], bodyIn D2 Tryd.f121⟩) (by kernel_rfl) rfl rfl (by kernel_rfl) (run_of (D := D2) (D' := D2) (fn := Tryd.f121) (c := Tryd.f121.body.getD .skip) rfl rfl (by kernel_rfl) (globsPlain_of (by kernel_rfl)) (by kernel_rfl) (by kernel_rfl) (by kernel_rfl) ⟨sector_Read.ok, trivial⟩ trivial (by rw [loops2]; exact ⟨loop2_1, trivial⟩) (fun _ _ _ _ _ h => h) rfl rfl (noRanges rfl _) (fun s hs => by have hs : some (roundY D3 (ycOf (rngAt Tryd.f33 5) 29 true)) = some s := hs; cases hs; exact round_y3)), trivial⟩)
 · rw [loops]; exact trivial
 · intro args K r h
   unfold spec0 at h
   split at h
   · rw [body]; exact h
   · cases h
theorem ok : Proved Tryd.prog GLO.gB 33 spec := proved_coer _ ok0
end sector_Best
end

section
open Go Go.Abs Go.Proofs
set_option maxRecDepth 100000
set_option linter.unusedVariables false
namespace bits_Join
noncomputable def D : Ctx := ({ P := Tryd.prog, G := [(59, slices_Concat_byte.spec)], globs := GLO.gB, hints := [], loops := [], inl := [] } : Ctx)
theorem body (a0 : List (List Int)) (K : AVal → Option R) : bodyA D Tryd.f76 [.fr 5 (.ints .u8 [])] [.sl (.rows .u8 a0)] K = P.bits_Join a0 (fun r0 => K (.fr 5 (.ints .u8 r0))) := by
 rw [P.bits_Join_eq]
 kernel_rfl
theorem loops : loopsOf (Tryd.f76.body.getD .skip) = [] := by kernel_rfl
noncomputable def spec0 : Abs.Spec := fun args K => match args with
 | [.sl (.rows .u8 a0)] => P.bits_Join a0 (fun r0 => K (.fr 5 (.ints .u8 r0)))
 | _ => none
noncomputable def spec : Abs.Spec := fun args K => spec0 (coerL [.sl (.rows .u8 [])] args) K
theorem ok0 : Proved Tryd.prog GLO.gB 76 spec0 := by
 refine proved_of (D := D) (fn := Tryd.f76) (c := Tryd.f76.body.getD .skip) [.fr 5 (.ints .u8 [])] (by kernel_rfl) (globsPlain_of (by kernel_rfl)) (by kernel_rfl) (by kernel_rfl) (by kernel_rfl) ⟨slices_Concat_byte.ok, trivial⟩ trivial ?_ ?_
 · rw [loops]; exact trivial
 · intro args K r h
   unfold spec0 at h
   split at h
   · rw [body]; exact h
   · cases h
theorem ok : Proved Tryd.prog GLO.gB 76 spec := proved_coer _ ok0
end bits_Join
end

section
open Go Go.Abs Go.Proofs
set_option maxRecDepth 100000
set_option linter.unusedVariables false
namespace sector_Bytes
noncomputable def D : Ctx := ({ P := Tryd.prog, G := [(23, sha_Sum.spec), (68, bits_Be.spec), (76, bits_Join.spec)], globs := GLO.gB, hints := [], loops := [], inl := [] } : Ctx)
theorem body (a0_Epoch : Int) (a0_Bound : Int) (K : AVal → Option R) : bodyA D Tryd.f32 [.fr 5 (.ints .u8 [])] [.agg [.v (.int .u64 a0_Epoch), .v (.int .u64 a0_Bound)]] K = P.sector_Bytes a0_Epoch a0_Bound (fun r0 => K (.fr 5 (.ints .u8 r0))) := by
 rw [P.sector_Bytes_eq]
 kernel_rfl
theorem loops : loopsOf (Tryd.f32.body.getD .skip) = [] := by kernel_rfl
noncomputable def spec0 : Abs.Spec := fun args K => match args with
 | [.agg [.v (.int .u64 a0_Epoch), .v (.int .u64 a0_Bound)]] => P.sector_Bytes a0_Epoch a0_Bound (fun r0 => K (.fr 5 (.ints .u8 r0)))
 | _ => none
noncomputable def spec : Abs.Spec := spec0
theorem ok0 : Proved Tryd.prog GLO.gB 32 spec0 := by
 refine proved_of (D := D) (fn := Tryd.f32) (c := Tryd.f32.body.getD .skip) [.fr 5 (.ints .u8 [])] (by kernel_rfl) (globsPlain_of (by kernel_rfl)) (by kernel_rfl) (by kernel_rfl) (by kernel_rfl) ⟨sha_Sum.ok, bits_Be.ok, bits_Join.ok, trivial⟩ trivial ?_ ?_
 · rw [loops]; exact trivial
 · intro args K r h
   unfold spec0 at h
   split at h
   · rw [body]; exact h
   · cases h
theorem ok : Proved Tryd.prog GLO.gB 32 spec := ok0
end sector_Bytes
end

section
open Go Go.Abs Go.Proofs
set_option maxRecDepth 100000
set_option linter.unusedVariables false
namespace sector_New
noncomputable def D : Ctx := ({ P := Tryd.prog, G := [(32, sector_Bytes.spec)], globs := GLO.gB, hints := [], loops := [], inl := [] } : Ctx)
theorem body  (K : AVal → Option R) : bodyA D Tryd.f73 [.agg [.fr 5 (.ints .u8 []), .fr 5 (.ints .u8 [])]] [] K = P.sector_New (fun r0_0 r0_1 => K (.agg [.fr 5 (.ints .u8 r0_0), .fr 5 (.ints .u8 r0_1)])) := by
 rw [P.sector_New_eq]
 kernel_rfl
theorem loops : loopsOf (Tryd.f73.body.getD .skip) = [] := by kernel_rfl
noncomputable def spec0 : Abs.Spec := fun args K => match args with
 | [] => P.sector_New (fun r0_0 r0_1 => K (.agg [.fr 5 (.ints .u8 r0_0), .fr 5 (.ints .u8 r0_1)]))
 | _ => none
noncomputable def spec : Abs.Spec := spec0
theorem ok0 : Proved Tryd.prog GLO.gB 73 spec0 := by
 refine proved_of (D := D) (fn := Tryd.f73) (c := Tryd.f73.body.getD .skip) [.agg [.fr 5 (.ints .u8 []), .fr 5 (.ints .u8 [])]] (by kernel_rfl) (globsPlain_of (by kernel_rfl)) (by kernel_rfl) (by kernel_rfl) (by kernel_rfl) ⟨sector_Bytes.ok, trivial⟩ trivial ?_ ?_
 · rw [loops]; exact trivial
 · intro args K r h
   unfold spec0 at h
   split at h
   · rw [body]; exact h
   · cases h
theorem ok : Proved Tryd.prog GLO.gB 73 spec := ok0
end sector_New
end

section
open Go Go.Abs Go.Proofs
set_option maxRecDepth 100000
set_option linter.unusedVariables false
namespace L28_awake
noncomputable def D : Ctx := ({ P := Tryd.prog, G := [(33, sector_Best.spec), (73, sector_New.spec)], globs := GLO.gB, hints := [], loops := [], inl := [] } : Ctx)
theorem body  (K : AVal → Option R) : bodyA D Tryd.f30 [.any] [] K = P.L28_awake (fun r0 => K (.v (.bool r0))) := by
 rw [P.L28_awake_eq]
 kernel_rfl
theorem loops : loopsOf (Tryd.f30.body.getD .skip) = [] := by kernel_rfl
noncomputable def spec0 : Abs.Spec := fun args K => match args with
 | [] => P.L28_awake (fun r0 => K (.v (.bool r0)))
 | _ => none
noncomputable def spec : Abs.Spec := spec0
theorem ok0 : Proved Tryd.prog GLO.gB 30 spec0 := by
 refine proved_of (D := D) (fn := Tryd.f30) (c := Tryd.f30.body.getD .skip) [.any] (by kernel_rfl) (globsPlain_of (by kernel_rfl)) (by kernel_rfl) (by kernel_rfl) (by kernel_rfl) ⟨sector_Best.ok, sector_New.ok, trivial⟩ trivial ?_ ?_
 · rw [loops]; exact trivial
 · intro args K r h
   unfold spec0 at h
   split at h
   · rw [body]; exact h
   · cases h
theorem ok : Proved Tryd.prog GLO.gB 30 spec := ok0
end L28_awake
end

section
open Go Go.Abs Go.Proofs
set_option maxRecDepth 100000
set_option linter.unusedVariables false
namespace L28_few
noncomputable def D : Ctx := ({ P := Tryd.prog, G := [], globs := GLO.gB, hints := [], loops := [], inl := [] } : Ctx)
theorem body (a0_0 : List Int) (a0_1 : List Int) (K : AVal → Option R) : bodyA D Tryd.f29 [.any] [.agg [.sl (.ints .u8 a0_0), .sl (.ints .u8 a0_1)]] K = P.L28_few a0_0 a0_1 (fun r0 => K (.v (.bool r0))) := by
 rw [P.L28_few_eq]
 kernel_rfl
theorem loops : loopsOf (Tryd.f29.body.getD .skip) = [] := by kernel_rfl
noncomputable def spec0 : Abs.Spec := fun args K => match args with
 | [.agg [.sl (.ints .u8 a0_0), .sl (.ints .u8 a0_1)]] => P.L28_few a0_0 a0_1 (fun r0 => K (.v (.bool r0)))
 | _ => none
noncomputable def spec : Abs.Spec := fun args K => spec0 (coerL [.agg [.sl (.ints .u8 []), .sl (.ints .u8 [])]] args) K
theorem ok0 : Proved Tryd.prog GLO.gB 29 spec0 := by
 refine proved_of (D := D) (fn := Tryd.f29) (c := Tryd.f29.body.getD .skip) [.any] (by kernel_rfl) (globsPlain_of (by kernel_rfl)) (by kernel_rfl) (by kernel_rfl) (by kernel_rfl) trivial trivial ?_ ?_
 · rw [loops]; exact trivial
 · intro args K r h
   unfold spec0 at h
   split at h
   · rw [body]; exact h
   · cases h
theorem ok : Proved Tryd.prog GLO.gB 29 spec := proved_coer _ ok0
end L28_few
end

section
open Go Go.Abs Go.Proofs
set_option maxRecDepth 100000
set_option linter.unusedVariables false
namespace R01_Same
abbrev X4 := (List Int) × (List Int) × Int
def S4 : X4 → ASt := fun (v0, v1, v5) => ⟨[(0, .sl (.ints .u8 v0)), (1, .sl (.ints .u8 v1)), (5, .v (.int .i64 v5))], [], 0, 26⟩
def V4 : ASt → Option X4
 | ⟨[(0, .sl (.ints .u8 v0)), (1, .sl (.ints .u8 v1)), (5, .v (.int .i64 v5))], [], 0, 26⟩ => some (v0, v1, v5)
 | _ => none
theorem V4_ok (st) (x) (h : V4 st = some x) : st = S4 x := by
 unfold V4 at h
 split at h
 · cases h; rfl
 · cases h
abbrev Y4 := X4 ⊕ (Bool)
noncomputable def T4 : X4 → (X4 → Option R) → (Y4 → Option R) → Option R := fun (v0, v1, v5) next ex => P.R01_Same_r4 v0 v1 v5 (fun v0 v1 v5 => next (v0, v1, v5)) (fun v0 v1 v5 => ex (.inl (v0, v1, v5))) (fun v4 => ex (.inr v4))
def E4 (K : AExit → ASt → Option R) : Y4 → Option R := (Sum.elim (fun x => K (.exit 0) (S4 x)) (fun v4 => K .ret ⟨[(4, .v (.bool v4))], [], 0, 26⟩))
noncomputable def L4 : LSpec := fun st K => vMap (V4 st) fun (v0, v1, v5) => P.R01_Same_l4 v0 v1 v5 (fun v0 v1 v5 => K (.exit 0) (S4 (v0, v1, v5))) (fun v4 => K .ret ⟨[(4, .v (.bool v4))], [], 0, 26⟩)
noncomputable def D : Ctx := ({ P := Tryd.prog, G := [], globs := GLO.gB, hints := [(4, ⟨[0, 1, 5], [], [4], [], none, []⟩)], loops := [(4, L4)], inl := [] } : Ctx)
theorem round4 (K) (next) (x) : roundA D (loopAt Tryd.f18 4) K next (S4 x) = T4 x (fun x => next (S4 x)) (E4 K) := by kernel_rfl
theorem lq4 (st) (K) : L4 st K = vMap (V4 st) (fun x => lp T4 x (E4 K)) := by
 unfold L4
 cases V4 st with
 | none => rfl
 | some x => rw [P.R01_Same_l4_eq]; kernel_rfl
theorem loop4 : LoopOk D (loopAt Tryd.f18 4) := loopOk_lp S4 V4_ok (by kernel_rfl) lq4 round4
theorem body (a0 : List Int) (a1 : List Int) (K : AVal → Option R) : bodyA D Tryd.f18 [.any] [.sl (.ints .u8 a0), .sl (.ints .u8 a1)] K = P.R01_Same a0 a1 (fun r0 => K (.v (.bool r0))) := by
 rw [P.R01_Same_eq]
 kernel_rfl
theorem loops : loopsOf (Tryd.f18.body.getD .skip) = [loopAt Tryd.f18 4] := by kernel_rfl
noncomputable def spec0 : Abs.Spec := fun args K => match args with
 | [.sl (.ints .u8 a0), .sl (.ints .u8 a1)] => P.R01_Same a0 a1 (fun r0 => K (.v (.bool r0)))
 | _ => none
noncomputable def spec : Abs.Spec := fun args K => spec0 (coerL [.sl (.ints .u8 []), .sl (.ints .u8 [])] args) K
theorem ok0 : Proved Tryd.prog GLO.gB 18 spec0 := by
 refine proved_of (D := D) (fn := Tryd.f18) (c := Tryd.f18.body.getD .skip) [.any] (by kernel_rfl) (globsPlain_of (by kernel_rfl)) (by kernel_rfl) (by kernel_rfl) (by kernel_rfl) trivial trivial ?_ ?_
 · rw [loops]; exact ⟨loop4, trivial⟩
 · intro args K r h
   unfold spec0 at h
   split at h
   · rw [body]; exact h
   · cases h
theorem ok : Proved Tryd.prog GLO.gB 18 spec := proved_coer _ ok0
end R01_Same
end

section
open Go Go.Abs Go.Proofs
set_option maxRecDepth 100000
set_option linter.unusedVariables false
namespace R28_Same
noncomputable def D : Ctx := ({ P := Tryd.prog, G := [(18, R01_Same.spec)], globs := GLO.gB, hints := [], loops := [], inl := [] } : Ctx)
theorem body (a0_0 : List Int) (a0_1 : List Int) (a1_0 : List Int) (a1_1 : List Int) (K : AVal → Option R) : bodyA D Tryd.f35 [.any] [.agg [.sl (.ints .u8 a0_0), .sl (.ints .u8 a0_1)], .agg [.sl (.ints .u8 a1_0), .sl (.ints .u8 a1_1)]] K = P.R28_Same a0_0 a0_1 a1_0 a1_1 (fun r0 => K (.v (.bool r0))) := by
 rw [P.R28_Same_eq]
 kernel_rfl
theorem loops : loopsOf (Tryd.f35.body.getD .skip) = [] := by kernel_rfl
noncomputable def spec0 : Abs.Spec := fun args K => match args with
 | [.agg [.sl (.ints .u8 a0_0), .sl (.ints .u8 a0_1)], .agg [.sl (.ints .u8 a1_0), .sl (.ints .u8 a1_1)]] => P.R28_Same a0_0 a0_1 a1_0 a1_1 (fun r0 => K (.v (.bool r0)))
 | _ => none
noncomputable def spec : Abs.Spec := fun args K => spec0 (coerL [.agg [.sl (.ints .u8 []), .sl (.ints .u8 [])], .agg [.sl (.ints .u8 []), .sl (.ints .u8 [])]] args) K
theorem ok0 : Proved Tryd.prog GLO.gB 35 spec0 := by
 refine proved_of (D := D) (fn := Tryd.f35) (c := Tryd.f35.body.getD .skip) [.any] (by kernel_rfl) (globsPlain_of (by kernel_rfl)) (by kernel_rfl) (by kernel_rfl) (by kernel_rfl) ⟨R01_Same.ok, trivial⟩ trivial ?_ ?_
 · rw [loops]; exact trivial
 · intro args K r h
   unfold spec0 at h
   split at h
   · rw [body]; exact h
   · cases h
theorem ok : Proved Tryd.prog GLO.gB 35 spec := proved_coer _ ok0
end R28_Same
end

section
open Go Go.Abs Go.Proofs
set_option maxRecDepth 100000
set_option linter.unusedVariables false
namespace sector_copied
noncomputable def D : Ctx := ({ P := Tryd.prog, G := [(64, slices_Clone_byte.spec)], globs := GLO.gB, hints := [], loops := [], inl := [] } : Ctx)
theorem body (a0_0 : List Int) (a0_1 : List Int) (K : AVal → Option R) : bodyA D Tryd.f80 [.agg [.fr 5 (.ints .u8 []), .fr 5 (.ints .u8 [])]] [.agg [.sl (.ints .u8 a0_0), .sl (.ints .u8 a0_1)]] K = P.sector_copied a0_0 a0_1 (fun r0_0 r0_1 => K (.agg [.fr 5 (.ints .u8 r0_0), .fr 5 (.ints .u8 r0_1)])) := by
 rw [P.sector_copied_eq]
 kernel_rfl
theorem loops : loopsOf (Tryd.f80.body.getD .skip) = [] := by kernel_rfl
noncomputable def spec0 : Abs.Spec := fun args K => match args with
 | [.agg [.sl (.ints .u8 a0_0), .sl (.ints .u8 a0_1)]] => P.sector_copied a0_0 a0_1 (fun r0_0 r0_1 => K (.agg [.fr 5 (.ints .u8 r0_0), .fr 5 (.ints .u8 r0_1)]))
 | _ => none
noncomputable def spec : Abs.Spec := fun args K => spec0 (coerL [.agg [.sl (.ints .u8 []), .sl (.ints .u8 [])]] args) K
theorem ok0 : Proved Tryd.prog GLO.gB 80 spec0 := by
 refine proved_of (D := D) (fn := Tryd.f80) (c := Tryd.f80.body.getD .skip) [.agg [.fr 5 (.ints .u8 []), .fr 5 (.ints .u8 [])]] (by kernel_rfl) (globsPlain_of (by kernel_rfl)) (by kernel_rfl) (by kernel_rfl) (by kernel_rfl) ⟨slices_Clone_byte.ok, trivial⟩ trivial ?_ ?_
 · rw [loops]; exact trivial
 · intro args K r h
   unfold spec0 at h
   split at h
   · rw [body]; exact h
   · cases h
theorem ok : Proved Tryd.prog GLO.gB 80 spec := proved_coer _ ok0
end sector_copied
end

section
open Go Go.Abs Go.Proofs
set_option maxRecDepth 100000
set_option linter.unusedVariables false
namespace sector_laid
noncomputable def D : Ctx := ({ P := Tryd.prog, G := [(33, sector_Best.spec), (64, slices_Clone_byte.spec), (80, sector_copied.spec)], globs := GLO.gB, hints := [], loops := [], inl := [] } : Ctx)
theorem body (a0_0 : List Int) (a0_1 : List Int) (a1 : List Int) (K : AVal → Option R) : bodyA D Tryd.f78 [.agg [.fr 5 (.ints .u8 []), .fr 5 (.ints .u8 [])], .any, .any] [.agg [.sl (.ints .u8 a0_0), .sl (.ints .u8 a0_1)], .sl (.ints .u8 a1)] K = P.sector_laid a0_0 a0_1 a1 (fun r0_0 r0_1 r1 r2 => K (.tuple [.agg [.fr 5 (.ints .u8 r0_0), .fr 5 (.ints .u8 r0_1)], .v (.int .i64 r1), .v (.int .i64 r2)])) := by
 rw [P.sector_laid_eq]
 kernel_rfl
theorem loops : loopsOf (Tryd.f78.body.getD .skip) = [] := by kernel_rfl
noncomputable def spec0 : Abs.Spec := fun args K => match args with
 | [.agg [.sl (.ints .u8 a0_0), .sl (.ints .u8 a0_1)], .sl (.ints .u8 a1)] => P.sector_laid a0_0 a0_1 a1 (fun r0_0 r0_1 r1 r2 => K (.tuple [.agg [.fr 5 (.ints .u8 r0_0), .fr 5 (.ints .u8 r0_1)], .v (.int .i64 r1), .v (.int .i64 r2)]))
 | _ => none
noncomputable def spec : Abs.Spec := fun args K => spec0 (coerL [.agg [.sl (.ints .u8 []), .sl (.ints .u8 [])], .sl (.ints .u8 [])] args) K
theorem ok0 : Proved Tryd.prog GLO.gB 78 spec0 := by
 refine proved_of (D := D) (fn := Tryd.f78) (c := Tryd.f78.body.getD .skip) [.agg [.fr 5 (.ints .u8 []), .fr 5 (.ints .u8 [])], .any, .any] (by kernel_rfl) (globsPlain_of (by kernel_rfl)) (by kernel_rfl) (by kernel_rfl) (by kernel_rfl) ⟨sector_Best.ok, slices_Clone_byte.ok, sector_copied.ok, trivial⟩ trivial ?_ ?_
 · rw [loops]; exact trivial
 · intro args K r h
   unfold spec0 at h
   split at h
   · rw [body]; exact h
   · cases h
theorem ok : Proved Tryd.prog GLO.gB 78 spec := proved_coer _ ok0
end sector_laid
end

section
open Go Go.Abs Go.Proofs
set_option maxRecDepth 100000
set_option linter.unusedVariables false
namespace sector_Write
noncomputable def D : Ctx := ({ P := Tryd.prog, G := [(32, sector_Bytes.spec), (78, sector_laid.spec)], globs := GLO.gB, hints := [], loops := [], inl := [] } : Ctx)
theorem body (a0_0 : List Int) (a0_1 : List Int) (a1_Epoch : Int) (a1_Bound : Int) (K : AVal → Option R) : bodyA D Tryd.f34 [.agg [.fr 5 (.ints .u8 []), .fr 5 (.ints .u8 [])], .any, .any] [.agg [.sl (.ints .u8 a0_0), .sl (.ints .u8 a0_1)], .agg [.v (.int .u64 a1_Epoch), .v (.int .u64 a1_Bound)]] K = P.sector_Write a0_0 a0_1 a1_Epoch a1_Bound (fun r0_0 r0_1 r1 r2 => K (.tuple [.agg [.fr 5 (.ints .u8 r0_0), .fr 5 (.ints .u8 r0_1)], .v (.int .i64 r1), .v (.int .i64 r2)])) := by
 rw [P.sector_Write_eq]
 kernel_rfl
theorem loops : loopsOf (Tryd.f34.body.getD .skip) = [] := by kernel_rfl
noncomputable def spec0 : Abs.Spec := fun args K => match args with
 | [.agg [.sl (.ints .u8 a0_0), .sl (.ints .u8 a0_1)], .agg [.v (.int .u64 a1_Epoch), .v (.int .u64 a1_Bound)]] => P.sector_Write a0_0 a0_1 a1_Epoch a1_Bound (fun r0_0 r0_1 r1 r2 => K (.tuple [.agg [.fr 5 (.ints .u8 r0_0), .fr 5 (.ints .u8 r0_1)], .v (.int .i64 r1), .v (.int .i64 r2)]))
 | _ => none
noncomputable def spec : Abs.Spec := fun args K => spec0 (coerL [.agg [.sl (.ints .u8 []), .sl (.ints .u8 [])], .any] args) K
theorem ok0 : Proved Tryd.prog GLO.gB 34 spec0 := by
 refine proved_of (D := D) (fn := Tryd.f34) (c := Tryd.f34.body.getD .skip) [.agg [.fr 5 (.ints .u8 []), .fr 5 (.ints .u8 [])], .any, .any] (by kernel_rfl) (globsPlain_of (by kernel_rfl)) (by kernel_rfl) (by kernel_rfl) (by kernel_rfl) ⟨sector_Bytes.ok, sector_laid.ok, trivial⟩ trivial ?_ ?_
 · rw [loops]; exact trivial
 · intro args K r h
   unfold spec0 at h
   split at h
   · rw [body]; exact h
   · cases h
theorem ok : Proved Tryd.prog GLO.gB 34 spec := proved_coer _ ok0
end sector_Write
end

section
open Go Go.Abs Go.Proofs
set_option maxRecDepth 100000
set_option linter.unusedVariables false
namespace L28_SectorThere
noncomputable def D : Ctx := ({ P := Tryd.prog, G := [(18, R01_Same.spec), (29, L28_few.spec), (30, L28_awake.spec), (31, sector_Read.spec), (32, sector_Bytes.spec), (33, sector_Best.spec), (34, sector_Write.spec), (35, R28_Same.spec)], globs := GLO.gB, hints := [], loops := [], inl := [] } : Ctx)
theorem body (a0_Epoch : Int) (a0_Bound : Int) (a1 : List Int) (a2_0 : List Int) (a2_1 : List Int) (K : AVal → Option R) : bodyA D Tryd.f6 [.any] [.agg [.v (.int .u64 a0_Epoch), .v (.int .u64 a0_Bound)], .sl (.ints .u8 a1), .agg [.sl (.ints .u8 a2_0), .sl (.ints .u8 a2_1)]] K = P.L28_SectorThere a0_Epoch a0_Bound a1 a2_0 a2_1 (fun r0 => K (.v (.bool r0))) := by
 rw [P.L28_SectorThere_eq]
 kernel_rfl
theorem loops : loopsOf (Tryd.f6.body.getD .skip) = [] := by kernel_rfl
noncomputable def spec0 : Abs.Spec := fun args K => match args with
 | [.agg [.v (.int .u64 a0_Epoch), .v (.int .u64 a0_Bound)], .sl (.ints .u8 a1), .agg [.sl (.ints .u8 a2_0), .sl (.ints .u8 a2_1)]] => P.L28_SectorThere a0_Epoch a0_Bound a1 a2_0 a2_1 (fun r0 => K (.v (.bool r0)))
 | _ => none
noncomputable def spec : Abs.Spec := fun args K => spec0 (coerL [.any, .sl (.ints .u8 []), .agg [.sl (.ints .u8 []), .sl (.ints .u8 [])]] args) K
theorem ok0 : Proved Tryd.prog GLO.gB 6 spec0 := by
 refine proved_of (D := D) (fn := Tryd.f6) (c := Tryd.f6.body.getD .skip) [.any] (by kernel_rfl) (globsPlain_of (by kernel_rfl)) (by kernel_rfl) (by kernel_rfl) (by kernel_rfl) ⟨R01_Same.ok, L28_few.ok, L28_awake.ok, sector_Read.ok, sector_Bytes.ok, sector_Best.ok, sector_Write.ok, R28_Same.ok, trivial⟩ trivial ?_ ?_
 · rw [loops]; exact trivial
 · intro args K r h
   unfold spec0 at h
   split at h
   · rw [body]; exact h
   · cases h
theorem ok : Proved Tryd.prog GLO.gB 6 spec := proved_coer _ ok0
end L28_SectorThere
end
