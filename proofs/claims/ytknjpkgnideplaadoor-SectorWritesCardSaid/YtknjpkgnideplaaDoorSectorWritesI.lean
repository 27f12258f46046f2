/-
  SectorWrites, part I: an interpreter of my own over abstract values, the pure functions, the walks and the plain law.
-/

import Derived.Test.YtknjpkgnideplaaDoorSectorWritesG
import Derived.Test.YtknjpkgnideplaaDoorSectorWritesF
import Derived.Test.YtknjpkgnideplaaDoorProg
import Derived.Test.YtknjpkgnideplaaDoorSectorWritesH
import Derived.KernelRfl

section
open Go Go.Abs Go.Proofs
set_option maxRecDepth 100000
set_option linter.unusedVariables false
namespace sha_engine_uint32_block
def S4 (v2 : List Int) (v8 : Int) (v19 : Int) (h0_0 : Int) (h0_1 : Int) (h0_2 : List Int) (h0_3 : List Int) (h0_4 : List Int) (h0_5 : List Int) (h1_0 : List Int) (h2_0 : List Int) (h3_0 : List Int) : ASt := ⟨[(2, .sl (.ints .u8 v2)), (3, .ptr 0 0), (4, .ptr 1 0), (6, .ptr 2 0), (7, .ptr 3 0), (8, .v (.int .i64 v8)), (19, .v (.int .i64 v19))], [(0, some ⟨.box 100 [.v (.int .i64 h0_0), .v (.int .i64 h0_1), .arr .i64 3 h0_2, .arr .i64 3 h0_3, .arr .i64 3 h0_4, .arr .i64 3 h0_5, .fn (.func 111) [] []], false⟩), (1, some ⟨.box 158 [.arr .u32 8 h1_0], false⟩), (2, some ⟨.box 158 [.arr .u32 8 h2_0], false⟩), (3, some ⟨.box 175 [.arr .u32 16 h3_0], false⟩)], 4, 143⟩
def V4 : ASt → Option ((List Int) × Int × Int × Int × Int × (List Int) × (List Int) × (List Int) × (List Int) × (List Int) × (List Int) × (List Int))
  | ⟨[(2, .sl (.ints .u8 v2)), (3, .ptr 0 0), (4, .ptr 1 0), (6, .ptr 2 0), (7, .ptr 3 0), (8, .v (.int .i64 v8)), (19, .v (.int .i64 v19))], [(0, some ⟨.box 100 [.v (.int .i64 h0_0), .v (.int .i64 h0_1), .arr .i64 3 h0_2, .arr .i64 3 h0_3, .arr .i64 3 h0_4, .arr .i64 3 h0_5, .fn (.func 111) [] []], false⟩), (1, some ⟨.box 158 [.arr .u32 8 h1_0], false⟩), (2, some ⟨.box 158 [.arr .u32 8 h2_0], false⟩), (3, some ⟨.box 175 [.arr .u32 16 h3_0], false⟩)], 4, 143⟩ => some (v2, v8, v19, h0_0, h0_1, h0_2, h0_3, h0_4, h0_5, h1_0, h2_0, h3_0)
  | _ => none
theorem V4_ok (st : ASt) (x : (List Int) × Int × Int × Int × Int × (List Int) × (List Int) × (List Int) × (List Int) × (List Int) × (List Int) × (List Int)) (h : V4 st = some x) : st = S4 x.1 x.2.1 x.2.2.1 x.2.2.2.1 x.2.2.2.2.1 x.2.2.2.2.2.1 x.2.2.2.2.2.2.1 x.2.2.2.2.2.2.2.1 x.2.2.2.2.2.2.2.2.1 x.2.2.2.2.2.2.2.2.2.1 x.2.2.2.2.2.2.2.2.2.2.1 x.2.2.2.2.2.2.2.2.2.2.2 := by
  unfold V4 at h
  split at h
  · cases h; rfl
  · cases h
def S10 (v38 : Int) (v39 : Int) (h3_0 : List Int) (h2_0 : List Int) (h1_0 : List Int) (h0_0 : Int) (h0_1 : Int) (h0_2 : List Int) (h0_3 : List Int) (h0_4 : List Int) (h0_5 : List Int) (h4_0 : List Int) : ASt := ⟨[(3, .ptr 0 0), (4, .ptr 1 0), (6, .ptr 2 0), (7, .ptr 3 0), (10, .ptr 4 0), (38, .v (.int .i64 v38)), (39, .v (.int .i64 v39))], [(3, some ⟨.box 175 [.arr .u32 16 h3_0], false⟩), (2, some ⟨.box 158 [.arr .u32 8 h2_0], false⟩), (1, some ⟨.box 158 [.arr .u32 8 h1_0], false⟩), (0, some ⟨.box 100 [.v (.int .i64 h0_0), .v (.int .i64 h0_1), .arr .i64 3 h0_2, .arr .i64 3 h0_3, .arr .i64 3 h0_4, .arr .i64 3 h0_5, .fn (.func 111) [] []], false⟩), (4, some ⟨.box 158 [.arr .u32 8 h4_0], false⟩)], 5, 143⟩
def V10 : ASt → Option (Int × Int × (List Int) × (List Int) × (List Int) × Int × Int × (List Int) × (List Int) × (List Int) × (List Int) × (List Int))
  | ⟨[(3, .ptr 0 0), (4, .ptr 1 0), (6, .ptr 2 0), (7, .ptr 3 0), (10, .ptr 4 0), (38, .v (.int .i64 v38)), (39, .v (.int .i64 v39))], [(3, some ⟨.box 175 [.arr .u32 16 h3_0], false⟩), (2, some ⟨.box 158 [.arr .u32 8 h2_0], false⟩), (1, some ⟨.box 158 [.arr .u32 8 h1_0], false⟩), (0, some ⟨.box 100 [.v (.int .i64 h0_0), .v (.int .i64 h0_1), .arr .i64 3 h0_2, .arr .i64 3 h0_3, .arr .i64 3 h0_4, .arr .i64 3 h0_5, .fn (.func 111) [] []], false⟩), (4, some ⟨.box 158 [.arr .u32 8 h4_0], false⟩)], 5, 143⟩ => some (v38, v39, h3_0, h2_0, h1_0, h0_0, h0_1, h0_2, h0_3, h0_4, h0_5, h4_0)
  | _ => none
theorem V10_ok (st : ASt) (x : Int × Int × (List Int) × (List Int) × (List Int) × Int × Int × (List Int) × (List Int) × (List Int) × (List Int) × (List Int)) (h : V10 st = some x) : st = S10 x.1 x.2.1 x.2.2.1 x.2.2.2.1 x.2.2.2.2.1 x.2.2.2.2.2.1 x.2.2.2.2.2.2.1 x.2.2.2.2.2.2.2.1 x.2.2.2.2.2.2.2.2.1 x.2.2.2.2.2.2.2.2.2.1 x.2.2.2.2.2.2.2.2.2.2.1 x.2.2.2.2.2.2.2.2.2.2.2 := by
  unfold V10 at h
  split at h
  · cases h; rfl
  · cases h
def S21 (v130 : Int) (h1_0 : List Int) (h2_0 : List Int) (h4_0 : List Int) : ASt := ⟨[(4, .ptr 1 0), (6, .ptr 2 0), (10, .ptr 4 0), (130, .v (.int .i64 v130))], [(1, some ⟨.box 158 [.arr .u32 8 h1_0], false⟩), (2, some ⟨.box 158 [.arr .u32 8 h2_0], false⟩), (4, some ⟨.box 158 [.arr .u32 8 h4_0], false⟩)], 120, 143⟩
def V21 : ASt → Option (Int × (List Int) × (List Int) × (List Int))
  | ⟨[(4, .ptr 1 0), (6, .ptr 2 0), (10, .ptr 4 0), (130, .v (.int .i64 v130))], [(1, some ⟨.box 158 [.arr .u32 8 h1_0], false⟩), (2, some ⟨.box 158 [.arr .u32 8 h2_0], false⟩), (4, some ⟨.box 158 [.arr .u32 8 h4_0], false⟩)], 120, 143⟩ => some (v130, h1_0, h2_0, h4_0)
  | _ => none
theorem V21_ok (st : ASt) (x : Int × (List Int) × (List Int) × (List Int)) (h : V21 st = some x) : st = S21 x.1 x.2.1 x.2.2.1 x.2.2.2 := by
  unfold V21 at h
  split at h
  · cases h; rfl
  · cases h
noncomputable def L4 : LSpec := fun st K => match V4 st with
  | some x => P.sha_engine_uint32_block_l4 x.1 x.2.1 x.2.2.1 x.2.2.2.1 x.2.2.2.2.1 x.2.2.2.2.2.1 x.2.2.2.2.2.2.1 x.2.2.2.2.2.2.2.1 x.2.2.2.2.2.2.2.2.1 x.2.2.2.2.2.2.2.2.2.1 x.2.2.2.2.2.2.2.2.2.2.1 x.2.2.2.2.2.2.2.2.2.2.2 (fun v2 v8 v19 h0_0 h0_1 h0_2 h0_3 h0_4 h0_5 h1_0 h2_0 h3_0 => K (.exit 0) (S4 v2 v8 v19 h0_0 h0_1 h0_2 h0_3 h0_4 h0_5 h1_0 h2_0 h3_0))
  | none => none
noncomputable def L10 : LSpec := fun st K => match V10 st with
  | some x => P.sha_engine_uint32_block_l10 x.1 x.2.1 x.2.2.1 x.2.2.2.1 x.2.2.2.2.1 x.2.2.2.2.2.1 x.2.2.2.2.2.2.1 x.2.2.2.2.2.2.2.1 x.2.2.2.2.2.2.2.2.1 x.2.2.2.2.2.2.2.2.2.1 x.2.2.2.2.2.2.2.2.2.2.1 x.2.2.2.2.2.2.2.2.2.2.2 (fun v38 v39 h3_0 h2_0 h1_0 h0_0 h0_1 h0_2 h0_3 h0_4 h0_5 h4_0 => K (.exit 2) (S10 v38 v39 h3_0 h2_0 h1_0 h0_0 h0_1 h0_2 h0_3 h0_4 h0_5 h4_0))
  | none => none
noncomputable def L21 : LSpec := fun st K => match V21 st with
  | some x => P.sha_engine_uint32_block_l21 x.1 x.2.1 x.2.2.1 x.2.2.2 (fun v130 h1_0 h2_0 h4_0 => K (.exit 4) (S21 v130 h1_0 h2_0 h4_0))
  | none => none
noncomputable def D : Ctx := ({ P := Tryd.prog, G := [(75, bits_Num.spec), (111, sha_root256.spec), (130, sha_engine_uint32_high.spec), (131, sha_engine_uint32_low.spec)], globs := [(0, [.arr .u32 64 P.roots256]), (1, [.arr .u64 80 P.roots512])], hints := [(21, ⟨[4, 6, 10, 130], [], [6], [], some (120, [1, 2, 4]), []⟩), (10, ⟨[3, 4, 6, 7, 10, 38, 39], [], [6], [], none, []⟩), (4, ⟨[2, 3, 4, 6, 7, 8, 19], [], [6], [], none, []⟩)], loops := [(4, L4), (10, L10), (21, L21)], inl := [] } : Ctx)
def E4 (K : AExit → ASt → Option R) : (((List Int) × Int × Int × Int × Int × (List Int) × (List Int) × (List Int) × (List Int) × (List Int) × (List Int) × (List Int))) → Option R := (fun x => K (.exit 0) (S4 x.1 x.2.1 x.2.2.1 x.2.2.2.1 x.2.2.2.2.1 x.2.2.2.2.2.1 x.2.2.2.2.2.2.1 x.2.2.2.2.2.2.2.1 x.2.2.2.2.2.2.2.2.1 x.2.2.2.2.2.2.2.2.2.1 x.2.2.2.2.2.2.2.2.2.2.1 x.2.2.2.2.2.2.2.2.2.2.2))
theorem round4 (K : AExit → ASt → Option R) (next : ASt → Option R) (x : (List Int) × Int × Int × Int × Int × (List Int) × (List Int) × (List Int) × (List Int) × (List Int) × (List Int) × (List Int)) : roundA D (loopAt Tryd.f110 4) K next (S4 x.1 x.2.1 x.2.2.1 x.2.2.2.1 x.2.2.2.2.1 x.2.2.2.2.2.1 x.2.2.2.2.2.2.1 x.2.2.2.2.2.2.2.1 x.2.2.2.2.2.2.2.2.1 x.2.2.2.2.2.2.2.2.2.1 x.2.2.2.2.2.2.2.2.2.2.1 x.2.2.2.2.2.2.2.2.2.2.2) = (fun (x : (List Int) × Int × Int × Int × Int × (List Int) × (List Int) × (List Int) × (List Int) × (List Int) × (List Int) × (List Int)) (next : ((List Int) × Int × Int × Int × Int × (List Int) × (List Int) × (List Int) × (List Int) × (List Int) × (List Int) × (List Int)) → Option R) (ex : (((List Int) × Int × Int × Int × Int × (List Int) × (List Int) × (List Int) × (List Int) × (List Int) × (List Int) × (List Int))) → Option R) => P.sha_engine_uint32_block_r4 x.1 x.2.1 x.2.2.1 x.2.2.2.1 x.2.2.2.2.1 x.2.2.2.2.2.1 x.2.2.2.2.2.2.1 x.2.2.2.2.2.2.2.1 x.2.2.2.2.2.2.2.2.1 x.2.2.2.2.2.2.2.2.2.1 x.2.2.2.2.2.2.2.2.2.2.1 x.2.2.2.2.2.2.2.2.2.2.2 (fun v2 v8 v19 h0_0 h0_1 h0_2 h0_3 h0_4 h0_5 h1_0 h2_0 h3_0 => next (v2, v8, v19, h0_0, h0_1, h0_2, h0_3, h0_4, h0_5, h1_0, h2_0, h3_0)) (fun v2 v8 v19 h0_0 h0_1 h0_2 h0_3 h0_4 h0_5 h1_0 h2_0 h3_0 => ex ((v2, v8, v19, h0_0, h0_1, h0_2, h0_3, h0_4, h0_5, h1_0, h2_0, h3_0)))) x (fun x => next (S4 x.1 x.2.1 x.2.2.1 x.2.2.2.1 x.2.2.2.2.1 x.2.2.2.2.2.1 x.2.2.2.2.2.2.1 x.2.2.2.2.2.2.2.1 x.2.2.2.2.2.2.2.2.1 x.2.2.2.2.2.2.2.2.2.1 x.2.2.2.2.2.2.2.2.2.2.1 x.2.2.2.2.2.2.2.2.2.2.2)) (E4 K) := by kernel_rfl
theorem lq4 (st : ASt) (K : AExit → ASt → Option R) : L4 st K = vMap (V4 st) (fun x => lp (fun (x : (List Int) × Int × Int × Int × Int × (List Int) × (List Int) × (List Int) × (List Int) × (List Int) × (List Int) × (List Int)) (next : ((List Int) × Int × Int × Int × Int × (List Int) × (List Int) × (List Int) × (List Int) × (List Int) × (List Int) × (List Int)) → Option R) (ex : (((List Int) × Int × Int × Int × Int × (List Int) × (List Int) × (List Int) × (List Int) × (List Int) × (List Int) × (List Int))) → Option R) => P.sha_engine_uint32_block_r4 x.1 x.2.1 x.2.2.1 x.2.2.2.1 x.2.2.2.2.1 x.2.2.2.2.2.1 x.2.2.2.2.2.2.1 x.2.2.2.2.2.2.2.1 x.2.2.2.2.2.2.2.2.1 x.2.2.2.2.2.2.2.2.2.1 x.2.2.2.2.2.2.2.2.2.2.1 x.2.2.2.2.2.2.2.2.2.2.2 (fun v2 v8 v19 h0_0 h0_1 h0_2 h0_3 h0_4 h0_5 h1_0 h2_0 h3_0 => next (v2, v8, v19, h0_0, h0_1, h0_2, h0_3, h0_4, h0_5, h1_0, h2_0, h3_0)) (fun v2 v8 v19 h0_0 h0_1 h0_2 h0_3 h0_4 h0_5 h1_0 h2_0 h3_0 => ex ((v2, v8, v19, h0_0, h0_1, h0_2, h0_3, h0_4, h0_5, h1_0, h2_0, h3_0)))) x (E4 K)) := by
  unfold L4
  cases V4 st with
  | none => rfl
  | some x => simp only [P.sha_engine_uint32_block_l4_eq]; rfl
theorem loop4 : LoopOk D (loopAt Tryd.f110 4) := loopOk_lp (X := (List Int) × Int × Int × Int × Int × (List Int) × (List Int) × (List Int) × (List Int) × (List Int) × (List Int) × (List Int)) (Y := ((List Int) × Int × Int × Int × Int × (List Int) × (List Int) × (List Int) × (List Int) × (List Int) × (List Int) × (List Int))) (fun x => S4 x.1 x.2.1 x.2.2.1 x.2.2.2.1 x.2.2.2.2.1 x.2.2.2.2.2.1 x.2.2.2.2.2.2.1 x.2.2.2.2.2.2.2.1 x.2.2.2.2.2.2.2.2.1 x.2.2.2.2.2.2.2.2.2.1 x.2.2.2.2.2.2.2.2.2.2.1 x.2.2.2.2.2.2.2.2.2.2.2) V4_ok (stp := (fun (x : (List Int) × Int × Int × Int × Int × (List Int) × (List Int) × (List Int) × (List Int) × (List Int) × (List Int) × (List Int)) (next : ((List Int) × Int × Int × Int × Int × (List Int) × (List Int) × (List Int) × (List Int) × (List Int) × (List Int) × (List Int)) → Option R) (ex : (((List Int) × Int × Int × Int × Int × (List Int) × (List Int) × (List Int) × (List Int) × (List Int) × (List Int) × (List Int))) → Option R) => P.sha_engine_uint32_block_r4 x.1 x.2.1 x.2.2.1 x.2.2.2.1 x.2.2.2.2.1 x.2.2.2.2.2.1 x.2.2.2.2.2.2.1 x.2.2.2.2.2.2.2.1 x.2.2.2.2.2.2.2.2.1 x.2.2.2.2.2.2.2.2.2.1 x.2.2.2.2.2.2.2.2.2.2.1 x.2.2.2.2.2.2.2.2.2.2.2 (fun v2 v8 v19 h0_0 h0_1 h0_2 h0_3 h0_4 h0_5 h1_0 h2_0 h3_0 => next (v2, v8, v19, h0_0, h0_1, h0_2, h0_3, h0_4, h0_5, h1_0, h2_0, h3_0)) (fun v2 v8 v19 h0_0 h0_1 h0_2 h0_3 h0_4 h0_5 h1_0 h2_0 h3_0 => ex ((v2, v8, v19, h0_0, h0_1, h0_2, h0_3, h0_4, h0_5, h1_0, h2_0, h3_0))))) (enc := E4) (L := L4) (by kernel_rfl) lq4 round4
def E10 (K : AExit → ASt → Option R) : ((Int × Int × (List Int) × (List Int) × (List Int) × Int × Int × (List Int) × (List Int) × (List Int) × (List Int) × (List Int))) → Option R := (fun x => K (.exit 2) (S10 x.1 x.2.1 x.2.2.1 x.2.2.2.1 x.2.2.2.2.1 x.2.2.2.2.2.1 x.2.2.2.2.2.2.1 x.2.2.2.2.2.2.2.1 x.2.2.2.2.2.2.2.2.1 x.2.2.2.2.2.2.2.2.2.1 x.2.2.2.2.2.2.2.2.2.2.1 x.2.2.2.2.2.2.2.2.2.2.2))
theorem round10 (K : AExit → ASt → Option R) (next : ASt → Option R) (x : Int × Int × (List Int) × (List Int) × (List Int) × Int × Int × (List Int) × (List Int) × (List Int) × (List Int) × (List Int)) : roundA D (loopAt Tryd.f110 10) K next (S10 x.1 x.2.1 x.2.2.1 x.2.2.2.1 x.2.2.2.2.1 x.2.2.2.2.2.1 x.2.2.2.2.2.2.1 x.2.2.2.2.2.2.2.1 x.2.2.2.2.2.2.2.2.1 x.2.2.2.2.2.2.2.2.2.1 x.2.2.2.2.2.2.2.2.2.2.1 x.2.2.2.2.2.2.2.2.2.2.2) = (fun (x : Int × Int × (List Int) × (List Int) × (List Int) × Int × Int × (List Int) × (List Int) × (List Int) × (List Int) × (List Int)) (next : (Int × Int × (List Int) × (List Int) × (List Int) × Int × Int × (List Int) × (List Int) × (List Int) × (List Int) × (List Int)) → Option R) (ex : ((Int × Int × (List Int) × (List Int) × (List Int) × Int × Int × (List Int) × (List Int) × (List Int) × (List Int) × (List Int))) → Option R) => P.sha_engine_uint32_block_r10 x.1 x.2.1 x.2.2.1 x.2.2.2.1 x.2.2.2.2.1 x.2.2.2.2.2.1 x.2.2.2.2.2.2.1 x.2.2.2.2.2.2.2.1 x.2.2.2.2.2.2.2.2.1 x.2.2.2.2.2.2.2.2.2.1 x.2.2.2.2.2.2.2.2.2.2.1 x.2.2.2.2.2.2.2.2.2.2.2 (fun v38 v39 h3_0 h2_0 h1_0 h0_0 h0_1 h0_2 h0_3 h0_4 h0_5 h4_0 => next (v38, v39, h3_0, h2_0, h1_0, h0_0, h0_1, h0_2, h0_3, h0_4, h0_5, h4_0)) (fun v38 v39 h3_0 h2_0 h1_0 h0_0 h0_1 h0_2 h0_3 h0_4 h0_5 h4_0 => ex ((v38, v39, h3_0, h2_0, h1_0, h0_0, h0_1, h0_2, h0_3, h0_4, h0_5, h4_0)))) x (fun x => next (S10 x.1 x.2.1 x.2.2.1 x.2.2.2.1 x.2.2.2.2.1 x.2.2.2.2.2.1 x.2.2.2.2.2.2.1 x.2.2.2.2.2.2.2.1 x.2.2.2.2.2.2.2.2.1 x.2.2.2.2.2.2.2.2.2.1 x.2.2.2.2.2.2.2.2.2.2.1 x.2.2.2.2.2.2.2.2.2.2.2)) (E10 K) := by kernel_rfl
theorem lq10 (st : ASt) (K : AExit → ASt → Option R) : L10 st K = vMap (V10 st) (fun x => lp (fun (x : Int × Int × (List Int) × (List Int) × (List Int) × Int × Int × (List Int) × (List Int) × (List Int) × (List Int) × (List Int)) (next : (Int × Int × (List Int) × (List Int) × (List Int) × Int × Int × (List Int) × (List Int) × (List Int) × (List Int) × (List Int)) → Option R) (ex : ((Int × Int × (List Int) × (List Int) × (List Int) × Int × Int × (List Int) × (List Int) × (List Int) × (List Int) × (List Int))) → Option R) => P.sha_engine_uint32_block_r10 x.1 x.2.1 x.2.2.1 x.2.2.2.1 x.2.2.2.2.1 x.2.2.2.2.2.1 x.2.2.2.2.2.2.1 x.2.2.2.2.2.2.2.1 x.2.2.2.2.2.2.2.2.1 x.2.2.2.2.2.2.2.2.2.1 x.2.2.2.2.2.2.2.2.2.2.1 x.2.2.2.2.2.2.2.2.2.2.2 (fun v38 v39 h3_0 h2_0 h1_0 h0_0 h0_1 h0_2 h0_3 h0_4 h0_5 h4_0 => next (v38, v39, h3_0, h2_0, h1_0, h0_0, h0_1, h0_2, h0_3, h0_4, h0_5, h4_0)) (fun v38 v39 h3_0 h2_0 h1_0 h0_0 h0_1 h0_2 h0_3 h0_4 h0_5 h4_0 => ex ((v38, v39, h3_0, h2_0, h1_0, h0_0, h0_1, h0_2, h0_3, h0_4, h0_5, h4_0)))) x (E10 K)) := by
  unfold L10
  cases V10 st with
  | none => rfl
  | some x => simp only [P.sha_engine_uint32_block_l10_eq]; rfl
theorem loop10 : LoopOk D (loopAt Tryd.f110 10) := loopOk_lp (X := Int × Int × (List Int) × (List Int) × (List Int) × Int × Int × (List Int) × (List Int) × (List Int) × (List Int) × (List Int)) (Y := (Int × Int × (List Int) × (List Int) × (List Int) × Int × Int × (List Int) × (List Int) × (List Int) × (List Int) × (List Int))) (fun x => S10 x.1 x.2.1 x.2.2.1 x.2.2.2.1 x.2.2.2.2.1 x.2.2.2.2.2.1 x.2.2.2.2.2.2.1 x.2.2.2.2.2.2.2.1 x.2.2.2.2.2.2.2.2.1 x.2.2.2.2.2.2.2.2.2.1 x.2.2.2.2.2.2.2.2.2.2.1 x.2.2.2.2.2.2.2.2.2.2.2) V10_ok (stp := (fun (x : Int × Int × (List Int) × (List Int) × (List Int) × Int × Int × (List Int) × (List Int) × (List Int) × (List Int) × (List Int)) (next : (Int × Int × (List Int) × (List Int) × (List Int) × Int × Int × (List Int) × (List Int) × (List Int) × (List Int) × (List Int)) → Option R) (ex : ((Int × Int × (List Int) × (List Int) × (List Int) × Int × Int × (List Int) × (List Int) × (List Int) × (List Int) × (List Int))) → Option R) => P.sha_engine_uint32_block_r10 x.1 x.2.1 x.2.2.1 x.2.2.2.1 x.2.2.2.2.1 x.2.2.2.2.2.1 x.2.2.2.2.2.2.1 x.2.2.2.2.2.2.2.1 x.2.2.2.2.2.2.2.2.1 x.2.2.2.2.2.2.2.2.2.1 x.2.2.2.2.2.2.2.2.2.2.1 x.2.2.2.2.2.2.2.2.2.2.2 (fun v38 v39 h3_0 h2_0 h1_0 h0_0 h0_1 h0_2 h0_3 h0_4 h0_5 h4_0 => next (v38, v39, h3_0, h2_0, h1_0, h0_0, h0_1, h0_2, h0_3, h0_4, h0_5, h4_0)) (fun v38 v39 h3_0 h2_0 h1_0 h0_0 h0_1 h0_2 h0_3 h0_4 h0_5 h4_0 => ex ((v38, v39, h3_0, h2_0, h1_0, h0_0, h0_1, h0_2, h0_3, h0_4, h0_5, h4_0))))) (enc := E10) (L := L10) (by kernel_rfl) lq10 round10
def E21 (K : AExit → ASt → Option R) : ((Int × (List Int) × (List Int) × (List Int))) → Option R := (fun x => K (.exit 4) (S21 x.1 x.2.1 x.2.2.1 x.2.2.2))
theorem round21 (K : AExit → ASt → Option R) (next : ASt → Option R) (x : Int × (List Int) × (List Int) × (List Int)) : roundA D (loopAt Tryd.f110 21) K next (S21 x.1 x.2.1 x.2.2.1 x.2.2.2) = (fun (x : Int × (List Int) × (List Int) × (List Int)) (next : (Int × (List Int) × (List Int) × (List Int)) → Option R) (ex : ((Int × (List Int) × (List Int) × (List Int))) → Option R) => P.sha_engine_uint32_block_r21 x.1 x.2.1 x.2.2.1 x.2.2.2 (fun v130 h1_0 h2_0 h4_0 => next (v130, h1_0, h2_0, h4_0)) (fun v130 h1_0 h2_0 h4_0 => ex ((v130, h1_0, h2_0, h4_0)))) x (fun x => next (S21 x.1 x.2.1 x.2.2.1 x.2.2.2)) (E21 K) := by kernel_rfl
theorem lq21 (st : ASt) (K : AExit → ASt → Option R) : L21 st K = vMap (V21 st) (fun x => lp (fun (x : Int × (List Int) × (List Int) × (List Int)) (next : (Int × (List Int) × (List Int) × (List Int)) → Option R) (ex : ((Int × (List Int) × (List Int) × (List Int))) → Option R) => P.sha_engine_uint32_block_r21 x.1 x.2.1 x.2.2.1 x.2.2.2 (fun v130 h1_0 h2_0 h4_0 => next (v130, h1_0, h2_0, h4_0)) (fun v130 h1_0 h2_0 h4_0 => ex ((v130, h1_0, h2_0, h4_0)))) x (E21 K)) := by
  unfold L21
  cases V21 st with
  | none => rfl
  | some x => simp only [P.sha_engine_uint32_block_l21_eq]; rfl
theorem loop21 : LoopOk D (loopAt Tryd.f110 21) := loopOk_lp (X := Int × (List Int) × (List Int) × (List Int)) (Y := (Int × (List Int) × (List Int) × (List Int))) (fun x => S21 x.1 x.2.1 x.2.2.1 x.2.2.2) V21_ok (stp := (fun (x : Int × (List Int) × (List Int) × (List Int)) (next : (Int × (List Int) × (List Int) × (List Int)) → Option R) (ex : ((Int × (List Int) × (List Int) × (List Int))) → Option R) => P.sha_engine_uint32_block_r21 x.1 x.2.1 x.2.2.1 x.2.2.2 (fun v130 h1_0 h2_0 h4_0 => next (v130, h1_0, h2_0, h4_0)) (fun v130 h1_0 h2_0 h4_0 => ex ((v130, h1_0, h2_0, h4_0))))) (enc := E21) (L := L21) (by kernel_rfl) lq21 round21
theorem body (a0_bits : Int) (a0_rounds : Int) (a0_turns_0 : List Int) (a0_turns_1 : List Int) (a0_turns_2 : List Int) (a0_turns_3 : List Int) (a1 : List Int) (a2 : List Int) (K : AVal → Option R) : bodyA D Tryd.f110 [.any] [.agg [.v (.int .i64 a0_bits), .v (.int .i64 a0_rounds), .arr .i64 3 a0_turns_0, .arr .i64 3 a0_turns_1, .arr .i64 3 a0_turns_2, .arr .i64 3 a0_turns_3, .fn (.func 111) [] []], .arr .u32 8 a1, .sl (.ints .u8 a2)] K = P.sha_engine_uint32_block a0_bits a0_rounds a0_turns_0 a0_turns_1 a0_turns_2 a0_turns_3 a1 a2 (fun r0 => K (.arr .u32 8 r0)) := by
  rw [P.sha_engine_uint32_block_eq]
  kernel_rfl
theorem loops : loopsOf (Tryd.f110.body.getD .skip) = [loopAt Tryd.f110 4, loopAt Tryd.f110 10, loopAt Tryd.f110 21] := by kernel_rfl
noncomputable def spec0 : Abs.Spec := fun args K => match args with
  | [.agg [.v (.int .i64 a0_bits), .v (.int .i64 a0_rounds), .arr .i64 3 a0_turns_0, .arr .i64 3 a0_turns_1, .arr .i64 3 a0_turns_2, .arr .i64 3 a0_turns_3, .fn (.func 111) [] []], .arr .u32 8 a1, .sl (.ints .u8 a2)] => P.sha_engine_uint32_block a0_bits a0_rounds a0_turns_0 a0_turns_1 a0_turns_2 a0_turns_3 a1 a2 (fun r0 => K (.arr .u32 8 r0))
  | _ => none
noncomputable def spec : Abs.Spec := fun args K => spec0 (coerL [.any, .any, .sl (.ints .u8 [])] args) K
theorem ok0 : Proved Tryd.prog [(0, [.arr .u32 64 P.roots256]), (1, [.arr .u64 80 P.roots512])] 110 spec0 := by
  refine proved_of (D := D) (fn := Tryd.f110) (c := Tryd.f110.body.getD .skip) [.any] (by kernel_rfl) (globsPlain_of (by kernel_rfl)) (by kernel_rfl) (by kernel_rfl) (by kernel_rfl) ⟨bits_Num.ok, sha_root256.ok, sha_engine_uint32_high.ok, sha_engine_uint32_low.ok, trivial⟩ trivial ?_ ?_
  · rw [loops]; exact ⟨loop4, loop10, loop21, trivial⟩
  · intro args K r h
    unfold spec0 at h
    split at h
    · rw [body]; exact h
    · cases h
theorem ok : Proved Tryd.prog [(0, [.arr .u32 64 P.roots256]), (1, [.arr .u64 80 P.roots512])] 110 spec := proved_coer _ ok0
end sha_engine_uint32_block
end

section
open Go Go.Abs Go.Proofs
set_option maxRecDepth 100000
set_option linter.unusedVariables false
namespace sha_through_uint32
def S3 (v2 : List Int) (v14 : List Int) (v15 : Int) (h0_0 : Int) (h0_1 : Int) (h0_2 : List Int) (h0_3 : List Int) (h0_4 : List Int) (h0_5 : List Int) (h1_0 : List Int) (h2_0 : List Int) (h3_0 : List Int) : ASt := ⟨[(2, .sl (.ints .u8 v2)), (3, .ptr 0 0), (4, .ptr 1 0), (6, .ptr 2 0), (8, .ptr 3 0), (14, .arr .u64 8 v14), (15, .v (.int .i64 v15))], [(0, some ⟨.box 100 [.v (.int .i64 h0_0), .v (.int .i64 h0_1), .arr .i64 3 h0_2, .arr .i64 3 h0_3, .arr .i64 3 h0_4, .arr .i64 3 h0_5, .fn (.func 111) [] []], false⟩), (1, some ⟨.box 23 [.arr .u64 8 h1_0], false⟩), (2, some ⟨.box 23 [.arr .u64 8 h2_0], false⟩), (3, some ⟨.box 158 [.arr .u32 8 h3_0], false⟩)], 4, 52⟩
def V3 : ASt → Option ((List Int) × (List Int) × Int × Int × Int × (List Int) × (List Int) × (List Int) × (List Int) × (List Int) × (List Int) × (List Int))
  | ⟨[(2, .sl (.ints .u8 v2)), (3, .ptr 0 0), (4, .ptr 1 0), (6, .ptr 2 0), (8, .ptr 3 0), (14, .arr .u64 8 v14), (15, .v (.int .i64 v15))], [(0, some ⟨.box 100 [.v (.int .i64 h0_0), .v (.int .i64 h0_1), .arr .i64 3 h0_2, .arr .i64 3 h0_3, .arr .i64 3 h0_4, .arr .i64 3 h0_5, .fn (.func 111) [] []], false⟩), (1, some ⟨.box 23 [.arr .u64 8 h1_0], false⟩), (2, some ⟨.box 23 [.arr .u64 8 h2_0], false⟩), (3, some ⟨.box 158 [.arr .u32 8 h3_0], false⟩)], 4, 52⟩ => some (v2, v14, v15, h0_0, h0_1, h0_2, h0_3, h0_4, h0_5, h1_0, h2_0, h3_0)
  | _ => none
theorem V3_ok (st : ASt) (x : (List Int) × (List Int) × Int × Int × Int × (List Int) × (List Int) × (List Int) × (List Int) × (List Int) × (List Int) × (List Int)) (h : V3 st = some x) : st = S3 x.1 x.2.1 x.2.2.1 x.2.2.2.1 x.2.2.2.2.1 x.2.2.2.2.2.1 x.2.2.2.2.2.2.1 x.2.2.2.2.2.2.2.1 x.2.2.2.2.2.2.2.2.1 x.2.2.2.2.2.2.2.2.2.1 x.2.2.2.2.2.2.2.2.2.2.1 x.2.2.2.2.2.2.2.2.2.2.2 := by
  unfold V3 at h
  split at h
  · cases h; rfl
  · cases h
def S8 (v2 : List Int) (v11 : Int) (h3_0 : List Int) (h2_0 : List Int) (h1_0 : List Int) (h0_0 : Int) (h0_1 : Int) (h0_2 : List Int) (h0_3 : List Int) (h0_4 : List Int) (h0_5 : List Int) : ASt := ⟨[(2, .sl (.ints .u8 v2)), (3, .ptr 0 0), (4, .ptr 1 0), (6, .ptr 2 0), (8, .ptr 3 0), (11, .v (.int .i64 v11))], [(3, some ⟨.box 158 [.arr .u32 8 h3_0], false⟩), (2, some ⟨.box 23 [.arr .u64 8 h2_0], false⟩), (1, some ⟨.box 23 [.arr .u64 8 h1_0], false⟩), (0, some ⟨.box 100 [.v (.int .i64 h0_0), .v (.int .i64 h0_1), .arr .i64 3 h0_2, .arr .i64 3 h0_3, .arr .i64 3 h0_4, .arr .i64 3 h0_5, .fn (.func 111) [] []], false⟩)], 4, 52⟩
def V8 : ASt → Option ((List Int) × Int × (List Int) × (List Int) × (List Int) × Int × Int × (List Int) × (List Int) × (List Int) × (List Int))
  | ⟨[(2, .sl (.ints .u8 v2)), (3, .ptr 0 0), (4, .ptr 1 0), (6, .ptr 2 0), (8, .ptr 3 0), (11, .v (.int .i64 v11))], [(3, some ⟨.box 158 [.arr .u32 8 h3_0], false⟩), (2, some ⟨.box 23 [.arr .u64 8 h2_0], false⟩), (1, some ⟨.box 23 [.arr .u64 8 h1_0], false⟩), (0, some ⟨.box 100 [.v (.int .i64 h0_0), .v (.int .i64 h0_1), .arr .i64 3 h0_2, .arr .i64 3 h0_3, .arr .i64 3 h0_4, .arr .i64 3 h0_5, .fn (.func 111) [] []], false⟩)], 4, 52⟩ => some (v2, v11, h3_0, h2_0, h1_0, h0_0, h0_1, h0_2, h0_3, h0_4, h0_5)
  | _ => none
theorem V8_ok (st : ASt) (x : (List Int) × Int × (List Int) × (List Int) × (List Int) × Int × Int × (List Int) × (List Int) × (List Int) × (List Int)) (h : V8 st = some x) : st = S8 x.1 x.2.1 x.2.2.1 x.2.2.2.1 x.2.2.2.2.1 x.2.2.2.2.2.1 x.2.2.2.2.2.2.1 x.2.2.2.2.2.2.2.1 x.2.2.2.2.2.2.2.2.1 x.2.2.2.2.2.2.2.2.2.1 x.2.2.2.2.2.2.2.2.2.2 := by
  unfold V8 at h
  split at h
  · cases h; rfl
  · cases h
def S12 (v2 : List Int) (v40 : List Int) (v41 : Int) (h1_0 : List Int) (h2_0 : List Int) : ASt := ⟨[(2, .sl (.ints .u8 v2)), (4, .ptr 1 0), (6, .ptr 2 0), (40, .arr .u32 8 v40), (41, .v (.int .i64 v41))], [(1, some ⟨.box 23 [.arr .u64 8 h1_0], false⟩), (2, some ⟨.box 23 [.arr .u64 8 h2_0], false⟩)], 120, 52⟩
def V12 : ASt → Option ((List Int) × (List Int) × Int × (List Int) × (List Int))
  | ⟨[(2, .sl (.ints .u8 v2)), (4, .ptr 1 0), (6, .ptr 2 0), (40, .arr .u32 8 v40), (41, .v (.int .i64 v41))], [(1, some ⟨.box 23 [.arr .u64 8 h1_0], false⟩), (2, some ⟨.box 23 [.arr .u64 8 h2_0], false⟩)], 120, 52⟩ => some (v2, v40, v41, h1_0, h2_0)
  | _ => none
theorem V12_ok (st : ASt) (x : (List Int) × (List Int) × Int × (List Int) × (List Int)) (h : V12 st = some x) : st = S12 x.1 x.2.1 x.2.2.1 x.2.2.2.1 x.2.2.2.2 := by
  unfold V12 at h
  split at h
  · cases h; rfl
  · cases h
noncomputable def L3 : LSpec := fun st K => match V3 st with
  | some x => P.sha_through_uint32_l3 x.1 x.2.1 x.2.2.1 x.2.2.2.1 x.2.2.2.2.1 x.2.2.2.2.2.1 x.2.2.2.2.2.2.1 x.2.2.2.2.2.2.2.1 x.2.2.2.2.2.2.2.2.1 x.2.2.2.2.2.2.2.2.2.1 x.2.2.2.2.2.2.2.2.2.2.1 x.2.2.2.2.2.2.2.2.2.2.2 (fun v2 v14 v15 h0_0 h0_1 h0_2 h0_3 h0_4 h0_5 h1_0 h2_0 h3_0 => K (.exit 0) (S3 v2 v14 v15 h0_0 h0_1 h0_2 h0_3 h0_4 h0_5 h1_0 h2_0 h3_0))
  | none => none
noncomputable def L8 : LSpec := fun st K => match V8 st with
  | some x => P.sha_through_uint32_l8 x.1 x.2.1 x.2.2.1 x.2.2.2.1 x.2.2.2.2.1 x.2.2.2.2.2.1 x.2.2.2.2.2.2.1 x.2.2.2.2.2.2.2.1 x.2.2.2.2.2.2.2.2.1 x.2.2.2.2.2.2.2.2.2.1 x.2.2.2.2.2.2.2.2.2.2 (fun v2 v11 h3_0 h2_0 h1_0 h0_0 h0_1 h0_2 h0_3 h0_4 h0_5 => K (.exit 2) (S8 v2 v11 h3_0 h2_0 h1_0 h0_0 h0_1 h0_2 h0_3 h0_4 h0_5))
  | none => none
noncomputable def L12 : LSpec := fun st K => match V12 st with
  | some x => P.sha_through_uint32_l12 x.1 x.2.1 x.2.2.1 x.2.2.2.1 x.2.2.2.2 (fun v2 v40 v41 h1_0 h2_0 => K (.exit 4) (S12 v2 v40 v41 h1_0 h2_0))
  | none => none
noncomputable def D : Ctx := ({ P := Tryd.prog, G := [(110, sha_engine_uint32_block.spec), (111, sha_root256.spec)], globs := [(0, [.arr .u32 64 P.roots256]), (1, [.arr .u64 80 P.roots512])], hints := [(12, ⟨[2, 4, 6, 40, 41], [], [6, 7], [], some (120, [1, 2]), []⟩), (8, ⟨[2, 3, 4, 6, 8, 11], [], [6, 7], [(2, .sl (.ints .u8 []))], none, []⟩), (3, ⟨[2, 3, 4, 6, 8, 14, 15], [], [6, 7], [], none, []⟩)], loops := [(3, L3), (8, L8), (12, L12)], inl := [] } : Ctx)
def E3 (K : AExit → ASt → Option R) : (((List Int) × (List Int) × Int × Int × Int × (List Int) × (List Int) × (List Int) × (List Int) × (List Int) × (List Int) × (List Int))) → Option R := (fun x => K (.exit 0) (S3 x.1 x.2.1 x.2.2.1 x.2.2.2.1 x.2.2.2.2.1 x.2.2.2.2.2.1 x.2.2.2.2.2.2.1 x.2.2.2.2.2.2.2.1 x.2.2.2.2.2.2.2.2.1 x.2.2.2.2.2.2.2.2.2.1 x.2.2.2.2.2.2.2.2.2.2.1 x.2.2.2.2.2.2.2.2.2.2.2))
theorem round3 (K : AExit → ASt → Option R) (next : ASt → Option R) (x : (List Int) × (List Int) × Int × Int × Int × (List Int) × (List Int) × (List Int) × (List Int) × (List Int) × (List Int) × (List Int)) : roundA D (loopAt Tryd.f60 3) K next (S3 x.1 x.2.1 x.2.2.1 x.2.2.2.1 x.2.2.2.2.1 x.2.2.2.2.2.1 x.2.2.2.2.2.2.1 x.2.2.2.2.2.2.2.1 x.2.2.2.2.2.2.2.2.1 x.2.2.2.2.2.2.2.2.2.1 x.2.2.2.2.2.2.2.2.2.2.1 x.2.2.2.2.2.2.2.2.2.2.2) = (fun (x : (List Int) × (List Int) × Int × Int × Int × (List Int) × (List Int) × (List Int) × (List Int) × (List Int) × (List Int) × (List Int)) (next : ((List Int) × (List Int) × Int × Int × Int × (List Int) × (List Int) × (List Int) × (List Int) × (List Int) × (List Int) × (List Int)) → Option R) (ex : (((List Int) × (List Int) × Int × Int × Int × (List Int) × (List Int) × (List Int) × (List Int) × (List Int) × (List Int) × (List Int))) → Option R) => P.sha_through_uint32_r3 x.1 x.2.1 x.2.2.1 x.2.2.2.1 x.2.2.2.2.1 x.2.2.2.2.2.1 x.2.2.2.2.2.2.1 x.2.2.2.2.2.2.2.1 x.2.2.2.2.2.2.2.2.1 x.2.2.2.2.2.2.2.2.2.1 x.2.2.2.2.2.2.2.2.2.2.1 x.2.2.2.2.2.2.2.2.2.2.2 (fun v2 v14 v15 h0_0 h0_1 h0_2 h0_3 h0_4 h0_5 h1_0 h2_0 h3_0 => next (v2, v14, v15, h0_0, h0_1, h0_2, h0_3, h0_4, h0_5, h1_0, h2_0, h3_0)) (fun v2 v14 v15 h0_0 h0_1 h0_2 h0_3 h0_4 h0_5 h1_0 h2_0 h3_0 => ex ((v2, v14, v15, h0_0, h0_1, h0_2, h0_3, h0_4, h0_5, h1_0, h2_0, h3_0)))) x (fun x => next (S3 x.1 x.2.1 x.2.2.1 x.2.2.2.1 x.2.2.2.2.1 x.2.2.2.2.2.1 x.2.2.2.2.2.2.1 x.2.2.2.2.2.2.2.1 x.2.2.2.2.2.2.2.2.1 x.2.2.2.2.2.2.2.2.2.1 x.2.2.2.2.2.2.2.2.2.2.1 x.2.2.2.2.2.2.2.2.2.2.2)) (E3 K) := by kernel_rfl
theorem lq3 (st : ASt) (K : AExit → ASt → Option R) : L3 st K = vMap (V3 st) (fun x => lp (fun (x : (List Int) × (List Int) × Int × Int × Int × (List Int) × (List Int) × (List Int) × (List Int) × (List Int) × (List Int) × (List Int)) (next : ((List Int) × (List Int) × Int × Int × Int × (List Int) × (List Int) × (List Int) × (List Int) × (List Int) × (List Int) × (List Int)) → Option R) (ex : (((List Int) × (List Int) × Int × Int × Int × (List Int) × (List Int) × (List Int) × (List Int) × (List Int) × (List Int) × (List Int))) → Option R) => P.sha_through_uint32_r3 x.1 x.2.1 x.2.2.1 x.2.2.2.1 x.2.2.2.2.1 x.2.2.2.2.2.1 x.2.2.2.2.2.2.1 x.2.2.2.2.2.2.2.1 x.2.2.2.2.2.2.2.2.1 x.2.2.2.2.2.2.2.2.2.1 x.2.2.2.2.2.2.2.2.2.2.1 x.2.2.2.2.2.2.2.2.2.2.2 (fun v2 v14 v15 h0_0 h0_1 h0_2 h0_3 h0_4 h0_5 h1_0 h2_0 h3_0 => next (v2, v14, v15, h0_0, h0_1, h0_2, h0_3, h0_4, h0_5, h1_0, h2_0, h3_0)) (fun v2 v14 v15 h0_0 h0_1 h0_2 h0_3 h0_4 h0_5 h1_0 h2_0 h3_0 => ex ((v2, v14, v15, h0_0, h0_1, h0_2, h0_3, h0_4, h0_5, h1_0, h2_0, h3_0)))) x (E3 K)) := by
  unfold L3
  cases V3 st with
  | none => rfl
  | some x => simp only [P.sha_through_uint32_l3_eq]; rfl
theorem loop3 : LoopOk D (loopAt Tryd.f60 3) := loopOk_lp (X := (List Int) × (List Int) × Int × Int × Int × (List Int) × (List Int) × (List Int) × (List Int) × (List Int) × (List Int) × (List Int)) (Y := ((List Int) × (List Int) × Int × Int × Int × (List Int) × (List Int) × (List Int) × (List Int) × (List Int) × (List Int) × (List Int))) (fun x => S3 x.1 x.2.1 x.2.2.1 x.2.2.2.1 x.2.2.2.2.1 x.2.2.2.2.2.1 x.2.2.2.2.2.2.1 x.2.2.2.2.2.2.2.1 x.2.2.2.2.2.2.2.2.1 x.2.2.2.2.2.2.2.2.2.1 x.2.2.2.2.2.2.2.2.2.2.1 x.2.2.2.2.2.2.2.2.2.2.2) V3_ok (stp := (fun (x : (List Int) × (List Int) × Int × Int × Int × (List Int) × (List Int) × (List Int) × (List Int) × (List Int) × (List Int) × (List Int)) (next : ((List Int) × (List Int) × Int × Int × Int × (List Int) × (List Int) × (List Int) × (List Int) × (List Int) × (List Int) × (List Int)) → Option R) (ex : (((List Int) × (List Int) × Int × Int × Int × (List Int) × (List Int) × (List Int) × (List Int) × (List Int) × (List Int) × (List Int))) → Option R) => P.sha_through_uint32_r3 x.1 x.2.1 x.2.2.1 x.2.2.2.1 x.2.2.2.2.1 x.2.2.2.2.2.1 x.2.2.2.2.2.2.1 x.2.2.2.2.2.2.2.1 x.2.2.2.2.2.2.2.2.1 x.2.2.2.2.2.2.2.2.2.1 x.2.2.2.2.2.2.2.2.2.2.1 x.2.2.2.2.2.2.2.2.2.2.2 (fun v2 v14 v15 h0_0 h0_1 h0_2 h0_3 h0_4 h0_5 h1_0 h2_0 h3_0 => next (v2, v14, v15, h0_0, h0_1, h0_2, h0_3, h0_4, h0_5, h1_0, h2_0, h3_0)) (fun v2 v14 v15 h0_0 h0_1 h0_2 h0_3 h0_4 h0_5 h1_0 h2_0 h3_0 => ex ((v2, v14, v15, h0_0, h0_1, h0_2, h0_3, h0_4, h0_5, h1_0, h2_0, h3_0))))) (enc := E3) (L := L3) (by kernel_rfl) lq3 round3
def E8 (K : AExit → ASt → Option R) : (((List Int) × Int × (List Int) × (List Int) × (List Int) × Int × Int × (List Int) × (List Int) × (List Int) × (List Int))) → Option R := (fun x => K (.exit 2) (S8 x.1 x.2.1 x.2.2.1 x.2.2.2.1 x.2.2.2.2.1 x.2.2.2.2.2.1 x.2.2.2.2.2.2.1 x.2.2.2.2.2.2.2.1 x.2.2.2.2.2.2.2.2.1 x.2.2.2.2.2.2.2.2.2.1 x.2.2.2.2.2.2.2.2.2.2))
theorem round8 (K : AExit → ASt → Option R) (next : ASt → Option R) (x : (List Int) × Int × (List Int) × (List Int) × (List Int) × Int × Int × (List Int) × (List Int) × (List Int) × (List Int)) : roundA D (loopAt Tryd.f60 8) K next (S8 x.1 x.2.1 x.2.2.1 x.2.2.2.1 x.2.2.2.2.1 x.2.2.2.2.2.1 x.2.2.2.2.2.2.1 x.2.2.2.2.2.2.2.1 x.2.2.2.2.2.2.2.2.1 x.2.2.2.2.2.2.2.2.2.1 x.2.2.2.2.2.2.2.2.2.2) = (fun (x : (List Int) × Int × (List Int) × (List Int) × (List Int) × Int × Int × (List Int) × (List Int) × (List Int) × (List Int)) (next : ((List Int) × Int × (List Int) × (List Int) × (List Int) × Int × Int × (List Int) × (List Int) × (List Int) × (List Int)) → Option R) (ex : (((List Int) × Int × (List Int) × (List Int) × (List Int) × Int × Int × (List Int) × (List Int) × (List Int) × (List Int))) → Option R) => P.sha_through_uint32_r8 x.1 x.2.1 x.2.2.1 x.2.2.2.1 x.2.2.2.2.1 x.2.2.2.2.2.1 x.2.2.2.2.2.2.1 x.2.2.2.2.2.2.2.1 x.2.2.2.2.2.2.2.2.1 x.2.2.2.2.2.2.2.2.2.1 x.2.2.2.2.2.2.2.2.2.2 (fun v2 v11 h3_0 h2_0 h1_0 h0_0 h0_1 h0_2 h0_3 h0_4 h0_5 => next (v2, v11, h3_0, h2_0, h1_0, h0_0, h0_1, h0_2, h0_3, h0_4, h0_5)) (fun v2 v11 h3_0 h2_0 h1_0 h0_0 h0_1 h0_2 h0_3 h0_4 h0_5 => ex ((v2, v11, h3_0, h2_0, h1_0, h0_0, h0_1, h0_2, h0_3, h0_4, h0_5)))) x (fun x => next (S8 x.1 x.2.1 x.2.2.1 x.2.2.2.1 x.2.2.2.2.1 x.2.2.2.2.2.1 x.2.2.2.2.2.2.1 x.2.2.2.2.2.2.2.1 x.2.2.2.2.2.2.2.2.1 x.2.2.2.2.2.2.2.2.2.1 x.2.2.2.2.2.2.2.2.2.2)) (E8 K) := by kernel_rfl
theorem lq8 (st : ASt) (K : AExit → ASt → Option R) : L8 st K = vMap (V8 st) (fun x => lp (fun (x : (List Int) × Int × (List Int) × (List Int) × (List Int) × Int × Int × (List Int) × (List Int) × (List Int) × (List Int)) (next : ((List Int) × Int × (List Int) × (List Int) × (List Int) × Int × Int × (List Int) × (List Int) × (List Int) × (List Int)) → Option R) (ex : (((List Int) × Int × (List Int) × (List Int) × (List Int) × Int × Int × (List Int) × (List Int) × (List Int) × (List Int))) → Option R) => P.sha_through_uint32_r8 x.1 x.2.1 x.2.2.1 x.2.2.2.1 x.2.2.2.2.1 x.2.2.2.2.2.1 x.2.2.2.2.2.2.1 x.2.2.2.2.2.2.2.1 x.2.2.2.2.2.2.2.2.1 x.2.2.2.2.2.2.2.2.2.1 x.2.2.2.2.2.2.2.2.2.2 (fun v2 v11 h3_0 h2_0 h1_0 h0_0 h0_1 h0_2 h0_3 h0_4 h0_5 => next (v2, v11, h3_0, h2_0, h1_0, h0_0, h0_1, h0_2, h0_3, h0_4, h0_5)) (fun v2 v11 h3_0 h2_0 h1_0 h0_0 h0_1 h0_2 h0_3 h0_4 h0_5 => ex ((v2, v11, h3_0, h2_0, h1_0, h0_0, h0_1, h0_2, h0_3, h0_4, h0_5)))) x (E8 K)) := by
  unfold L8
  cases V8 st with
  | none => rfl
  | some x => simp only [P.sha_through_uint32_l8_eq]; rfl
theorem loop8 : LoopOk D (loopAt Tryd.f60 8) := loopOk_lp (X := (List Int) × Int × (List Int) × (List Int) × (List Int) × Int × Int × (List Int) × (List Int) × (List Int) × (List Int)) (Y := ((List Int) × Int × (List Int) × (List Int) × (List Int) × Int × Int × (List Int) × (List Int) × (List Int) × (List Int))) (fun x => S8 x.1 x.2.1 x.2.2.1 x.2.2.2.1 x.2.2.2.2.1 x.2.2.2.2.2.1 x.2.2.2.2.2.2.1 x.2.2.2.2.2.2.2.1 x.2.2.2.2.2.2.2.2.1 x.2.2.2.2.2.2.2.2.2.1 x.2.2.2.2.2.2.2.2.2.2) V8_ok (stp := (fun (x : (List Int) × Int × (List Int) × (List Int) × (List Int) × Int × Int × (List Int) × (List Int) × (List Int) × (List Int)) (next : ((List Int) × Int × (List Int) × (List Int) × (List Int) × Int × Int × (List Int) × (List Int) × (List Int) × (List Int)) → Option R) (ex : (((List Int) × Int × (List Int) × (List Int) × (List Int) × Int × Int × (List Int) × (List Int) × (List Int) × (List Int))) → Option R) => P.sha_through_uint32_r8 x.1 x.2.1 x.2.2.1 x.2.2.2.1 x.2.2.2.2.1 x.2.2.2.2.2.1 x.2.2.2.2.2.2.1 x.2.2.2.2.2.2.2.1 x.2.2.2.2.2.2.2.2.1 x.2.2.2.2.2.2.2.2.2.1 x.2.2.2.2.2.2.2.2.2.2 (fun v2 v11 h3_0 h2_0 h1_0 h0_0 h0_1 h0_2 h0_3 h0_4 h0_5 => next (v2, v11, h3_0, h2_0, h1_0, h0_0, h0_1, h0_2, h0_3, h0_4, h0_5)) (fun v2 v11 h3_0 h2_0 h1_0 h0_0 h0_1 h0_2 h0_3 h0_4 h0_5 => ex ((v2, v11, h3_0, h2_0, h1_0, h0_0, h0_1, h0_2, h0_3, h0_4, h0_5))))) (enc := E8) (L := L8) (by kernel_rfl) lq8 round8
def E12 (K : AExit → ASt → Option R) : (((List Int) × (List Int) × Int × (List Int) × (List Int))) → Option R := (fun x => K (.exit 4) (S12 x.1 x.2.1 x.2.2.1 x.2.2.2.1 x.2.2.2.2))
theorem round12 (K : AExit → ASt → Option R) (next : ASt → Option R) (x : (List Int) × (List Int) × Int × (List Int) × (List Int)) : roundA D (loopAt Tryd.f60 12) K next (S12 x.1 x.2.1 x.2.2.1 x.2.2.2.1 x.2.2.2.2) = (fun (x : (List Int) × (List Int) × Int × (List Int) × (List Int)) (next : ((List Int) × (List Int) × Int × (List Int) × (List Int)) → Option R) (ex : (((List Int) × (List Int) × Int × (List Int) × (List Int))) → Option R) => P.sha_through_uint32_r12 x.1 x.2.1 x.2.2.1 x.2.2.2.1 x.2.2.2.2 (fun v2 v40 v41 h1_0 h2_0 => next (v2, v40, v41, h1_0, h2_0)) (fun v2 v40 v41 h1_0 h2_0 => ex ((v2, v40, v41, h1_0, h2_0)))) x (fun x => next (S12 x.1 x.2.1 x.2.2.1 x.2.2.2.1 x.2.2.2.2)) (E12 K) := by kernel_rfl
theorem lq12 (st : ASt) (K : AExit → ASt → Option R) : L12 st K = vMap (V12 st) (fun x => lp (fun (x : (List Int) × (List Int) × Int × (List Int) × (List Int)) (next : ((List Int) × (List Int) × Int × (List Int) × (List Int)) → Option R) (ex : (((List Int) × (List Int) × Int × (List Int) × (List Int))) → Option R) => P.sha_through_uint32_r12 x.1 x.2.1 x.2.2.1 x.2.2.2.1 x.2.2.2.2 (fun v2 v40 v41 h1_0 h2_0 => next (v2, v40, v41, h1_0, h2_0)) (fun v2 v40 v41 h1_0 h2_0 => ex ((v2, v40, v41, h1_0, h2_0)))) x (E12 K)) := by
  unfold L12
  cases V12 st with
  | none => rfl
  | some x => simp only [P.sha_through_uint32_l12_eq]; rfl
theorem loop12 : LoopOk D (loopAt Tryd.f60 12) := loopOk_lp (X := (List Int) × (List Int) × Int × (List Int) × (List Int)) (Y := ((List Int) × (List Int) × Int × (List Int) × (List Int))) (fun x => S12 x.1 x.2.1 x.2.2.1 x.2.2.2.1 x.2.2.2.2) V12_ok (stp := (fun (x : (List Int) × (List Int) × Int × (List Int) × (List Int)) (next : ((List Int) × (List Int) × Int × (List Int) × (List Int)) → Option R) (ex : (((List Int) × (List Int) × Int × (List Int) × (List Int))) → Option R) => P.sha_through_uint32_r12 x.1 x.2.1 x.2.2.1 x.2.2.2.1 x.2.2.2.2 (fun v2 v40 v41 h1_0 h2_0 => next (v2, v40, v41, h1_0, h2_0)) (fun v2 v40 v41 h1_0 h2_0 => ex ((v2, v40, v41, h1_0, h2_0))))) (enc := E12) (L := L12) (by kernel_rfl) lq12 round12
theorem body (a0_bits : Int) (a0_rounds : Int) (a0_turns_0 : List Int) (a0_turns_1 : List Int) (a0_turns_2 : List Int) (a0_turns_3 : List Int) (a1 : List Int) (a2 : List Int) (K : AVal → Option R) : bodyA D Tryd.f60 [.any, .sl (.ints .u8 [])] [.agg [.v (.int .i64 a0_bits), .v (.int .i64 a0_rounds), .arr .i64 3 a0_turns_0, .arr .i64 3 a0_turns_1, .arr .i64 3 a0_turns_2, .arr .i64 3 a0_turns_3, .fn (.func 111) [] []], .arr .u64 8 a1, .sl (.ints .u8 a2)] K = P.sha_through_uint32 a0_bits a0_rounds a0_turns_0 a0_turns_1 a0_turns_2 a0_turns_3 a1 a2 (fun r0 r1 => K (.tuple [.arr .u64 8 r0, .sl (.ints .u8 r1)])) := by
  rw [P.sha_through_uint32_eq]
  kernel_rfl
theorem loops : loopsOf (Tryd.f60.body.getD .skip) = [loopAt Tryd.f60 3, loopAt Tryd.f60 8, loopAt Tryd.f60 12] := by kernel_rfl
noncomputable def spec0 : Abs.Spec := fun args K => match args with
  | [.agg [.v (.int .i64 a0_bits), .v (.int .i64 a0_rounds), .arr .i64 3 a0_turns_0, .arr .i64 3 a0_turns_1, .arr .i64 3 a0_turns_2, .arr .i64 3 a0_turns_3, .fn (.func 111) [] []], .arr .u64 8 a1, .sl (.ints .u8 a2)] => P.sha_through_uint32 a0_bits a0_rounds a0_turns_0 a0_turns_1 a0_turns_2 a0_turns_3 a1 a2 (fun r0 r1 => K (.tuple [.arr .u64 8 r0, .sl (.ints .u8 r1)]))
  | _ => none
noncomputable def spec : Abs.Spec := fun args K => spec0 (coerL [.any, .any, .sl (.ints .u8 [])] args) K
theorem ok0 : Proved Tryd.prog [(0, [.arr .u32 64 P.roots256]), (1, [.arr .u64 80 P.roots512])] 60 spec0 := by
  refine proved_of (D := D) (fn := Tryd.f60) (c := Tryd.f60.body.getD .skip) [.any, .sl (.ints .u8 [])] (by kernel_rfl) (globsPlain_of (by kernel_rfl)) (by kernel_rfl) (by kernel_rfl) (by kernel_rfl) ⟨sha_engine_uint32_block.ok, sha_root256.ok, trivial⟩ trivial ?_ ?_
  · rw [loops]; exact ⟨loop3, loop8, loop12, trivial⟩
  · intro args K r h
    unfold spec0 at h
    split at h
    · rw [body]; exact h
    · cases h
theorem ok : Proved Tryd.prog [(0, [.arr .u32 64 P.roots256]), (1, [.arr .u64 80 P.roots512])] 60 spec := proved_coer _ ok0
end sha_through_uint32
end

section
open Go Go.Abs Go.Proofs
set_option maxRecDepth 100000
set_option linter.unusedVariables false
namespace sha_engine_uint64_rotated
noncomputable def D : Ctx := ({ P := Tryd.prog, G := [(113, sha_root512.spec)], globs := [(0, [.arr .u32 64 P.roots256]), (1, [.arr .u64 80 P.roots512])], hints := [], loops := [], inl := [] } : Ctx)
theorem body (a0_bits : Int) (a0_rounds : Int) (a0_turns_0 : List Int) (a0_turns_1 : List Int) (a0_turns_2 : List Int) (a0_turns_3 : List Int) (a1 : Int) (a2 : Int) (K : AVal → Option R) : bodyA D Tryd.f139 [.any] [.agg [.v (.int .i64 a0_bits), .v (.int .i64 a0_rounds), .arr .i64 3 a0_turns_0, .arr .i64 3 a0_turns_1, .arr .i64 3 a0_turns_2, .arr .i64 3 a0_turns_3, .fn (.func 113) [] []], .v (.int .u64 a1), .v (.int .i64 a2)] K = P.sha_engine_uint64_rotated a0_bits a0_rounds a0_turns_0 a0_turns_1 a0_turns_2 a0_turns_3 a1 a2 (fun r0 => K (.v (.int .u64 r0))) := by
  rw [P.sha_engine_uint64_rotated_eq]
  kernel_rfl
theorem loops : loopsOf (Tryd.f139.body.getD .skip) = [] := by kernel_rfl
noncomputable def spec0 : Abs.Spec := fun args K => match args with
  | [.agg [.v (.int .i64 a0_bits), .v (.int .i64 a0_rounds), .arr .i64 3 a0_turns_0, .arr .i64 3 a0_turns_1, .arr .i64 3 a0_turns_2, .arr .i64 3 a0_turns_3, .fn (.func 113) [] []], .v (.int .u64 a1), .v (.int .i64 a2)] => P.sha_engine_uint64_rotated a0_bits a0_rounds a0_turns_0 a0_turns_1 a0_turns_2 a0_turns_3 a1 a2 (fun r0 => K (.v (.int .u64 r0)))
  | _ => none
noncomputable def spec : Abs.Spec := spec0
theorem ok0 : Proved Tryd.prog [(0, [.arr .u32 64 P.roots256]), (1, [.arr .u64 80 P.roots512])] 139 spec0 := by
  refine proved_of (D := D) (fn := Tryd.f139) (c := Tryd.f139.body.getD .skip) [.any] (by kernel_rfl) (globsPlain_of (by kernel_rfl)) (by kernel_rfl) (by kernel_rfl) (by kernel_rfl) ⟨sha_root512.ok, trivial⟩ trivial ?_ ?_
  · rw [loops]; exact trivial
  · intro args K r h
    unfold spec0 at h
    split at h
    · rw [body]; exact h
    · cases h
theorem ok : Proved Tryd.prog [(0, [.arr .u32 64 P.roots256]), (1, [.arr .u64 80 P.roots512])] 139 spec := ok0
end sha_engine_uint64_rotated
end

section
open Go Go.Abs Go.Proofs
set_option maxRecDepth 100000
set_option linter.unusedVariables false
namespace sha_engine_uint64_high
noncomputable def D : Ctx := ({ P := Tryd.prog, G := [(113, sha_root512.spec), (139, sha_engine_uint64_rotated.spec)], globs := [(0, [.arr .u32 64 P.roots256]), (1, [.arr .u64 80 P.roots512])], hints := [], loops := [], inl := [] } : Ctx)
theorem body (a0_bits : Int) (a0_rounds : Int) (a0_turns_0 : List Int) (a0_turns_1 : List Int) (a0_turns_2 : List Int) (a0_turns_3 : List Int) (a1 : Int) (a2 : Int) (K : AVal → Option R) : bodyA D Tryd.f132 [.any] [.agg [.v (.int .i64 a0_bits), .v (.int .i64 a0_rounds), .arr .i64 3 a0_turns_0, .arr .i64 3 a0_turns_1, .arr .i64 3 a0_turns_2, .arr .i64 3 a0_turns_3, .fn (.func 113) [] []], .v (.int .u64 a1), .v (.int .i64 a2)] K = P.sha_engine_uint64_high a0_bits a0_rounds a0_turns_0 a0_turns_1 a0_turns_2 a0_turns_3 a1 a2 (fun r0 => K (.v (.int .u64 r0))) := by
  rw [P.sha_engine_uint64_high_eq]
  kernel_rfl
theorem loops : loopsOf (Tryd.f132.body.getD .skip) = [] := by kernel_rfl
noncomputable def spec0 : Abs.Spec := fun args K => match args with
  | [.agg [.v (.int .i64 a0_bits), .v (.int .i64 a0_rounds), .arr .i64 3 a0_turns_0, .arr .i64 3 a0_turns_1, .arr .i64 3 a0_turns_2, .arr .i64 3 a0_turns_3, .fn (.func 113) [] []], .v (.int .u64 a1), .v (.int .i64 a2)] => P.sha_engine_uint64_high a0_bits a0_rounds a0_turns_0 a0_turns_1 a0_turns_2 a0_turns_3 a1 a2 (fun r0 => K (.v (.int .u64 r0)))
  | _ => none
noncomputable def spec : Abs.Spec := spec0
theorem ok0 : Proved Tryd.prog [(0, [.arr .u32 64 P.roots256]), (1, [.arr .u64 80 P.roots512])] 132 spec0 := by
  refine proved_of (D := D) (fn := Tryd.f132) (c := Tryd.f132.body.getD .skip) [.any] (by kernel_rfl) (globsPlain_of (by kernel_rfl)) (by kernel_rfl) (by kernel_rfl) (by kernel_rfl) ⟨sha_root512.ok, sha_engine_uint64_rotated.ok, trivial⟩ trivial ?_ ?_
  · rw [loops]; exact trivial
  · intro args K r h
    unfold spec0 at h
    split at h
    · rw [body]; exact h
    · cases h
theorem ok : Proved Tryd.prog [(0, [.arr .u32 64 P.roots256]), (1, [.arr .u64 80 P.roots512])] 132 spec := ok0
end sha_engine_uint64_high
end

section
open Go Go.Abs Go.Proofs
set_option maxRecDepth 100000
set_option linter.unusedVariables false
namespace sha_engine_uint64_low
noncomputable def D : Ctx := ({ P := Tryd.prog, G := [(113, sha_root512.spec), (139, sha_engine_uint64_rotated.spec)], globs := [(0, [.arr .u32 64 P.roots256]), (1, [.arr .u64 80 P.roots512])], hints := [], loops := [], inl := [] } : Ctx)
theorem body (a0_bits : Int) (a0_rounds : Int) (a0_turns_0 : List Int) (a0_turns_1 : List Int) (a0_turns_2 : List Int) (a0_turns_3 : List Int) (a1 : Int) (a2 : Int) (K : AVal → Option R) : bodyA D Tryd.f133 [.any] [.agg [.v (.int .i64 a0_bits), .v (.int .i64 a0_rounds), .arr .i64 3 a0_turns_0, .arr .i64 3 a0_turns_1, .arr .i64 3 a0_turns_2, .arr .i64 3 a0_turns_3, .fn (.func 113) [] []], .v (.int .u64 a1), .v (.int .i64 a2)] K = P.sha_engine_uint64_low a0_bits a0_rounds a0_turns_0 a0_turns_1 a0_turns_2 a0_turns_3 a1 a2 (fun r0 => K (.v (.int .u64 r0))) := by
  rw [P.sha_engine_uint64_low_eq]
  kernel_rfl
theorem loops : loopsOf (Tryd.f133.body.getD .skip) = [] := by kernel_rfl
noncomputable def spec0 : Abs.Spec := fun args K => match args with
  | [.agg [.v (.int .i64 a0_bits), .v (.int .i64 a0_rounds), .arr .i64 3 a0_turns_0, .arr .i64 3 a0_turns_1, .arr .i64 3 a0_turns_2, .arr .i64 3 a0_turns_3, .fn (.func 113) [] []], .v (.int .u64 a1), .v (.int .i64 a2)] => P.sha_engine_uint64_low a0_bits a0_rounds a0_turns_0 a0_turns_1 a0_turns_2 a0_turns_3 a1 a2 (fun r0 => K (.v (.int .u64 r0)))
  | _ => none
noncomputable def spec : Abs.Spec := spec0
theorem ok0 : Proved Tryd.prog [(0, [.arr .u32 64 P.roots256]), (1, [.arr .u64 80 P.roots512])] 133 spec0 := by
  refine proved_of (D := D) (fn := Tryd.f133) (c := Tryd.f133.body.getD .skip) [.any] (by kernel_rfl) (globsPlain_of (by kernel_rfl)) (by kernel_rfl) (by kernel_rfl) (by kernel_rfl) ⟨sha_root512.ok, sha_engine_uint64_rotated.ok, trivial⟩ trivial ?_ ?_
  · rw [loops]; exact trivial
  · intro args K r h
    unfold spec0 at h
    split at h
    · rw [body]; exact h
    · cases h
theorem ok : Proved Tryd.prog [(0, [.arr .u32 64 P.roots256]), (1, [.arr .u64 80 P.roots512])] 133 spec := ok0
end sha_engine_uint64_low
end

section
open Go Go.Abs Go.Proofs
set_option maxRecDepth 100000
set_option linter.unusedVariables false
namespace sha_engine_uint64_block
def S4 (v2 : List Int) (v8 : Int) (v19 : Int) (h0_0 : Int) (h0_1 : Int) (h0_2 : List Int) (h0_3 : List Int) (h0_4 : List Int) (h0_5 : List Int) (h1_0 : List Int) (h2_0 : List Int) (h3_0 : List Int) : ASt := ⟨[(2, .sl (.ints .u8 v2)), (3, .ptr 0 0), (4, .ptr 1 0), (6, .ptr 2 0), (7, .ptr 3 0), (8, .v (.int .i64 v8)), (19, .v (.int .i64 v19))], [(0, some ⟨.box 105 [.v (.int .i64 h0_0), .v (.int .i64 h0_1), .arr .i64 3 h0_2, .arr .i64 3 h0_3, .arr .i64 3 h0_4, .arr .i64 3 h0_5, .fn (.func 113) [] []], false⟩), (1, some ⟨.box 23 [.arr .u64 8 h1_0], false⟩), (2, some ⟨.box 23 [.arr .u64 8 h2_0], false⟩), (3, some ⟨.box 178 [.arr .u64 16 h3_0], false⟩)], 4, 142⟩
def V4 : ASt → Option ((List Int) × Int × Int × Int × Int × (List Int) × (List Int) × (List Int) × (List Int) × (List Int) × (List Int) × (List Int))
  | ⟨[(2, .sl (.ints .u8 v2)), (3, .ptr 0 0), (4, .ptr 1 0), (6, .ptr 2 0), (7, .ptr 3 0), (8, .v (.int .i64 v8)), (19, .v (.int .i64 v19))], [(0, some ⟨.box 105 [.v (.int .i64 h0_0), .v (.int .i64 h0_1), .arr .i64 3 h0_2, .arr .i64 3 h0_3, .arr .i64 3 h0_4, .arr .i64 3 h0_5, .fn (.func 113) [] []], false⟩), (1, some ⟨.box 23 [.arr .u64 8 h1_0], false⟩), (2, some ⟨.box 23 [.arr .u64 8 h2_0], false⟩), (3, some ⟨.box 178 [.arr .u64 16 h3_0], false⟩)], 4, 142⟩ => some (v2, v8, v19, h0_0, h0_1, h0_2, h0_3, h0_4, h0_5, h1_0, h2_0, h3_0)
  | _ => none
theorem V4_ok (st : ASt) (x : (List Int) × Int × Int × Int × Int × (List Int) × (List Int) × (List Int) × (List Int) × (List Int) × (List Int) × (List Int)) (h : V4 st = some x) : st = S4 x.1 x.2.1 x.2.2.1 x.2.2.2.1 x.2.2.2.2.1 x.2.2.2.2.2.1 x.2.2.2.2.2.2.1 x.2.2.2.2.2.2.2.1 x.2.2.2.2.2.2.2.2.1 x.2.2.2.2.2.2.2.2.2.1 x.2.2.2.2.2.2.2.2.2.2.1 x.2.2.2.2.2.2.2.2.2.2.2 := by
  unfold V4 at h
  split at h
  · cases h; rfl
  · cases h
def S10 (v37 : Int) (v38 : Int) (h3_0 : List Int) (h2_0 : List Int) (h1_0 : List Int) (h0_0 : Int) (h0_1 : Int) (h0_2 : List Int) (h0_3 : List Int) (h0_4 : List Int) (h0_5 : List Int) (h4_0 : List Int) : ASt := ⟨[(3, .ptr 0 0), (4, .ptr 1 0), (6, .ptr 2 0), (7, .ptr 3 0), (10, .ptr 4 0), (37, .v (.int .i64 v37)), (38, .v (.int .i64 v38))], [(3, some ⟨.box 178 [.arr .u64 16 h3_0], false⟩), (2, some ⟨.box 23 [.arr .u64 8 h2_0], false⟩), (1, some ⟨.box 23 [.arr .u64 8 h1_0], false⟩), (0, some ⟨.box 105 [.v (.int .i64 h0_0), .v (.int .i64 h0_1), .arr .i64 3 h0_2, .arr .i64 3 h0_3, .arr .i64 3 h0_4, .arr .i64 3 h0_5, .fn (.func 113) [] []], false⟩), (4, some ⟨.box 23 [.arr .u64 8 h4_0], false⟩)], 5, 142⟩
def V10 : ASt → Option (Int × Int × (List Int) × (List Int) × (List Int) × Int × Int × (List Int) × (List Int) × (List Int) × (List Int) × (List Int))
  | ⟨[(3, .ptr 0 0), (4, .ptr 1 0), (6, .ptr 2 0), (7, .ptr 3 0), (10, .ptr 4 0), (37, .v (.int .i64 v37)), (38, .v (.int .i64 v38))], [(3, some ⟨.box 178 [.arr .u64 16 h3_0], false⟩), (2, some ⟨.box 23 [.arr .u64 8 h2_0], false⟩), (1, some ⟨.box 23 [.arr .u64 8 h1_0], false⟩), (0, some ⟨.box 105 [.v (.int .i64 h0_0), .v (.int .i64 h0_1), .arr .i64 3 h0_2, .arr .i64 3 h0_3, .arr .i64 3 h0_4, .arr .i64 3 h0_5, .fn (.func 113) [] []], false⟩), (4, some ⟨.box 23 [.arr .u64 8 h4_0], false⟩)], 5, 142⟩ => some (v37, v38, h3_0, h2_0, h1_0, h0_0, h0_1, h0_2, h0_3, h0_4, h0_5, h4_0)
  | _ => none
theorem V10_ok (st : ASt) (x : Int × Int × (List Int) × (List Int) × (List Int) × Int × Int × (List Int) × (List Int) × (List Int) × (List Int) × (List Int)) (h : V10 st = some x) : st = S10 x.1 x.2.1 x.2.2.1 x.2.2.2.1 x.2.2.2.2.1 x.2.2.2.2.2.1 x.2.2.2.2.2.2.1 x.2.2.2.2.2.2.2.1 x.2.2.2.2.2.2.2.2.1 x.2.2.2.2.2.2.2.2.2.1 x.2.2.2.2.2.2.2.2.2.2.1 x.2.2.2.2.2.2.2.2.2.2.2 := by
  unfold V10 at h
  split at h
  · cases h; rfl
  · cases h
def S21 (v129 : Int) (h1_0 : List Int) (h2_0 : List Int) (h4_0 : List Int) : ASt := ⟨[(4, .ptr 1 0), (6, .ptr 2 0), (10, .ptr 4 0), (129, .v (.int .i64 v129))], [(1, some ⟨.box 23 [.arr .u64 8 h1_0], false⟩), (2, some ⟨.box 23 [.arr .u64 8 h2_0], false⟩), (4, some ⟨.box 23 [.arr .u64 8 h4_0], false⟩)], 120, 142⟩
def V21 : ASt → Option (Int × (List Int) × (List Int) × (List Int))
  | ⟨[(4, .ptr 1 0), (6, .ptr 2 0), (10, .ptr 4 0), (129, .v (.int .i64 v129))], [(1, some ⟨.box 23 [.arr .u64 8 h1_0], false⟩), (2, some ⟨.box 23 [.arr .u64 8 h2_0], false⟩), (4, some ⟨.box 23 [.arr .u64 8 h4_0], false⟩)], 120, 142⟩ => some (v129, h1_0, h2_0, h4_0)
  | _ => none
theorem V21_ok (st : ASt) (x : Int × (List Int) × (List Int) × (List Int)) (h : V21 st = some x) : st = S21 x.1 x.2.1 x.2.2.1 x.2.2.2 := by
  unfold V21 at h
  split at h
  · cases h; rfl
  · cases h
noncomputable def L4 : LSpec := fun st K => match V4 st with
  | some x => P.sha_engine_uint64_block_l4 x.1 x.2.1 x.2.2.1 x.2.2.2.1 x.2.2.2.2.1 x.2.2.2.2.2.1 x.2.2.2.2.2.2.1 x.2.2.2.2.2.2.2.1 x.2.2.2.2.2.2.2.2.1 x.2.2.2.2.2.2.2.2.2.1 x.2.2.2.2.2.2.2.2.2.2.1 x.2.2.2.2.2.2.2.2.2.2.2 (fun v2 v8 v19 h0_0 h0_1 h0_2 h0_3 h0_4 h0_5 h1_0 h2_0 h3_0 => K (.exit 0) (S4 v2 v8 v19 h0_0 h0_1 h0_2 h0_3 h0_4 h0_5 h1_0 h2_0 h3_0))
  | none => none
noncomputable def L10 : LSpec := fun st K => match V10 st with
  | some x => P.sha_engine_uint64_block_l10 x.1 x.2.1 x.2.2.1 x.2.2.2.1 x.2.2.2.2.1 x.2.2.2.2.2.1 x.2.2.2.2.2.2.1 x.2.2.2.2.2.2.2.1 x.2.2.2.2.2.2.2.2.1 x.2.2.2.2.2.2.2.2.2.1 x.2.2.2.2.2.2.2.2.2.2.1 x.2.2.2.2.2.2.2.2.2.2.2 (fun v37 v38 h3_0 h2_0 h1_0 h0_0 h0_1 h0_2 h0_3 h0_4 h0_5 h4_0 => K (.exit 2) (S10 v37 v38 h3_0 h2_0 h1_0 h0_0 h0_1 h0_2 h0_3 h0_4 h0_5 h4_0))
  | none => none
noncomputable def L21 : LSpec := fun st K => match V21 st with
  | some x => P.sha_engine_uint64_block_l21 x.1 x.2.1 x.2.2.1 x.2.2.2 (fun v129 h1_0 h2_0 h4_0 => K (.exit 4) (S21 v129 h1_0 h2_0 h4_0))
  | none => none
noncomputable def D : Ctx := ({ P := Tryd.prog, G := [(75, bits_Num.spec), (113, sha_root512.spec), (132, sha_engine_uint64_high.spec), (133, sha_engine_uint64_low.spec)], globs := [(0, [.arr .u32 64 P.roots256]), (1, [.arr .u64 80 P.roots512])], hints := [(21, ⟨[4, 6, 10, 129], [], [6], [], some (120, [1, 2, 4]), []⟩), (10, ⟨[3, 4, 6, 7, 10, 37, 38], [], [6], [], none, []⟩), (4, ⟨[2, 3, 4, 6, 7, 8, 19], [], [6], [], none, []⟩)], loops := [(4, L4), (10, L10), (21, L21)], inl := [] } : Ctx)
def E4 (K : AExit → ASt → Option R) : (((List Int) × Int × Int × Int × Int × (List Int) × (List Int) × (List Int) × (List Int) × (List Int) × (List Int) × (List Int))) → Option R := (fun x => K (.exit 0) (S4 x.1 x.2.1 x.2.2.1 x.2.2.2.1 x.2.2.2.2.1 x.2.2.2.2.2.1 x.2.2.2.2.2.2.1 x.2.2.2.2.2.2.2.1 x.2.2.2.2.2.2.2.2.1 x.2.2.2.2.2.2.2.2.2.1 x.2.2.2.2.2.2.2.2.2.2.1 x.2.2.2.2.2.2.2.2.2.2.2))
theorem round4 (K : AExit → ASt → Option R) (next : ASt → Option R) (x : (List Int) × Int × Int × Int × Int × (List Int) × (List Int) × (List Int) × (List Int) × (List Int) × (List Int) × (List Int)) : roundA D (loopAt Tryd.f112 4) K next (S4 x.1 x.2.1 x.2.2.1 x.2.2.2.1 x.2.2.2.2.1 x.2.2.2.2.2.1 x.2.2.2.2.2.2.1 x.2.2.2.2.2.2.2.1 x.2.2.2.2.2.2.2.2.1 x.2.2.2.2.2.2.2.2.2.1 x.2.2.2.2.2.2.2.2.2.2.1 x.2.2.2.2.2.2.2.2.2.2.2) = (fun (x : (List Int) × Int × Int × Int × Int × (List Int) × (List Int) × (List Int) × (List Int) × (List Int) × (List Int) × (List Int)) (next : ((List Int) × Int × Int × Int × Int × (List Int) × (List Int) × (List Int) × (List Int) × (List Int) × (List Int) × (List Int)) → Option R) (ex : (((List Int) × Int × Int × Int × Int × (List Int) × (List Int) × (List Int) × (List Int) × (List Int) × (List Int) × (List Int))) → Option R) => P.sha_engine_uint64_block_r4 x.1 x.2.1 x.2.2.1 x.2.2.2.1 x.2.2.2.2.1 x.2.2.2.2.2.1 x.2.2.2.2.2.2.1 x.2.2.2.2.2.2.2.1 x.2.2.2.2.2.2.2.2.1 x.2.2.2.2.2.2.2.2.2.1 x.2.2.2.2.2.2.2.2.2.2.1 x.2.2.2.2.2.2.2.2.2.2.2 (fun v2 v8 v19 h0_0 h0_1 h0_2 h0_3 h0_4 h0_5 h1_0 h2_0 h3_0 => next (v2, v8, v19, h0_0, h0_1, h0_2, h0_3, h0_4, h0_5, h1_0, h2_0, h3_0)) (fun v2 v8 v19 h0_0 h0_1 h0_2 h0_3 h0_4 h0_5 h1_0 h2_0 h3_0 => ex ((v2, v8, v19, h0_0, h0_1, h0_2, h0_3, h0_4, h0_5, h1_0, h2_0, h3_0)))) x (fun x => next (S4 x.1 x.2.1 x.2.2.1 x.2.2.2.1 x.2.2.2.2.1 x.2.2.2.2.2.1 x.2.2.2.2.2.2.1 x.2.2.2.2.2.2.2.1 x.2.2.2.2.2.2.2.2.1 x.2.2.2.2.2.2.2.2.2.1 x.2.2.2.2.2.2.2.2.2.2.1 x.2.2.2.2.2.2.2.2.2.2.2)) (E4 K) := by kernel_rfl
theorem lq4 (st : ASt) (K : AExit → ASt → Option R) : L4 st K = vMap (V4 st) (fun x => lp (fun (x : (List Int) × Int × Int × Int × Int × (List Int) × (List Int) × (List Int) × (List Int) × (List Int) × (List Int) × (List Int)) (next : ((List Int) × Int × Int × Int × Int × (List Int) × (List Int) × (List Int) × (List Int) × (List Int) × (List Int) × (List Int)) → Option R) (ex : (((List Int) × Int × Int × Int × Int × (List Int) × (List Int) × (List Int) × (List Int) × (List Int) × (List Int) × (List Int))) → Option R) => P.sha_engine_uint64_block_r4 x.1 x.2.1 x.2.2.1 x.2.2.2.1 x.2.2.2.2.1 x.2.2.2.2.2.1 x.2.2.2.2.2.2.1 x.2.2.2.2.2.2.2.1 x.2.2.2.2.2.2.2.2.1 x.2.2.2.2.2.2.2.2.2.1 x.2.2.2.2.2.2.2.2.2.2.1 x.2.2.2.2.2.2.2.2.2.2.2 (fun v2 v8 v19 h0_0 h0_1 h0_2 h0_3 h0_4 h0_5 h1_0 h2_0 h3_0 => next (v2, v8, v19, h0_0, h0_1, h0_2, h0_3, h0_4, h0_5, h1_0, h2_0, h3_0)) (fun v2 v8 v19 h0_0 h0_1 h0_2 h0_3 h0_4 h0_5 h1_0 h2_0 h3_0 => ex ((v2, v8, v19, h0_0, h0_1, h0_2, h0_3, h0_4, h0_5, h1_0, h2_0, h3_0)))) x (E4 K)) := by
  unfold L4
  cases V4 st with
  | none => rfl
  | some x => simp only [P.sha_engine_uint64_block_l4_eq]; rfl
theorem loop4 : LoopOk D (loopAt Tryd.f112 4) := loopOk_lp (X := (List Int) × Int × Int × Int × Int × (List Int) × (List Int) × (List Int) × (List Int) × (List Int) × (List Int) × (List Int)) (Y := ((List Int) × Int × Int × Int × Int × (List Int) × (List Int) × (List Int) × (List Int) × (List Int) × (List Int) × (List Int))) (fun x => S4 x.1 x.2.1 x.2.2.1 x.2.2.2.1 x.2.2.2.2.1 x.2.2.2.2.2.1 x.2.2.2.2.2.2.1 x.2.2.2.2.2.2.2.1 x.2.2.2.2.2.2.2.2.1 x.2.2.2.2.2.2.2.2.2.1 x.2.2.2.2.2.2.2.2.2.2.1 x.2.2.2.2.2.2.2.2.2.2.2) V4_ok (stp := (fun (x : (List Int) × Int × Int × Int × Int × (List Int) × (List Int) × (List Int) × (List Int) × (List Int) × (List Int) × (List Int)) (next : ((List Int) × Int × Int × Int × Int × (List Int) × (List Int) × (List Int) × (List Int) × (List Int) × (List Int) × (List Int)) → Option R) (ex : (((List Int) × Int × Int × Int × Int × (List Int) × (List Int) × (List Int) × (List Int) × (List Int) × (List Int) × (List Int))) → Option R) => P.sha_engine_uint64_block_r4 x.1 x.2.1 x.2.2.1 x.2.2.2.1 x.2.2.2.2.1 x.2.2.2.2.2.1 x.2.2.2.2.2.2.1 x.2.2.2.2.2.2.2.1 x.2.2.2.2.2.2.2.2.1 x.2.2.2.2.2.2.2.2.2.1 x.2.2.2.2.2.2.2.2.2.2.1 x.2.2.2.2.2.2.2.2.2.2.2 (fun v2 v8 v19 h0_0 h0_1 h0_2 h0_3 h0_4 h0_5 h1_0 h2_0 h3_0 => next (v2, v8, v19, h0_0, h0_1, h0_2, h0_3, h0_4, h0_5, h1_0, h2_0, h3_0)) (fun v2 v8 v19 h0_0 h0_1 h0_2 h0_3 h0_4 h0_5 h1_0 h2_0 h3_0 => ex ((v2, v8, v19, h0_0, h0_1, h0_2, h0_3, h0_4, h0_5, h1_0, h2_0, h3_0))))) (enc := E4) (L := L4) (by kernel_rfl) lq4 round4
def E10 (K : AExit → ASt → Option R) : ((Int × Int × (List Int) × (List Int) × (List Int) × Int × Int × (List Int) × (List Int) × (List Int) × (List Int) × (List Int))) → Option R := (fun x => K (.exit 2) (S10 x.1 x.2.1 x.2.2.1 x.2.2.2.1 x.2.2.2.2.1 x.2.2.2.2.2.1 x.2.2.2.2.2.2.1 x.2.2.2.2.2.2.2.1 x.2.2.2.2.2.2.2.2.1 x.2.2.2.2.2.2.2.2.2.1 x.2.2.2.2.2.2.2.2.2.2.1 x.2.2.2.2.2.2.2.2.2.2.2))
theorem round10 (K : AExit → ASt → Option R) (next : ASt → Option R) (x : Int × Int × (List Int) × (List Int) × (List Int) × Int × Int × (List Int) × (List Int) × (List Int) × (List Int) × (List Int)) : roundA D (loopAt Tryd.f112 10) K next (S10 x.1 x.2.1 x.2.2.1 x.2.2.2.1 x.2.2.2.2.1 x.2.2.2.2.2.1 x.2.2.2.2.2.2.1 x.2.2.2.2.2.2.2.1 x.2.2.2.2.2.2.2.2.1 x.2.2.2.2.2.2.2.2.2.1 x.2.2.2.2.2.2.2.2.2.2.1 x.2.2.2.2.2.2.2.2.2.2.2) = (fun (x : Int × Int × (List Int) × (List Int) × (List Int) × Int × Int × (List Int) × (List Int) × (List Int) × (List Int) × (List Int)) (next : (Int × Int × (List Int) × (List Int) × (List Int) × Int × Int × (List Int) × (List Int) × (List Int) × (List Int) × (List Int)) → Option R) (ex : ((Int × Int × (List Int) × (List Int) × (List Int) × Int × Int × (List Int) × (List Int) × (List Int) × (List Int) × (List Int))) → Option R) => P.sha_engine_uint64_block_r10 x.1 x.2.1 x.2.2.1 x.2.2.2.1 x.2.2.2.2.1 x.2.2.2.2.2.1 x.2.2.2.2.2.2.1 x.2.2.2.2.2.2.2.1 x.2.2.2.2.2.2.2.2.1 x.2.2.2.2.2.2.2.2.2.1 x.2.2.2.2.2.2.2.2.2.2.1 x.2.2.2.2.2.2.2.2.2.2.2 (fun v37 v38 h3_0 h2_0 h1_0 h0_0 h0_1 h0_2 h0_3 h0_4 h0_5 h4_0 => next (v37, v38, h3_0, h2_0, h1_0, h0_0, h0_1, h0_2, h0_3, h0_4, h0_5, h4_0)) (fun v37 v38 h3_0 h2_0 h1_0 h0_0 h0_1 h0_2 h0_3 h0_4 h0_5 h4_0 => ex ((v37, v38, h3_0, h2_0, h1_0, h0_0, h0_1, h0_2, h0_3, h0_4, h0_5, h4_0)))) x (fun x => next (S10 x.1 x.2.1 x.2.2.1 x.2.2.2.1 x.2.2.2.2.1 x.2.2.2.2.2.1 x.2.2.2.2.2.2.1 x.2.2.2.2.2.2.2.1 x.2.2.2.2.2.2.2.2.1 x.2.2.2.2.2.2.2.2.2.1 x.2.2.2.2.2.2.2.2.2.2.1 x.2.2.2.2.2.2.2.2.2.2.2)) (E10 K) := by kernel_rfl
theorem lq10 (st : ASt) (K : AExit → ASt → Option R) : L10 st K = vMap (V10 st) (fun x => lp (fun (x : Int × Int × (List Int) × (List Int) × (List Int) × Int × Int × (List Int) × (List Int) × (List Int) × (List Int) × (List Int)) (next : (Int × Int × (List Int) × (List Int) × (List Int) × Int × Int × (List Int) × (List Int) × (List Int) × (List Int) × (List Int)) → Option R) (ex : ((Int × Int × (List Int) × (List Int) × (List Int) × Int × Int × (List Int) × (List Int) × (List Int) × (List Int) × (List Int))) → Option R) => P.sha_engine_uint64_block_r10 x.1 x.2.1 x.2.2.1 x.2.2.2.1 x.2.2.2.2.1 x.2.2.2.2.2.1 x.2.2.2.2.2.2.1 x.2.2.2.2.2.2.2.1 x.2.2.2.2.2.2.2.2.1 x.2.2.2.2.2.2.2.2.2.1 x.2.2.2.2.2.2.2.2.2.2.1 x.2.2.2.2.2.2.2.2.2.2.2 (fun v37 v38 h3_0 h2_0 h1_0 h0_0 h0_1 h0_2 h0_3 h0_4 h0_5 h4_0 => next (v37, v38, h3_0, h2_0, h1_0, h0_0, h0_1, h0_2, h0_3, h0_4, h0_5, h4_0)) (fun v37 v38 h3_0 h2_0 h1_0 h0_0 h0_1 h0_2 h0_3 h0_4 h0_5 h4_0 => ex ((v37, v38, h3_0, h2_0, h1_0, h0_0, h0_1, h0_2, h0_3, h0_4, h0_5, h4_0)))) x (E10 K)) := by
  unfold L10
  cases V10 st with
  | none => rfl
  | some x => simp only [P.sha_engine_uint64_block_l10_eq]; rfl
theorem loop10 : LoopOk D (loopAt Tryd.f112 10) := loopOk_lp (X := Int × Int × (List Int) × (List Int) × (List Int) × Int × Int × (List Int) × (List Int) × (List Int) × (List Int) × (List Int)) (Y := (Int × Int × (List Int) × (List Int) × (List Int) × Int × Int × (List Int) × (List Int) × (List Int) × (List Int) × (List Int))) (fun x => S10 x.1 x.2.1 x.2.2.1 x.2.2.2.1 x.2.2.2.2.1 x.2.2.2.2.2.1 x.2.2.2.2.2.2.1 x.2.2.2.2.2.2.2.1 x.2.2.2.2.2.2.2.2.1 x.2.2.2.2.2.2.2.2.2.1 x.2.2.2.2.2.2.2.2.2.2.1 x.2.2.2.2.2.2.2.2.2.2.2) V10_ok (stp := (fun (x : Int × Int × (List Int) × (List Int) × (List Int) × Int × Int × (List Int) × (List Int) × (List Int) × (List Int) × (List Int)) (next : (Int × Int × (List Int) × (List Int) × (List Int) × Int × Int × (List Int) × (List Int) × (List Int) × (List Int) × (List Int)) → Option R) (ex : ((Int × Int × (List Int) × (List Int) × (List Int) × Int × Int × (List Int) × (List Int) × (List Int) × (List Int) × (List Int))) → Option R) => P.sha_engine_uint64_block_r10 x.1 x.2.1 x.2.2.1 x.2.2.2.1 x.2.2.2.2.1 x.2.2.2.2.2.1 x.2.2.2.2.2.2.1 x.2.2.2.2.2.2.2.1 x.2.2.2.2.2.2.2.2.1 x.2.2.2.2.2.2.2.2.2.1 x.2.2.2.2.2.2.2.2.2.2.1 x.2.2.2.2.2.2.2.2.2.2.2 (fun v37 v38 h3_0 h2_0 h1_0 h0_0 h0_1 h0_2 h0_3 h0_4 h0_5 h4_0 => next (v37, v38, h3_0, h2_0, h1_0, h0_0, h0_1, h0_2, h0_3, h0_4, h0_5, h4_0)) (fun v37 v38 h3_0 h2_0 h1_0 h0_0 h0_1 h0_2 h0_3 h0_4 h0_5 h4_0 => ex ((v37, v38, h3_0, h2_0, h1_0, h0_0, h0_1, h0_2, h0_3, h0_4, h0_5, h4_0))))) (enc := E10) (L := L10) (by kernel_rfl) lq10 round10
def E21 (K : AExit → ASt → Option R) : ((Int × (List Int) × (List Int) × (List Int))) → Option R := (fun x => K (.exit 4) (S21 x.1 x.2.1 x.2.2.1 x.2.2.2))
theorem round21 (K : AExit → ASt → Option R) (next : ASt → Option R) (x : Int × (List Int) × (List Int) × (List Int)) : roundA D (loopAt Tryd.f112 21) K next (S21 x.1 x.2.1 x.2.2.1 x.2.2.2) = (fun (x : Int × (List Int) × (List Int) × (List Int)) (next : (Int × (List Int) × (List Int) × (List Int)) → Option R) (ex : ((Int × (List Int) × (List Int) × (List Int))) → Option R) => P.sha_engine_uint64_block_r21 x.1 x.2.1 x.2.2.1 x.2.2.2 (fun v129 h1_0 h2_0 h4_0 => next (v129, h1_0, h2_0, h4_0)) (fun v129 h1_0 h2_0 h4_0 => ex ((v129, h1_0, h2_0, h4_0)))) x (fun x => next (S21 x.1 x.2.1 x.2.2.1 x.2.2.2)) (E21 K) := by kernel_rfl
theorem lq21 (st : ASt) (K : AExit → ASt → Option R) : L21 st K = vMap (V21 st) (fun x => lp (fun (x : Int × (List Int) × (List Int) × (List Int)) (next : (Int × (List Int) × (List Int) × (List Int)) → Option R) (ex : ((Int × (List Int) × (List Int) × (List Int))) → Option R) => P.sha_engine_uint64_block_r21 x.1 x.2.1 x.2.2.1 x.2.2.2 (fun v129 h1_0 h2_0 h4_0 => next (v129, h1_0, h2_0, h4_0)) (fun v129 h1_0 h2_0 h4_0 => ex ((v129, h1_0, h2_0, h4_0)))) x (E21 K)) := by
  unfold L21
  cases V21 st with
  | none => rfl
  | some x => simp only [P.sha_engine_uint64_block_l21_eq]; rfl
theorem loop21 : LoopOk D (loopAt Tryd.f112 21) := loopOk_lp (X := Int × (List Int) × (List Int) × (List Int)) (Y := (Int × (List Int) × (List Int) × (List Int))) (fun x => S21 x.1 x.2.1 x.2.2.1 x.2.2.2) V21_ok (stp := (fun (x : Int × (List Int) × (List Int) × (List Int)) (next : (Int × (List Int) × (List Int) × (List Int)) → Option R) (ex : ((Int × (List Int) × (List Int) × (List Int))) → Option R) => P.sha_engine_uint64_block_r21 x.1 x.2.1 x.2.2.1 x.2.2.2 (fun v129 h1_0 h2_0 h4_0 => next (v129, h1_0, h2_0, h4_0)) (fun v129 h1_0 h2_0 h4_0 => ex ((v129, h1_0, h2_0, h4_0))))) (enc := E21) (L := L21) (by kernel_rfl) lq21 round21
theorem body (a0_bits : Int) (a0_rounds : Int) (a0_turns_0 : List Int) (a0_turns_1 : List Int) (a0_turns_2 : List Int) (a0_turns_3 : List Int) (a1 : List Int) (a2 : List Int) (K : AVal → Option R) : bodyA D Tryd.f112 [.any] [.agg [.v (.int .i64 a0_bits), .v (.int .i64 a0_rounds), .arr .i64 3 a0_turns_0, .arr .i64 3 a0_turns_1, .arr .i64 3 a0_turns_2, .arr .i64 3 a0_turns_3, .fn (.func 113) [] []], .arr .u64 8 a1, .sl (.ints .u8 a2)] K = P.sha_engine_uint64_block a0_bits a0_rounds a0_turns_0 a0_turns_1 a0_turns_2 a0_turns_3 a1 a2 (fun r0 => K (.arr .u64 8 r0)) := by
  rw [P.sha_engine_uint64_block_eq]
  kernel_rfl
theorem loops : loopsOf (Tryd.f112.body.getD .skip) = [loopAt Tryd.f112 4, loopAt Tryd.f112 10, loopAt Tryd.f112 21] := by kernel_rfl
noncomputable def spec0 : Abs.Spec := fun args K => match args with
  | [.agg [.v (.int .i64 a0_bits), .v (.int .i64 a0_rounds), .arr .i64 3 a0_turns_0, .arr .i64 3 a0_turns_1, .arr .i64 3 a0_turns_2, .arr .i64 3 a0_turns_3, .fn (.func 113) [] []], .arr .u64 8 a1, .sl (.ints .u8 a2)] => P.sha_engine_uint64_block a0_bits a0_rounds a0_turns_0 a0_turns_1 a0_turns_2 a0_turns_3 a1 a2 (fun r0 => K (.arr .u64 8 r0))
  | _ => none
noncomputable def spec : Abs.Spec := fun args K => spec0 (coerL [.any, .any, .sl (.ints .u8 [])] args) K
theorem ok0 : Proved Tryd.prog [(0, [.arr .u32 64 P.roots256]), (1, [.arr .u64 80 P.roots512])] 112 spec0 := by
  refine proved_of (D := D) (fn := Tryd.f112) (c := Tryd.f112.body.getD .skip) [.any] (by kernel_rfl) (globsPlain_of (by kernel_rfl)) (by kernel_rfl) (by kernel_rfl) (by kernel_rfl) ⟨bits_Num.ok, sha_root512.ok, sha_engine_uint64_high.ok, sha_engine_uint64_low.ok, trivial⟩ trivial ?_ ?_
  · rw [loops]; exact ⟨loop4, loop10, loop21, trivial⟩
  · intro args K r h
    unfold spec0 at h
    split at h
    · rw [body]; exact h
    · cases h
theorem ok : Proved Tryd.prog [(0, [.arr .u32 64 P.roots256]), (1, [.arr .u64 80 P.roots512])] 112 spec := proved_coer _ ok0
end sha_engine_uint64_block
end

section
open Go Go.Abs Go.Proofs
set_option maxRecDepth 100000
set_option linter.unusedVariables false
namespace sha_through_uint64
def S3 (v2 : List Int) (v14 : List Int) (v15 : Int) (h0_0 : Int) (h0_1 : Int) (h0_2 : List Int) (h0_3 : List Int) (h0_4 : List Int) (h0_5 : List Int) (h1_0 : List Int) (h2_0 : List Int) (h3_0 : List Int) : ASt := ⟨[(2, .sl (.ints .u8 v2)), (3, .ptr 0 0), (4, .ptr 1 0), (6, .ptr 2 0), (8, .ptr 3 0), (14, .arr .u64 8 v14), (15, .v (.int .i64 v15))], [(0, some ⟨.box 105 [.v (.int .i64 h0_0), .v (.int .i64 h0_1), .arr .i64 3 h0_2, .arr .i64 3 h0_3, .arr .i64 3 h0_4, .arr .i64 3 h0_5, .fn (.func 113) [] []], false⟩), (1, some ⟨.box 23 [.arr .u64 8 h1_0], false⟩), (2, some ⟨.box 23 [.arr .u64 8 h2_0], false⟩), (3, some ⟨.box 23 [.arr .u64 8 h3_0], false⟩)], 4, 50⟩
def V3 : ASt → Option ((List Int) × (List Int) × Int × Int × Int × (List Int) × (List Int) × (List Int) × (List Int) × (List Int) × (List Int) × (List Int))
  | ⟨[(2, .sl (.ints .u8 v2)), (3, .ptr 0 0), (4, .ptr 1 0), (6, .ptr 2 0), (8, .ptr 3 0), (14, .arr .u64 8 v14), (15, .v (.int .i64 v15))], [(0, some ⟨.box 105 [.v (.int .i64 h0_0), .v (.int .i64 h0_1), .arr .i64 3 h0_2, .arr .i64 3 h0_3, .arr .i64 3 h0_4, .arr .i64 3 h0_5, .fn (.func 113) [] []], false⟩), (1, some ⟨.box 23 [.arr .u64 8 h1_0], false⟩), (2, some ⟨.box 23 [.arr .u64 8 h2_0], false⟩), (3, some ⟨.box 23 [.arr .u64 8 h3_0], false⟩)], 4, 50⟩ => some (v2, v14, v15, h0_0, h0_1, h0_2, h0_3, h0_4, h0_5, h1_0, h2_0, h3_0)
  | _ => none
theorem V3_ok (st : ASt) (x : (List Int) × (List Int) × Int × Int × Int × (List Int) × (List Int) × (List Int) × (List Int) × (List Int) × (List Int) × (List Int)) (h : V3 st = some x) : st = S3 x.1 x.2.1 x.2.2.1 x.2.2.2.1 x.2.2.2.2.1 x.2.2.2.2.2.1 x.2.2.2.2.2.2.1 x.2.2.2.2.2.2.2.1 x.2.2.2.2.2.2.2.2.1 x.2.2.2.2.2.2.2.2.2.1 x.2.2.2.2.2.2.2.2.2.2.1 x.2.2.2.2.2.2.2.2.2.2.2 := by
  unfold V3 at h
  split at h
  · cases h; rfl
  · cases h
def S8 (v2 : List Int) (v11 : Int) (h3_0 : List Int) (h2_0 : List Int) (h1_0 : List Int) (h0_0 : Int) (h0_1 : Int) (h0_2 : List Int) (h0_3 : List Int) (h0_4 : List Int) (h0_5 : List Int) : ASt := ⟨[(2, .sl (.ints .u8 v2)), (3, .ptr 0 0), (4, .ptr 1 0), (6, .ptr 2 0), (8, .ptr 3 0), (11, .v (.int .i64 v11))], [(3, some ⟨.box 23 [.arr .u64 8 h3_0], false⟩), (2, some ⟨.box 23 [.arr .u64 8 h2_0], false⟩), (1, some ⟨.box 23 [.arr .u64 8 h1_0], false⟩), (0, some ⟨.box 105 [.v (.int .i64 h0_0), .v (.int .i64 h0_1), .arr .i64 3 h0_2, .arr .i64 3 h0_3, .arr .i64 3 h0_4, .arr .i64 3 h0_5, .fn (.func 113) [] []], false⟩)], 4, 50⟩
def V8 : ASt → Option ((List Int) × Int × (List Int) × (List Int) × (List Int) × Int × Int × (List Int) × (List Int) × (List Int) × (List Int))
  | ⟨[(2, .sl (.ints .u8 v2)), (3, .ptr 0 0), (4, .ptr 1 0), (6, .ptr 2 0), (8, .ptr 3 0), (11, .v (.int .i64 v11))], [(3, some ⟨.box 23 [.arr .u64 8 h3_0], false⟩), (2, some ⟨.box 23 [.arr .u64 8 h2_0], false⟩), (1, some ⟨.box 23 [.arr .u64 8 h1_0], false⟩), (0, some ⟨.box 105 [.v (.int .i64 h0_0), .v (.int .i64 h0_1), .arr .i64 3 h0_2, .arr .i64 3 h0_3, .arr .i64 3 h0_4, .arr .i64 3 h0_5, .fn (.func 113) [] []], false⟩)], 4, 50⟩ => some (v2, v11, h3_0, h2_0, h1_0, h0_0, h0_1, h0_2, h0_3, h0_4, h0_5)
  | _ => none
theorem V8_ok (st : ASt) (x : (List Int) × Int × (List Int) × (List Int) × (List Int) × Int × Int × (List Int) × (List Int) × (List Int) × (List Int)) (h : V8 st = some x) : st = S8 x.1 x.2.1 x.2.2.1 x.2.2.2.1 x.2.2.2.2.1 x.2.2.2.2.2.1 x.2.2.2.2.2.2.1 x.2.2.2.2.2.2.2.1 x.2.2.2.2.2.2.2.2.1 x.2.2.2.2.2.2.2.2.2.1 x.2.2.2.2.2.2.2.2.2.2 := by
  unfold V8 at h
  split at h
  · cases h; rfl
  · cases h
def S12 (v2 : List Int) (v39 : List Int) (v40 : Int) (h1_0 : List Int) (h2_0 : List Int) : ASt := ⟨[(2, .sl (.ints .u8 v2)), (4, .ptr 1 0), (6, .ptr 2 0), (39, .arr .u64 8 v39), (40, .v (.int .i64 v40))], [(1, some ⟨.box 23 [.arr .u64 8 h1_0], false⟩), (2, some ⟨.box 23 [.arr .u64 8 h2_0], false⟩)], 120, 50⟩
def V12 : ASt → Option ((List Int) × (List Int) × Int × (List Int) × (List Int))
  | ⟨[(2, .sl (.ints .u8 v2)), (4, .ptr 1 0), (6, .ptr 2 0), (39, .arr .u64 8 v39), (40, .v (.int .i64 v40))], [(1, some ⟨.box 23 [.arr .u64 8 h1_0], false⟩), (2, some ⟨.box 23 [.arr .u64 8 h2_0], false⟩)], 120, 50⟩ => some (v2, v39, v40, h1_0, h2_0)
  | _ => none
theorem V12_ok (st : ASt) (x : (List Int) × (List Int) × Int × (List Int) × (List Int)) (h : V12 st = some x) : st = S12 x.1 x.2.1 x.2.2.1 x.2.2.2.1 x.2.2.2.2 := by
  unfold V12 at h
  split at h
  · cases h; rfl
  · cases h
noncomputable def L3 : LSpec := fun st K => match V3 st with
  | some x => P.sha_through_uint64_l3 x.1 x.2.1 x.2.2.1 x.2.2.2.1 x.2.2.2.2.1 x.2.2.2.2.2.1 x.2.2.2.2.2.2.1 x.2.2.2.2.2.2.2.1 x.2.2.2.2.2.2.2.2.1 x.2.2.2.2.2.2.2.2.2.1 x.2.2.2.2.2.2.2.2.2.2.1 x.2.2.2.2.2.2.2.2.2.2.2 (fun v2 v14 v15 h0_0 h0_1 h0_2 h0_3 h0_4 h0_5 h1_0 h2_0 h3_0 => K (.exit 0) (S3 v2 v14 v15 h0_0 h0_1 h0_2 h0_3 h0_4 h0_5 h1_0 h2_0 h3_0))
  | none => none
noncomputable def L8 : LSpec := fun st K => match V8 st with
  | some x => P.sha_through_uint64_l8 x.1 x.2.1 x.2.2.1 x.2.2.2.1 x.2.2.2.2.1 x.2.2.2.2.2.1 x.2.2.2.2.2.2.1 x.2.2.2.2.2.2.2.1 x.2.2.2.2.2.2.2.2.1 x.2.2.2.2.2.2.2.2.2.1 x.2.2.2.2.2.2.2.2.2.2 (fun v2 v11 h3_0 h2_0 h1_0 h0_0 h0_1 h0_2 h0_3 h0_4 h0_5 => K (.exit 2) (S8 v2 v11 h3_0 h2_0 h1_0 h0_0 h0_1 h0_2 h0_3 h0_4 h0_5))
  | none => none
noncomputable def L12 : LSpec := fun st K => match V12 st with
  | some x => P.sha_through_uint64_l12 x.1 x.2.1 x.2.2.1 x.2.2.2.1 x.2.2.2.2 (fun v2 v39 v40 h1_0 h2_0 => K (.exit 4) (S12 v2 v39 v40 h1_0 h2_0))
  | none => none
noncomputable def D : Ctx := ({ P := Tryd.prog, G := [(112, sha_engine_uint64_block.spec), (113, sha_root512.spec)], globs := [(0, [.arr .u32 64 P.roots256]), (1, [.arr .u64 80 P.roots512])], hints := [(12, ⟨[2, 4, 6, 39, 40], [], [6, 7], [], some (120, [1, 2]), []⟩), (8, ⟨[2, 3, 4, 6, 8, 11], [], [6, 7], [(2, .sl (.ints .u8 []))], none, []⟩), (3, ⟨[2, 3, 4, 6, 8, 14, 15], [], [6, 7], [], none, []⟩)], loops := [(3, L3), (8, L8), (12, L12)], inl := [] } : Ctx)
def E3 (K : AExit → ASt → Option R) : (((List Int) × (List Int) × Int × Int × Int × (List Int) × (List Int) × (List Int) × (List Int) × (List Int) × (List Int) × (List Int))) → Option R := (fun x => K (.exit 0) (S3 x.1 x.2.1 x.2.2.1 x.2.2.2.1 x.2.2.2.2.1 x.2.2.2.2.2.1 x.2.2.2.2.2.2.1 x.2.2.2.2.2.2.2.1 x.2.2.2.2.2.2.2.2.1 x.2.2.2.2.2.2.2.2.2.1 x.2.2.2.2.2.2.2.2.2.2.1 x.2.2.2.2.2.2.2.2.2.2.2))
theorem round3 (K : AExit → ASt → Option R) (next : ASt → Option R) (x : (List Int) × (List Int) × Int × Int × Int × (List Int) × (List Int) × (List Int) × (List Int) × (List Int) × (List Int) × (List Int)) : roundA D (loopAt Tryd.f62 3) K next (S3 x.1 x.2.1 x.2.2.1 x.2.2.2.1 x.2.2.2.2.1 x.2.2.2.2.2.1 x.2.2.2.2.2.2.1 x.2.2.2.2.2.2.2.1 x.2.2.2.2.2.2.2.2.1 x.2.2.2.2.2.2.2.2.2.1 x.2.2.2.2.2.2.2.2.2.2.1 x.2.2.2.2.2.2.2.2.2.2.2) = (fun (x : (List Int) × (List Int) × Int × Int × Int × (List Int) × (List Int) × (List Int) × (List Int) × (List Int) × (List Int) × (List Int)) (next : ((List Int) × (List Int) × Int × Int × Int × (List Int) × (List Int) × (List Int) × (List Int) × (List Int) × (List Int) × (List Int)) → Option R) (ex : (((List Int) × (List Int) × Int × Int × Int × (List Int) × (List Int) × (List Int) × (List Int) × (List Int) × (List Int) × (List Int))) → Option R) => P.sha_through_uint64_r3 x.1 x.2.1 x.2.2.1 x.2.2.2.1 x.2.2.2.2.1 x.2.2.2.2.2.1 x.2.2.2.2.2.2.1 x.2.2.2.2.2.2.2.1 x.2.2.2.2.2.2.2.2.1 x.2.2.2.2.2.2.2.2.2.1 x.2.2.2.2.2.2.2.2.2.2.1 x.2.2.2.2.2.2.2.2.2.2.2 (fun v2 v14 v15 h0_0 h0_1 h0_2 h0_3 h0_4 h0_5 h1_0 h2_0 h3_0 => next (v2, v14, v15, h0_0, h0_1, h0_2, h0_3, h0_4, h0_5, h1_0, h2_0, h3_0)) (fun v2 v14 v15 h0_0 h0_1 h0_2 h0_3 h0_4 h0_5 h1_0 h2_0 h3_0 => ex ((v2, v14, v15, h0_0, h0_1, h0_2, h0_3, h0_4, h0_5, h1_0, h2_0, h3_0)))) x (fun x => next (S3 x.1 x.2.1 x.2.2.1 x.2.2.2.1 x.2.2.2.2.1 x.2.2.2.2.2.1 x.2.2.2.2.2.2.1 x.2.2.2.2.2.2.2.1 x.2.2.2.2.2.2.2.2.1 x.2.2.2.2.2.2.2.2.2.1 x.2.2.2.2.2.2.2.2.2.2.1 x.2.2.2.2.2.2.2.2.2.2.2)) (E3 K) := by kernel_rfl
theorem lq3 (st : ASt) (K : AExit → ASt → Option R) : L3 st K = vMap (V3 st) (fun x => lp (fun (x : (List Int) × (List Int) × Int × Int × Int × (List Int) × (List Int) × (List Int) × (List Int) × (List Int) × (List Int) × (List Int)) (next : ((List Int) × (List Int) × Int × Int × Int × (List Int) × (List Int) × (List Int) × (List Int) × (List Int) × (List Int) × (List Int)) → Option R) (ex : (((List Int) × (List Int) × Int × Int × Int × (List Int) × (List Int) × (List Int) × (List Int) × (List Int) × (List Int) × (List Int))) → Option R) => P.sha_through_uint64_r3 x.1 x.2.1 x.2.2.1 x.2.2.2.1 x.2.2.2.2.1 x.2.2.2.2.2.1 x.2.2.2.2.2.2.1 x.2.2.2.2.2.2.2.1 x.2.2.2.2.2.2.2.2.1 x.2.2.2.2.2.2.2.2.2.1 x.2.2.2.2.2.2.2.2.2.2.1 x.2.2.2.2.2.2.2.2.2.2.2 (fun v2 v14 v15 h0_0 h0_1 h0_2 h0_3 h0_4 h0_5 h1_0 h2_0 h3_0 => next (v2, v14, v15, h0_0, h0_1, h0_2, h0_3, h0_4, h0_5, h1_0, h2_0, h3_0)) (fun v2 v14 v15 h0_0 h0_1 h0_2 h0_3 h0_4 h0_5 h1_0 h2_0 h3_0 => ex ((v2, v14, v15, h0_0, h0_1, h0_2, h0_3, h0_4, h0_5, h1_0, h2_0, h3_0)))) x (E3 K)) := by
  unfold L3
  cases V3 st with
  | none => rfl
  | some x => simp only [P.sha_through_uint64_l3_eq]; rfl
theorem loop3 : LoopOk D (loopAt Tryd.f62 3) := loopOk_lp (X := (List Int) × (List Int) × Int × Int × Int × (List Int) × (List Int) × (List Int) × (List Int) × (List Int) × (List Int) × (List Int)) (Y := ((List Int) × (List Int) × Int × Int × Int × (List Int) × (List Int) × (List Int) × (List Int) × (List Int) × (List Int) × (List Int))) (fun x => S3 x.1 x.2.1 x.2.2.1 x.2.2.2.1 x.2.2.2.2.1 x.2.2.2.2.2.1 x.2.2.2.2.2.2.1 x.2.2.2.2.2.2.2.1 x.2.2.2.2.2.2.2.2.1 x.2.2.2.2.2.2.2.2.2.1 x.2.2.2.2.2.2.2.2.2.2.1 x.2.2.2.2.2.2.2.2.2.2.2) V3_ok (stp := (fun (x : (List Int) × (List Int) × Int × Int × Int × (List Int) × (List Int) × (List Int) × (List Int) × (List Int) × (List Int) × (List Int)) (next : ((List Int) × (List Int) × Int × Int × Int × (List Int) × (List Int) × (List Int) × (List Int) × (List Int) × (List Int) × (List Int)) → Option R) (ex : (((List Int) × (List Int) × Int × Int × Int × (List Int) × (List Int) × (List Int) × (List Int) × (List Int) × (List Int) × (List Int))) → Option R) => P.sha_through_uint64_r3 x.1 x.2.1 x.2.2.1 x.2.2.2.1 x.2.2.2.2.1 x.2.2.2.2.2.1 x.2.2.2.2.2.2.1 x.2.2.2.2.2.2.2.1 x.2.2.2.2.2.2.2.2.1 x.2.2.2.2.2.2.2.2.2.1 x.2.2.2.2.2.2.2.2.2.2.1 x.2.2.2.2.2.2.2.2.2.2.2 (fun v2 v14 v15 h0_0 h0_1 h0_2 h0_3 h0_4 h0_5 h1_0 h2_0 h3_0 => next (v2, v14, v15, h0_0, h0_1, h0_2, h0_3, h0_4, h0_5, h1_0, h2_0, h3_0)) (fun v2 v14 v15 h0_0 h0_1 h0_2 h0_3 h0_4 h0_5 h1_0 h2_0 h3_0 => ex ((v2, v14, v15, h0_0, h0_1, h0_2, h0_3, h0_4, h0_5, h1_0, h2_0, h3_0))))) (enc := E3) (L := L3) (by kernel_rfl) lq3 round3
def E8 (K : AExit → ASt → Option R) : (((List Int) × Int × (List Int) × (List Int) × (List Int) × Int × Int × (List Int) × (List Int) × (List Int) × (List Int))) → Option R := (fun x => K (.exit 2) (S8 x.1 x.2.1 x.2.2.1 x.2.2.2.1 x.2.2.2.2.1 x.2.2.2.2.2.1 x.2.2.2.2.2.2.1 x.2.2.2.2.2.2.2.1 x.2.2.2.2.2.2.2.2.1 x.2.2.2.2.2.2.2.2.2.1 x.2.2.2.2.2.2.2.2.2.2))
theorem round8 (K : AExit → ASt → Option R) (next : ASt → Option R) (x : (List Int) × Int × (List Int) × (List Int) × (List Int) × Int × Int × (List Int) × (List Int) × (List Int) × (List Int)) : roundA D (loopAt Tryd.f62 8) K next (S8 x.1 x.2.1 x.2.2.1 x.2.2.2.1 x.2.2.2.2.1 x.2.2.2.2.2.1 x.2.2.2.2.2.2.1 x.2.2.2.2.2.2.2.1 x.2.2.2.2.2.2.2.2.1 x.2.2.2.2.2.2.2.2.2.1 x.2.2.2.2.2.2.2.2.2.2) = (fun (x : (List Int) × Int × (List Int) × (List Int) × (List Int) × Int × Int × (List Int) × (List Int) × (List Int) × (List Int)) (next : ((List Int) × Int × (List Int) × (List Int) × (List Int) × Int × Int × (List Int) × (List Int) × (List Int) × (List Int)) → Option R) (ex : (((List Int) × Int × (List Int) × (List Int) × (List Int) × Int × Int × (List Int) × (List Int) × (List Int) × (List Int))) → Option R) => P.sha_through_uint64_r8 x.1 x.2.1 x.2.2.1 x.2.2.2.1 x.2.2.2.2.1 x.2.2.2.2.2.1 x.2.2.2.2.2.2.1 x.2.2.2.2.2.2.2.1 x.2.2.2.2.2.2.2.2.1 x.2.2.2.2.2.2.2.2.2.1 x.2.2.2.2.2.2.2.2.2.2 (fun v2 v11 h3_0 h2_0 h1_0 h0_0 h0_1 h0_2 h0_3 h0_4 h0_5 => next (v2, v11, h3_0, h2_0, h1_0, h0_0, h0_1, h0_2, h0_3, h0_4, h0_5)) (fun v2 v11 h3_0 h2_0 h1_0 h0_0 h0_1 h0_2 h0_3 h0_4 h0_5 => ex ((v2, v11, h3_0, h2_0, h1_0, h0_0, h0_1, h0_2, h0_3, h0_4, h0_5)))) x (fun x => next (S8 x.1 x.2.1 x.2.2.1 x.2.2.2.1 x.2.2.2.2.1 x.2.2.2.2.2.1 x.2.2.2.2.2.2.1 x.2.2.2.2.2.2.2.1 x.2.2.2.2.2.2.2.2.1 x.2.2.2.2.2.2.2.2.2.1 x.2.2.2.2.2.2.2.2.2.2)) (E8 K) := by kernel_rfl
theorem lq8 (st : ASt) (K : AExit → ASt → Option R) : L8 st K = vMap (V8 st) (fun x => lp (fun (x : (List Int) × Int × (List Int) × (List Int) × (List Int) × Int × Int × (List Int) × (List Int) × (List Int) × (List Int)) (next : ((List Int) × Int × (List Int) × (List Int) × (List Int) × Int × Int × (List Int) × (List Int) × (List Int) × (List Int)) → Option R) (ex : (((List Int) × Int × (List Int) × (List Int) × (List Int) × Int × Int × (List Int) × (List Int) × (List Int) × (List Int))) → Option R) => P.sha_through_uint64_r8 x.1 x.2.1 x.2.2.1 x.2.2.2.1 x.2.2.2.2.1 x.2.2.2.2.2.1 x.2.2.2.2.2.2.1 x.2.2.2.2.2.2.2.1 x.2.2.2.2.2.2.2.2.1 x.2.2.2.2.2.2.2.2.2.1 x.2.2.2.2.2.2.2.2.2.2 (fun v2 v11 h3_0 h2_0 h1_0 h0_0 h0_1 h0_2 h0_3 h0_4 h0_5 => next (v2, v11, h3_0, h2_0, h1_0, h0_0, h0_1, h0_2, h0_3, h0_4, h0_5)) (fun v2 v11 h3_0 h2_0 h1_0 h0_0 h0_1 h0_2 h0_3 h0_4 h0_5 => ex ((v2, v11, h3_0, h2_0, h1_0, h0_0, h0_1, h0_2, h0_3, h0_4, h0_5)))) x (E8 K)) := by
  unfold L8
  cases V8 st with
  | none => rfl
  | some x => simp only [P.sha_through_uint64_l8_eq]; rfl
theorem loop8 : LoopOk D (loopAt Tryd.f62 8) := loopOk_lp (X := (List Int) × Int × (List Int) × (List Int) × (List Int) × Int × Int × (List Int) × (List Int) × (List Int) × (List Int)) (Y := ((List Int) × Int × (List Int) × (List Int) × (List Int) × Int × Int × (List Int) × (List Int) × (List Int) × (List Int))) (fun x => S8 x.1 x.2.1 x.2.2.1 x.2.2.2.1 x.2.2.2.2.1 x.2.2.2.2.2.1 x.2.2.2.2.2.2.1 x.2.2.2.2.2.2.2.1 x.2.2.2.2.2.2.2.2.1 x.2.2.2.2.2.2.2.2.2.1 x.2.2.2.2.2.2.2.2.2.2) V8_ok (stp := (fun (x : (List Int) × Int × (List Int) × (List Int) × (List Int) × Int × Int × (List Int) × (List Int) × (List Int) × (List Int)) (next : ((List Int) × Int × (List Int) × (List Int) × (List Int) × Int × Int × (List Int) × (List Int) × (List Int) × (List Int)) → Option R) (ex : (((List Int) × Int × (List Int) × (List Int) × (List Int) × Int × Int × (List Int) × (List Int) × (List Int) × (List Int))) → Option R) => P.sha_through_uint64_r8 x.1 x.2.1 x.2.2.1 x.2.2.2.1 x.2.2.2.2.1 x.2.2.2.2.2.1 x.2.2.2.2.2.2.1 x.2.2.2.2.2.2.2.1 x.2.2.2.2.2.2.2.2.1 x.2.2.2.2.2.2.2.2.2.1 x.2.2.2.2.2.2.2.2.2.2 (fun v2 v11 h3_0 h2_0 h1_0 h0_0 h0_1 h0_2 h0_3 h0_4 h0_5 => next (v2, v11, h3_0, h2_0, h1_0, h0_0, h0_1, h0_2, h0_3, h0_4, h0_5)) (fun v2 v11 h3_0 h2_0 h1_0 h0_0 h0_1 h0_2 h0_3 h0_4 h0_5 => ex ((v2, v11, h3_0, h2_0, h1_0, h0_0, h0_1, h0_2, h0_3, h0_4, h0_5))))) (enc := E8) (L := L8) (by kernel_rfl) lq8 round8
def E12 (K : AExit → ASt → Option R) : (((List Int) × (List Int) × Int × (List Int) × (List Int))) → Option R := (fun x => K (.exit 4) (S12 x.1 x.2.1 x.2.2.1 x.2.2.2.1 x.2.2.2.2))
theorem round12 (K : AExit → ASt → Option R) (next : ASt → Option R) (x : (List Int) × (List Int) × Int × (List Int) × (List Int)) : roundA D (loopAt Tryd.f62 12) K next (S12 x.1 x.2.1 x.2.2.1 x.2.2.2.1 x.2.2.2.2) = (fun (x : (List Int) × (List Int) × Int × (List Int) × (List Int)) (next : ((List Int) × (List Int) × Int × (List Int) × (List Int)) → Option R) (ex : (((List Int) × (List Int) × Int × (List Int) × (List Int))) → Option R) => P.sha_through_uint64_r12 x.1 x.2.1 x.2.2.1 x.2.2.2.1 x.2.2.2.2 (fun v2 v39 v40 h1_0 h2_0 => next (v2, v39, v40, h1_0, h2_0)) (fun v2 v39 v40 h1_0 h2_0 => ex ((v2, v39, v40, h1_0, h2_0)))) x (fun x => next (S12 x.1 x.2.1 x.2.2.1 x.2.2.2.1 x.2.2.2.2)) (E12 K) := by kernel_rfl
theorem lq12 (st : ASt) (K : AExit → ASt → Option R) : L12 st K = vMap (V12 st) (fun x => lp (fun (x : (List Int) × (List Int) × Int × (List Int) × (List Int)) (next : ((List Int) × (List Int) × Int × (List Int) × (List Int)) → Option R) (ex : (((List Int) × (List Int) × Int × (List Int) × (List Int))) → Option R) => P.sha_through_uint64_r12 x.1 x.2.1 x.2.2.1 x.2.2.2.1 x.2.2.2.2 (fun v2 v39 v40 h1_0 h2_0 => next (v2, v39, v40, h1_0, h2_0)) (fun v2 v39 v40 h1_0 h2_0 => ex ((v2, v39, v40, h1_0, h2_0)))) x (E12 K)) := by
  unfold L12
  cases V12 st with
  | none => rfl
  | some x => simp only [P.sha_through_uint64_l12_eq]; rfl
theorem loop12 : LoopOk D (loopAt Tryd.f62 12) := loopOk_lp (X := (List Int) × (List Int) × Int × (List Int) × (List Int)) (Y := ((List Int) × (List Int) × Int × (List Int) × (List Int))) (fun x => S12 x.1 x.2.1 x.2.2.1 x.2.2.2.1 x.2.2.2.2) V12_ok (stp := (fun (x : (List Int) × (List Int) × Int × (List Int) × (List Int)) (next : ((List Int) × (List Int) × Int × (List Int) × (List Int)) → Option R) (ex : (((List Int) × (List Int) × Int × (List Int) × (List Int))) → Option R) => P.sha_through_uint64_r12 x.1 x.2.1 x.2.2.1 x.2.2.2.1 x.2.2.2.2 (fun v2 v39 v40 h1_0 h2_0 => next (v2, v39, v40, h1_0, h2_0)) (fun v2 v39 v40 h1_0 h2_0 => ex ((v2, v39, v40, h1_0, h2_0))))) (enc := E12) (L := L12) (by kernel_rfl) lq12 round12
theorem body (a0_bits : Int) (a0_rounds : Int) (a0_turns_0 : List Int) (a0_turns_1 : List Int) (a0_turns_2 : List Int) (a0_turns_3 : List Int) (a1 : List Int) (a2 : List Int) (K : AVal → Option R) : bodyA D Tryd.f62 [.any, .sl (.ints .u8 [])] [.agg [.v (.int .i64 a0_bits), .v (.int .i64 a0_rounds), .arr .i64 3 a0_turns_0, .arr .i64 3 a0_turns_1, .arr .i64 3 a0_turns_2, .arr .i64 3 a0_turns_3, .fn (.func 113) [] []], .arr .u64 8 a1, .sl (.ints .u8 a2)] K = P.sha_through_uint64 a0_bits a0_rounds a0_turns_0 a0_turns_1 a0_turns_2 a0_turns_3 a1 a2 (fun r0 r1 => K (.tuple [.arr .u64 8 r0, .sl (.ints .u8 r1)])) := by
  rw [P.sha_through_uint64_eq]
  kernel_rfl
theorem loops : loopsOf (Tryd.f62.body.getD .skip) = [loopAt Tryd.f62 3, loopAt Tryd.f62 8, loopAt Tryd.f62 12] := by kernel_rfl
noncomputable def spec0 : Abs.Spec := fun args K => match args with
  | [.agg [.v (.int .i64 a0_bits), .v (.int .i64 a0_rounds), .arr .i64 3 a0_turns_0, .arr .i64 3 a0_turns_1, .arr .i64 3 a0_turns_2, .arr .i64 3 a0_turns_3, .fn (.func 113) [] []], .arr .u64 8 a1, .sl (.ints .u8 a2)] => P.sha_through_uint64 a0_bits a0_rounds a0_turns_0 a0_turns_1 a0_turns_2 a0_turns_3 a1 a2 (fun r0 r1 => K (.tuple [.arr .u64 8 r0, .sl (.ints .u8 r1)]))
  | _ => none
noncomputable def spec : Abs.Spec := fun args K => spec0 (coerL [.any, .any, .sl (.ints .u8 [])] args) K
theorem ok0 : Proved Tryd.prog [(0, [.arr .u32 64 P.roots256]), (1, [.arr .u64 80 P.roots512])] 62 spec0 := by
  refine proved_of (D := D) (fn := Tryd.f62) (c := Tryd.f62.body.getD .skip) [.any, .sl (.ints .u8 [])] (by kernel_rfl) (globsPlain_of (by kernel_rfl)) (by kernel_rfl) (by kernel_rfl) (by kernel_rfl) ⟨sha_engine_uint64_block.ok, sha_root512.ok, trivial⟩ trivial ?_ ?_
  · rw [loops]; exact ⟨loop3, loop8, loop12, trivial⟩
  · intro args K r h
    unfold spec0 at h
    split at h
    · rw [body]; exact h
    · cases h
theorem ok : Proved Tryd.prog [(0, [.arr .u32 64 P.roots256]), (1, [.arr .u64 80 P.roots512])] 62 spec := proved_coer _ ok0
end sha_through_uint64
end
