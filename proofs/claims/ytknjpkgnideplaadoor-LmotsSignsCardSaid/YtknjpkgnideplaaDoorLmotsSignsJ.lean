/-
  LmotsSigns, part J: an interpreter of my own over abstract values, the pure functions, the walks and the plain law.
-/

import Derived.Test.YtknjpkgnideplaaDoorLmotsSignsH
import Derived.Test.YtknjpkgnideplaaDoorLmotsSignsF
import Derived.Test.YtknjpkgnideplaaDoorProg
import Derived.Test.YtknjpkgnideplaaDoorLmotsSignsG
import Derived.Test.YtknjpkgnideplaaDoorLmotsSignsI
import Derived.KernelRfl

section
open Go Go.Abs Go.Proofs
set_option maxRecDepth 100000
set_option linter.unusedVariables false
namespace R07_words
def S6 (v0 : List Int) (v1 : Bool) (v2 : Int) (v3 : Int) (v9 : Int) (v11 : Int) (h0 : List Int) : ASt := ⟨[(10, .own 0), (0, .sl (.ints .u8 v0)), (1, .v (.bool v1)), (2, .v (.int .i64 v2)), (3, .v (.int .u64 v3)), (9, .v (.int .i64 v9)), (11, .v (.int .i64 v11))], [(0, some ⟨.row 22 (.ints .u64 h0), false⟩)], 1, 82⟩
def V6 : ASt → Option ((List Int) × Bool × Int × Int × Int × Int × (List Int))
  | ⟨[(10, .own 0), (0, .sl (.ints .u8 v0)), (1, .v (.bool v1)), (2, .v (.int .i64 v2)), (3, .v (.int .u64 v3)), (9, .v (.int .i64 v9)), (11, .v (.int .i64 v11))], [(0, some ⟨.row 22 (.ints .u64 h0), false⟩)], 1, 82⟩ => some (v0, v1, v2, v3, v9, v11, h0)
  | _ => none
theorem V6_ok (st : ASt) (x : (List Int) × Bool × Int × Int × Int × Int × (List Int)) (h : V6 st = some x) : st = S6 x.1 x.2.1 x.2.2.1 x.2.2.2.1 x.2.2.2.2.1 x.2.2.2.2.2.1 x.2.2.2.2.2.2 := by
  unfold V6 at h
  split at h
  · cases h; rfl
  · cases h
noncomputable def L6 : LSpec := fun st K => match V6 st with
  | some x => P.R07_words_l6 x.1 x.2.1 x.2.2.1 x.2.2.2.1 x.2.2.2.2.1 x.2.2.2.2.2.1 x.2.2.2.2.2.2 (fun v0 v1 v2 v3 v9 v11 h0 => K (.exit 0) (S6 v0 v1 v2 v3 v9 v11 h0))
  | none => none
noncomputable def D : Ctx := ({ P := Tryd.prog, G := [(24, R01_Num.spec), (117, R07_mix.spec)], globs := [(0, [.arr .u32 64 P.roots256]), (1, [.arr .u64 80 P.roots512])], hints := [(6, ⟨[0, 1, 2, 3, 9, 11], [(10, 22, .ints .u64 [])], [8], [], none, []⟩)], loops := [(6, L6)], inl := [] } : Ctx)
def E6 (K : AExit → ASt → Option R) : (((List Int) × Bool × Int × Int × Int × Int × (List Int))) → Option R := (fun x => K (.exit 0) (S6 x.1 x.2.1 x.2.2.1 x.2.2.2.1 x.2.2.2.2.1 x.2.2.2.2.2.1 x.2.2.2.2.2.2))
theorem round6 (K : AExit → ASt → Option R) (next : ASt → Option R) (x : (List Int) × Bool × Int × Int × Int × Int × (List Int)) : roundA D (loopAt Tryd.f116 6) K next (S6 x.1 x.2.1 x.2.2.1 x.2.2.2.1 x.2.2.2.2.1 x.2.2.2.2.2.1 x.2.2.2.2.2.2) = (fun (x : (List Int) × Bool × Int × Int × Int × Int × (List Int)) (next : ((List Int) × Bool × Int × Int × Int × Int × (List Int)) → Option R) (ex : (((List Int) × Bool × Int × Int × Int × Int × (List Int))) → Option R) => P.R07_words_r6 x.1 x.2.1 x.2.2.1 x.2.2.2.1 x.2.2.2.2.1 x.2.2.2.2.2.1 x.2.2.2.2.2.2 (fun v0 v1 v2 v3 v9 v11 h0 => next (v0, v1, v2, v3, v9, v11, h0)) (fun v0 v1 v2 v3 v9 v11 h0 => ex ((v0, v1, v2, v3, v9, v11, h0)))) x (fun x => next (S6 x.1 x.2.1 x.2.2.1 x.2.2.2.1 x.2.2.2.2.1 x.2.2.2.2.2.1 x.2.2.2.2.2.2)) (E6 K) := by kernel_rfl
theorem lq6 (st : ASt) (K : AExit → ASt → Option R) : L6 st K = vMap (V6 st) (fun x => lp (fun (x : (List Int) × Bool × Int × Int × Int × Int × (List Int)) (next : ((List Int) × Bool × Int × Int × Int × Int × (List Int)) → Option R) (ex : (((List Int) × Bool × Int × Int × Int × Int × (List Int))) → Option R) => P.R07_words_r6 x.1 x.2.1 x.2.2.1 x.2.2.2.1 x.2.2.2.2.1 x.2.2.2.2.2.1 x.2.2.2.2.2.2 (fun v0 v1 v2 v3 v9 v11 h0 => next (v0, v1, v2, v3, v9, v11, h0)) (fun v0 v1 v2 v3 v9 v11 h0 => ex ((v0, v1, v2, v3, v9, v11, h0)))) x (E6 K)) := by
  unfold L6
  cases V6 st with
  | none => rfl
  | some x => simp only [P.R07_words_l6_eq]; rfl
theorem loop6 : LoopOk D (loopAt Tryd.f116 6) := loopOk_lp (X := (List Int) × Bool × Int × Int × Int × Int × (List Int)) (Y := ((List Int) × Bool × Int × Int × Int × Int × (List Int))) (fun x => S6 x.1 x.2.1 x.2.2.1 x.2.2.2.1 x.2.2.2.2.1 x.2.2.2.2.2.1 x.2.2.2.2.2.2) V6_ok (stp := (fun (x : (List Int) × Bool × Int × Int × Int × Int × (List Int)) (next : ((List Int) × Bool × Int × Int × Int × Int × (List Int)) → Option R) (ex : (((List Int) × Bool × Int × Int × Int × Int × (List Int))) → Option R) => P.R07_words_r6 x.1 x.2.1 x.2.2.1 x.2.2.2.1 x.2.2.2.2.1 x.2.2.2.2.2.1 x.2.2.2.2.2.2 (fun v0 v1 v2 v3 v9 v11 h0 => next (v0, v1, v2, v3, v9, v11, h0)) (fun v0 v1 v2 v3 v9 v11 h0 => ex ((v0, v1, v2, v3, v9, v11, h0))))) (enc := E6) (L := L6) (by kernel_rfl) lq6 round6
theorem body (a0 : List Int) (a1 : Bool) (a2 : Int) (a3 : Int) (K : AVal → Option R) : bodyA D Tryd.f116 [.fr 22 (.ints .u64 [])] [.sl (.ints .u8 a0), .v (.bool a1), .v (.int .i64 a2), .v (.int .u64 a3)] K = P.R07_words a0 a1 a2 a3 (fun r0 => K (.fr 22 (.ints .u64 r0))) := by
  rw [P.R07_words_eq]
  kernel_rfl
theorem loops : loopsOf (Tryd.f116.body.getD .skip) = [loopAt Tryd.f116 6] := by kernel_rfl
noncomputable def spec0 : Abs.Spec := fun args K => match args with
  | [.sl (.ints .u8 a0), .v (.bool a1), .v (.int .i64 a2), .v (.int .u64 a3)] => P.R07_words a0 a1 a2 a3 (fun r0 => K (.fr 22 (.ints .u64 r0)))
  | _ => none
noncomputable def spec : Abs.Spec := fun args K => spec0 (coerL [.sl (.ints .u8 []), .any, .any, .any] args) K
theorem ok0 : Proved Tryd.prog [(0, [.arr .u32 64 P.roots256]), (1, [.arr .u64 80 P.roots512])] 116 spec0 := by
  refine proved_of (D := D) (fn := Tryd.f116) (c := Tryd.f116.body.getD .skip) [.fr 22 (.ints .u64 [])] (by kernel_rfl) (globsPlain_of (by kernel_rfl)) (by kernel_rfl) (by kernel_rfl) (by kernel_rfl) ⟨R01_Num.ok, R07_mix.ok, trivial⟩ trivial ?_ ?_
  · rw [loops]; exact ⟨loop6, trivial⟩
  · intro args K r h
    unfold spec0 at h
    split at h
    · rw [body]; exact h
    · cases h
theorem ok : Proved Tryd.prog [(0, [.arr .u32 64 P.roots256]), (1, [.arr .u64 80 P.roots512])] 116 spec := proved_coer _ ok0
end R07_words
end

section
open Go Go.Abs Go.Proofs
set_option maxRecDepth 100000
set_option linter.unusedVariables false
namespace R07_block
def S11 (v2 : Bool) (v7 : Int) (v8 : Int) (v13 : Int) (h0_0 : List Int) (h1_0 : List Int) (h2_0 : List Int) (h3_0 : List Int) (h4 : List Int) (h5_0 : List Int) : ASt := ⟨[(2, .v (.bool v2)), (3, .ptr 0 0), (6, .ptr 1 0), (7, .v (.int .i64 v7)), (8, .v (.int .u64 v8)), (9, .ptr 2 0), (10, .ptr 3 0), (11, .own 4), (12, .ptr 5 0), (13, .v (.int .i64 v13))], [(0, some ⟨.box 23 [.arr .u64 8 h0_0], false⟩), (1, some ⟨.box 23 [.arr .u64 8 h1_0], false⟩), (2, some ⟨.box 161 [.arr .u64 64 h2_0], false⟩), (3, some ⟨.box 163 [.arr .u64 80 h3_0], false⟩), (4, some ⟨.row 22 (.ints .u64 h4), false⟩), (5, some ⟨.box 23 [.arr .u64 8 h5_0], false⟩)], 6, 137⟩
def V11 : ASt → Option (Bool × Int × Int × Int × (List Int) × (List Int) × (List Int) × (List Int) × (List Int) × (List Int))
  | ⟨[(2, .v (.bool v2)), (3, .ptr 0 0), (6, .ptr 1 0), (7, .v (.int .i64 v7)), (8, .v (.int .u64 v8)), (9, .ptr 2 0), (10, .ptr 3 0), (11, .own 4), (12, .ptr 5 0), (13, .v (.int .i64 v13))], [(0, some ⟨.box 23 [.arr .u64 8 h0_0], false⟩), (1, some ⟨.box 23 [.arr .u64 8 h1_0], false⟩), (2, some ⟨.box 161 [.arr .u64 64 h2_0], false⟩), (3, some ⟨.box 163 [.arr .u64 80 h3_0], false⟩), (4, some ⟨.row 22 (.ints .u64 h4), false⟩), (5, some ⟨.box 23 [.arr .u64 8 h5_0], false⟩)], 6, 137⟩ => some (v2, v7, v8, v13, h0_0, h1_0, h2_0, h3_0, h4, h5_0)
  | _ => none
theorem V11_ok (st : ASt) (x : Bool × Int × Int × Int × (List Int) × (List Int) × (List Int) × (List Int) × (List Int) × (List Int)) (h : V11 st = some x) : st = S11 x.1 x.2.1 x.2.2.1 x.2.2.2.1 x.2.2.2.2.1 x.2.2.2.2.2.1 x.2.2.2.2.2.2.1 x.2.2.2.2.2.2.2.1 x.2.2.2.2.2.2.2.2.1 x.2.2.2.2.2.2.2.2.2 := by
  unfold V11 at h
  split at h
  · cases h; rfl
  · cases h
def S25 (v8 : Int) (v19 : Int) (h0_0 : List Int) (h1_0 : List Int) (h5_0 : List Int) : ASt := ⟨[(3, .ptr 0 0), (6, .ptr 1 0), (8, .v (.int .u64 v8)), (12, .ptr 5 0), (19, .v (.int .i64 v19))], [(0, some ⟨.box 23 [.arr .u64 8 h0_0], false⟩), (1, some ⟨.box 23 [.arr .u64 8 h1_0], false⟩), (5, some ⟨.box 23 [.arr .u64 8 h5_0], false⟩)], 80, 137⟩
def V25 : ASt → Option (Int × Int × (List Int) × (List Int) × (List Int))
  | ⟨[(3, .ptr 0 0), (6, .ptr 1 0), (8, .v (.int .u64 v8)), (12, .ptr 5 0), (19, .v (.int .i64 v19))], [(0, some ⟨.box 23 [.arr .u64 8 h0_0], false⟩), (1, some ⟨.box 23 [.arr .u64 8 h1_0], false⟩), (5, some ⟨.box 23 [.arr .u64 8 h5_0], false⟩)], 80, 137⟩ => some (v8, v19, h0_0, h1_0, h5_0)
  | _ => none
theorem V25_ok (st : ASt) (x : Int × Int × (List Int) × (List Int) × (List Int)) (h : V25 st = some x) : st = S25 x.1 x.2.1 x.2.2.1 x.2.2.2.1 x.2.2.2.2 := by
  unfold V25 at h
  split at h
  · cases h; rfl
  · cases h
noncomputable def L11 : LSpec := fun st K => match V11 st with
  | some x => P.R07_block_l11 x.1 x.2.1 x.2.2.1 x.2.2.2.1 x.2.2.2.2.1 x.2.2.2.2.2.1 x.2.2.2.2.2.2.1 x.2.2.2.2.2.2.2.1 x.2.2.2.2.2.2.2.2.1 x.2.2.2.2.2.2.2.2.2 (fun v2 v7 v8 v13 h0_0 h1_0 h2_0 h3_0 h4 h5_0 => K (.exit 0) (S11 v2 v7 v8 v13 h0_0 h1_0 h2_0 h3_0 h4 h5_0))
  | none => none
noncomputable def L25 : LSpec := fun st K => match V25 st with
  | some x => P.R07_block_l25 x.1 x.2.1 x.2.2.1 x.2.2.2.1 x.2.2.2.2 (fun v8 v19 h0_0 h1_0 h5_0 => K (.exit 2) (S25 v8 v19 h0_0 h1_0 h5_0))
  | none => none
noncomputable def D : Ctx := ({ P := Tryd.prog, G := [(114, R07_roots256.spec), (115, R07_roots512.spec), (116, R07_words.spec), (117, R07_mix.spec)], globs := [(0, [.arr .u32 64 P.roots256]), (1, [.arr .u64 80 P.roots512])], hints := [(25, ⟨[3, 6, 8, 12, 19], [], [6], [], some (80, [0, 1, 5]), []⟩), (11, ⟨[2, 3, 6, 7, 8, 9, 10, 11, 12, 13], [], [6], [], none, []⟩)], loops := [(11, L11), (25, L25)], inl := [] } : Ctx)
def E11 (K : AExit → ASt → Option R) : ((Bool × Int × Int × Int × (List Int) × (List Int) × (List Int) × (List Int) × (List Int) × (List Int))) → Option R := (fun x => K (.exit 0) (S11 x.1 x.2.1 x.2.2.1 x.2.2.2.1 x.2.2.2.2.1 x.2.2.2.2.2.1 x.2.2.2.2.2.2.1 x.2.2.2.2.2.2.2.1 x.2.2.2.2.2.2.2.2.1 x.2.2.2.2.2.2.2.2.2))
theorem round11 (K : AExit → ASt → Option R) (next : ASt → Option R) (x : Bool × Int × Int × Int × (List Int) × (List Int) × (List Int) × (List Int) × (List Int) × (List Int)) : roundA D (loopAt Tryd.f66 11) K next (S11 x.1 x.2.1 x.2.2.1 x.2.2.2.1 x.2.2.2.2.1 x.2.2.2.2.2.1 x.2.2.2.2.2.2.1 x.2.2.2.2.2.2.2.1 x.2.2.2.2.2.2.2.2.1 x.2.2.2.2.2.2.2.2.2) = (fun (x : Bool × Int × Int × Int × (List Int) × (List Int) × (List Int) × (List Int) × (List Int) × (List Int)) (next : (Bool × Int × Int × Int × (List Int) × (List Int) × (List Int) × (List Int) × (List Int) × (List Int)) → Option R) (ex : ((Bool × Int × Int × Int × (List Int) × (List Int) × (List Int) × (List Int) × (List Int) × (List Int))) → Option R) => P.R07_block_r11 x.1 x.2.1 x.2.2.1 x.2.2.2.1 x.2.2.2.2.1 x.2.2.2.2.2.1 x.2.2.2.2.2.2.1 x.2.2.2.2.2.2.2.1 x.2.2.2.2.2.2.2.2.1 x.2.2.2.2.2.2.2.2.2 (fun v2 v7 v8 v13 h0_0 h1_0 h2_0 h3_0 h4 h5_0 => next (v2, v7, v8, v13, h0_0, h1_0, h2_0, h3_0, h4, h5_0)) (fun v2 v7 v8 v13 h0_0 h1_0 h2_0 h3_0 h4 h5_0 => ex ((v2, v7, v8, v13, h0_0, h1_0, h2_0, h3_0, h4, h5_0)))) x (fun x => next (S11 x.1 x.2.1 x.2.2.1 x.2.2.2.1 x.2.2.2.2.1 x.2.2.2.2.2.1 x.2.2.2.2.2.2.1 x.2.2.2.2.2.2.2.1 x.2.2.2.2.2.2.2.2.1 x.2.2.2.2.2.2.2.2.2)) (E11 K) := by kernel_rfl
theorem lq11 (st : ASt) (K : AExit → ASt → Option R) : L11 st K = vMap (V11 st) (fun x => lp (fun (x : Bool × Int × Int × Int × (List Int) × (List Int) × (List Int) × (List Int) × (List Int) × (List Int)) (next : (Bool × Int × Int × Int × (List Int) × (List Int) × (List Int) × (List Int) × (List Int) × (List Int)) → Option R) (ex : ((Bool × Int × Int × Int × (List Int) × (List Int) × (List Int) × (List Int) × (List Int) × (List Int))) → Option R) => P.R07_block_r11 x.1 x.2.1 x.2.2.1 x.2.2.2.1 x.2.2.2.2.1 x.2.2.2.2.2.1 x.2.2.2.2.2.2.1 x.2.2.2.2.2.2.2.1 x.2.2.2.2.2.2.2.2.1 x.2.2.2.2.2.2.2.2.2 (fun v2 v7 v8 v13 h0_0 h1_0 h2_0 h3_0 h4 h5_0 => next (v2, v7, v8, v13, h0_0, h1_0, h2_0, h3_0, h4, h5_0)) (fun v2 v7 v8 v13 h0_0 h1_0 h2_0 h3_0 h4 h5_0 => ex ((v2, v7, v8, v13, h0_0, h1_0, h2_0, h3_0, h4, h5_0)))) x (E11 K)) := by
  unfold L11
  cases V11 st with
  | none => rfl
  | some x => simp only [P.R07_block_l11_eq]; rfl
theorem loop11 : LoopOk D (loopAt Tryd.f66 11) := loopOk_lp (X := Bool × Int × Int × Int × (List Int) × (List Int) × (List Int) × (List Int) × (List Int) × (List Int)) (Y := (Bool × Int × Int × Int × (List Int) × (List Int) × (List Int) × (List Int) × (List Int) × (List Int))) (fun x => S11 x.1 x.2.1 x.2.2.1 x.2.2.2.1 x.2.2.2.2.1 x.2.2.2.2.2.1 x.2.2.2.2.2.2.1 x.2.2.2.2.2.2.2.1 x.2.2.2.2.2.2.2.2.1 x.2.2.2.2.2.2.2.2.2) V11_ok (stp := (fun (x : Bool × Int × Int × Int × (List Int) × (List Int) × (List Int) × (List Int) × (List Int) × (List Int)) (next : (Bool × Int × Int × Int × (List Int) × (List Int) × (List Int) × (List Int) × (List Int) × (List Int)) → Option R) (ex : ((Bool × Int × Int × Int × (List Int) × (List Int) × (List Int) × (List Int) × (List Int) × (List Int))) → Option R) => P.R07_block_r11 x.1 x.2.1 x.2.2.1 x.2.2.2.1 x.2.2.2.2.1 x.2.2.2.2.2.1 x.2.2.2.2.2.2.1 x.2.2.2.2.2.2.2.1 x.2.2.2.2.2.2.2.2.1 x.2.2.2.2.2.2.2.2.2 (fun v2 v7 v8 v13 h0_0 h1_0 h2_0 h3_0 h4 h5_0 => next (v2, v7, v8, v13, h0_0, h1_0, h2_0, h3_0, h4, h5_0)) (fun v2 v7 v8 v13 h0_0 h1_0 h2_0 h3_0 h4 h5_0 => ex ((v2, v7, v8, v13, h0_0, h1_0, h2_0, h3_0, h4, h5_0))))) (enc := E11) (L := L11) (by kernel_rfl) lq11 round11
def E25 (K : AExit → ASt → Option R) : ((Int × Int × (List Int) × (List Int) × (List Int))) → Option R := (fun x => K (.exit 2) (S25 x.1 x.2.1 x.2.2.1 x.2.2.2.1 x.2.2.2.2))
theorem round25 (K : AExit → ASt → Option R) (next : ASt → Option R) (x : Int × Int × (List Int) × (List Int) × (List Int)) : roundA D (loopAt Tryd.f66 25) K next (S25 x.1 x.2.1 x.2.2.1 x.2.2.2.1 x.2.2.2.2) = (fun (x : Int × Int × (List Int) × (List Int) × (List Int)) (next : (Int × Int × (List Int) × (List Int) × (List Int)) → Option R) (ex : ((Int × Int × (List Int) × (List Int) × (List Int))) → Option R) => P.R07_block_r25 x.1 x.2.1 x.2.2.1 x.2.2.2.1 x.2.2.2.2 (fun v8 v19 h0_0 h1_0 h5_0 => next (v8, v19, h0_0, h1_0, h5_0)) (fun v8 v19 h0_0 h1_0 h5_0 => ex ((v8, v19, h0_0, h1_0, h5_0)))) x (fun x => next (S25 x.1 x.2.1 x.2.2.1 x.2.2.2.1 x.2.2.2.2)) (E25 K) := by kernel_rfl
theorem lq25 (st : ASt) (K : AExit → ASt → Option R) : L25 st K = vMap (V25 st) (fun x => lp (fun (x : Int × Int × (List Int) × (List Int) × (List Int)) (next : (Int × Int × (List Int) × (List Int) × (List Int)) → Option R) (ex : ((Int × Int × (List Int) × (List Int) × (List Int))) → Option R) => P.R07_block_r25 x.1 x.2.1 x.2.2.1 x.2.2.2.1 x.2.2.2.2 (fun v8 v19 h0_0 h1_0 h5_0 => next (v8, v19, h0_0, h1_0, h5_0)) (fun v8 v19 h0_0 h1_0 h5_0 => ex ((v8, v19, h0_0, h1_0, h5_0)))) x (E25 K)) := by
  unfold L25
  cases V25 st with
  | none => rfl
  | some x => simp only [P.R07_block_l25_eq]; rfl
theorem loop25 : LoopOk D (loopAt Tryd.f66 25) := loopOk_lp (X := Int × Int × (List Int) × (List Int) × (List Int)) (Y := (Int × Int × (List Int) × (List Int) × (List Int))) (fun x => S25 x.1 x.2.1 x.2.2.1 x.2.2.2.1 x.2.2.2.2) V25_ok (stp := (fun (x : Int × Int × (List Int) × (List Int) × (List Int)) (next : (Int × Int × (List Int) × (List Int) × (List Int)) → Option R) (ex : ((Int × Int × (List Int) × (List Int) × (List Int))) → Option R) => P.R07_block_r25 x.1 x.2.1 x.2.2.1 x.2.2.2.1 x.2.2.2.2 (fun v8 v19 h0_0 h1_0 h5_0 => next (v8, v19, h0_0, h1_0, h5_0)) (fun v8 v19 h0_0 h1_0 h5_0 => ex ((v8, v19, h0_0, h1_0, h5_0))))) (enc := E25) (L := L25) (by kernel_rfl) lq25 round25
theorem body (a0 : List Int) (a1 : List Int) (a2 : Bool) (K : AVal → Option R) : bodyA D Tryd.f66 [.any] [.arr .u64 8 a0, .sl (.ints .u8 a1), .v (.bool a2)] K = P.R07_block a0 a1 a2 (fun r0 => K (.arr .u64 8 r0)) := by
  rw [P.R07_block_eq]
  kernel_rfl
theorem loops : loopsOf (Tryd.f66.body.getD .skip) = [loopAt Tryd.f66 11, loopAt Tryd.f66 25] := by kernel_rfl
noncomputable def spec0 : Abs.Spec := fun args K => match args with
  | [.arr .u64 8 a0, .sl (.ints .u8 a1), .v (.bool a2)] => P.R07_block a0 a1 a2 (fun r0 => K (.arr .u64 8 r0))
  | _ => none
noncomputable def spec : Abs.Spec := fun args K => spec0 (coerL [.any, .sl (.ints .u8 []), .any] args) K
theorem ok0 : Proved Tryd.prog [(0, [.arr .u32 64 P.roots256]), (1, [.arr .u64 80 P.roots512])] 66 spec0 := by
  refine proved_of (D := D) (fn := Tryd.f66) (c := Tryd.f66.body.getD .skip) [.any] (by kernel_rfl) (globsPlain_of (by kernel_rfl)) (by kernel_rfl) (by kernel_rfl) (by kernel_rfl) ⟨R07_roots256.ok, R07_roots512.ok, R07_words.ok, R07_mix.ok, trivial⟩ trivial ?_ ?_
  · rw [loops]; exact ⟨loop11, loop25, trivial⟩
  · intro args K r h
    unfold spec0 at h
    split at h
    · rw [body]; exact h
    · cases h
theorem ok : Proved Tryd.prog [(0, [.arr .u32 64 P.roots256]), (1, [.arr .u64 80 P.roots512])] 66 spec := proved_coer _ ok0
end R07_block
end

section
open Go Go.Abs Go.Proofs
set_option maxRecDepth 100000
set_option linter.unusedVariables false
namespace R07_Add
def S4 (v5 : Int) (v6 : List Int) (h0_0 : Int) (h0_1 : List Int) (h0_2 : List Int) (h0_3 : Int) (h1_0 : Int) (h1_1 : List Int) (h1_3 : Int) : ASt := ⟨[(2, .ptr 0 0), (4, .ptr 1 0), (5, .v (.int .i64 v5)), (6, .sl (.ints .u8 v6))], [(0, some ⟨.box 26 [.v (.int .i64 h0_0), .arr .u64 8 h0_1, .sl (.ints .u8 h0_2), .v (.int .u64 h0_3)], false⟩), (1, some ⟨.box 26 [.v (.int .i64 h1_0), .arr .u64 8 h1_1, .v (.slice none 0 0), .v (.int .u64 h1_3)], false⟩)], 40, 41⟩
def V4 : ASt → Option (Int × (List Int) × Int × (List Int) × (List Int) × Int × Int × (List Int) × Int)
  | ⟨[(2, .ptr 0 0), (4, .ptr 1 0), (5, .v (.int .i64 v5)), (6, .sl (.ints .u8 v6))], [(0, some ⟨.box 26 [.v (.int .i64 h0_0), .arr .u64 8 h0_1, .sl (.ints .u8 h0_2), .v (.int .u64 h0_3)], false⟩), (1, some ⟨.box 26 [.v (.int .i64 h1_0), .arr .u64 8 h1_1, .v (.slice none 0 0), .v (.int .u64 h1_3)], false⟩)], 40, 41⟩ => some (v5, v6, h0_0, h0_1, h0_2, h0_3, h1_0, h1_1, h1_3)
  | _ => none
theorem V4_ok (st : ASt) (x : Int × (List Int) × Int × (List Int) × (List Int) × Int × Int × (List Int) × Int) (h : V4 st = some x) : st = S4 x.1 x.2.1 x.2.2.1 x.2.2.2.1 x.2.2.2.2.1 x.2.2.2.2.2.1 x.2.2.2.2.2.2.1 x.2.2.2.2.2.2.2.1 x.2.2.2.2.2.2.2.2 := by
  unfold V4 at h
  split at h
  · cases h; rfl
  · cases h
noncomputable def L4 : LSpec := fun st K => match V4 st with
  | some x => P.R07_Add_l4 x.1 x.2.1 x.2.2.1 x.2.2.2.1 x.2.2.2.2.1 x.2.2.2.2.2.1 x.2.2.2.2.2.2.1 x.2.2.2.2.2.2.2.1 x.2.2.2.2.2.2.2.2 (fun v5 v6 h0_0 h0_1 h0_2 h0_3 h1_0 h1_1 h1_3 => K (.exit 0) (S4 v5 v6 h0_0 h0_1 h0_2 h0_3 h1_0 h1_1 h1_3))
  | none => none
noncomputable def D : Ctx := ({ P := Tryd.prog, G := [(58, R07_Block.spec), (65, R01_Join.spec), (66, R07_block.spec)], globs := [(0, [.arr .u32 64 P.roots256]), (1, [.arr .u64 80 P.roots512])], hints := [(4, ⟨[2, 4, 5, 6], [], [4], [(6, .sl (.ints .u8 []))], some (40, [0, 1]), []⟩)], loops := [(4, L4)], inl := [] } : Ctx)
def E4 (K : AExit → ASt → Option R) : ((Int × (List Int) × Int × (List Int) × (List Int) × Int × Int × (List Int) × Int)) → Option R := (fun x => K (.exit 0) (S4 x.1 x.2.1 x.2.2.1 x.2.2.2.1 x.2.2.2.2.1 x.2.2.2.2.2.1 x.2.2.2.2.2.2.1 x.2.2.2.2.2.2.2.1 x.2.2.2.2.2.2.2.2))
theorem round4 (K : AExit → ASt → Option R) (next : ASt → Option R) (x : Int × (List Int) × Int × (List Int) × (List Int) × Int × Int × (List Int) × Int) : roundA D (loopAt Tryd.f17 4) K next (S4 x.1 x.2.1 x.2.2.1 x.2.2.2.1 x.2.2.2.2.1 x.2.2.2.2.2.1 x.2.2.2.2.2.2.1 x.2.2.2.2.2.2.2.1 x.2.2.2.2.2.2.2.2) = (fun (x : Int × (List Int) × Int × (List Int) × (List Int) × Int × Int × (List Int) × Int) (next : (Int × (List Int) × Int × (List Int) × (List Int) × Int × Int × (List Int) × Int) → Option R) (ex : ((Int × (List Int) × Int × (List Int) × (List Int) × Int × Int × (List Int) × Int)) → Option R) => P.R07_Add_r4 x.1 x.2.1 x.2.2.1 x.2.2.2.1 x.2.2.2.2.1 x.2.2.2.2.2.1 x.2.2.2.2.2.2.1 x.2.2.2.2.2.2.2.1 x.2.2.2.2.2.2.2.2 (fun v5 v6 h0_0 h0_1 h0_2 h0_3 h1_0 h1_1 h1_3 => next (v5, v6, h0_0, h0_1, h0_2, h0_3, h1_0, h1_1, h1_3)) (fun v5 v6 h0_0 h0_1 h0_2 h0_3 h1_0 h1_1 h1_3 => ex ((v5, v6, h0_0, h0_1, h0_2, h0_3, h1_0, h1_1, h1_3)))) x (fun x => next (S4 x.1 x.2.1 x.2.2.1 x.2.2.2.1 x.2.2.2.2.1 x.2.2.2.2.2.1 x.2.2.2.2.2.2.1 x.2.2.2.2.2.2.2.1 x.2.2.2.2.2.2.2.2)) (E4 K) := by kernel_rfl
theorem lq4 (st : ASt) (K : AExit → ASt → Option R) : L4 st K = vMap (V4 st) (fun x => lp (fun (x : Int × (List Int) × Int × (List Int) × (List Int) × Int × Int × (List Int) × Int) (next : (Int × (List Int) × Int × (List Int) × (List Int) × Int × Int × (List Int) × Int) → Option R) (ex : ((Int × (List Int) × Int × (List Int) × (List Int) × Int × Int × (List Int) × Int)) → Option R) => P.R07_Add_r4 x.1 x.2.1 x.2.2.1 x.2.2.2.1 x.2.2.2.2.1 x.2.2.2.2.2.1 x.2.2.2.2.2.2.1 x.2.2.2.2.2.2.2.1 x.2.2.2.2.2.2.2.2 (fun v5 v6 h0_0 h0_1 h0_2 h0_3 h1_0 h1_1 h1_3 => next (v5, v6, h0_0, h0_1, h0_2, h0_3, h1_0, h1_1, h1_3)) (fun v5 v6 h0_0 h0_1 h0_2 h0_3 h1_0 h1_1 h1_3 => ex ((v5, v6, h0_0, h0_1, h0_2, h0_3, h1_0, h1_1, h1_3)))) x (E4 K)) := by
  unfold L4
  cases V4 st with
  | none => rfl
  | some x => simp only [P.R07_Add_l4_eq]; rfl
theorem loop4 : LoopOk D (loopAt Tryd.f17 4) := loopOk_lp (X := Int × (List Int) × Int × (List Int) × (List Int) × Int × Int × (List Int) × Int) (Y := (Int × (List Int) × Int × (List Int) × (List Int) × Int × Int × (List Int) × Int)) (fun x => S4 x.1 x.2.1 x.2.2.1 x.2.2.2.1 x.2.2.2.2.1 x.2.2.2.2.2.1 x.2.2.2.2.2.2.1 x.2.2.2.2.2.2.2.1 x.2.2.2.2.2.2.2.2) V4_ok (stp := (fun (x : Int × (List Int) × Int × (List Int) × (List Int) × Int × Int × (List Int) × Int) (next : (Int × (List Int) × Int × (List Int) × (List Int) × Int × Int × (List Int) × Int) → Option R) (ex : ((Int × (List Int) × Int × (List Int) × (List Int) × Int × Int × (List Int) × Int)) → Option R) => P.R07_Add_r4 x.1 x.2.1 x.2.2.1 x.2.2.2.1 x.2.2.2.2.1 x.2.2.2.2.2.1 x.2.2.2.2.2.2.1 x.2.2.2.2.2.2.2.1 x.2.2.2.2.2.2.2.2 (fun v5 v6 h0_0 h0_1 h0_2 h0_3 h1_0 h1_1 h1_3 => next (v5, v6, h0_0, h0_1, h0_2, h0_3, h1_0, h1_1, h1_3)) (fun v5 v6 h0_0 h0_1 h0_2 h0_3 h1_0 h1_1 h1_3 => ex ((v5, v6, h0_0, h0_1, h0_2, h0_3, h1_0, h1_1, h1_3))))) (enc := E4) (L := L4) (by kernel_rfl) lq4 round4
theorem body (a0_Kind : Int) (a0_Words : List Int) (a0_Tail : List Int) (a0_Size : Int) (a1 : List Int) (K : AVal → Option R) : bodyA D Tryd.f17 [.agg [.any, .any, .sl (.ints .u8 []), .any]] [.agg [.v (.int .i64 a0_Kind), .arr .u64 8 a0_Words, .sl (.ints .u8 a0_Tail), .v (.int .u64 a0_Size)], .sl (.ints .u8 a1)] K = P.R07_Add a0_Kind a0_Words a0_Tail a0_Size a1 (fun r0_Kind r0_Words r0_Tail r0_Size => K (.agg [.v (.int .i64 r0_Kind), .arr .u64 8 r0_Words, .sl (.ints .u8 r0_Tail), .v (.int .u64 r0_Size)])) := by
  rw [P.R07_Add_eq]
  kernel_rfl
theorem loops : loopsOf (Tryd.f17.body.getD .skip) = [loopAt Tryd.f17 4] := by kernel_rfl
noncomputable def spec0 : Abs.Spec := fun args K => match args with
  | [.agg [.v (.int .i64 a0_Kind), .arr .u64 8 a0_Words, .sl (.ints .u8 a0_Tail), .v (.int .u64 a0_Size)], .sl (.ints .u8 a1)] => P.R07_Add a0_Kind a0_Words a0_Tail a0_Size a1 (fun r0_Kind r0_Words r0_Tail r0_Size => K (.agg [.v (.int .i64 r0_Kind), .arr .u64 8 r0_Words, .sl (.ints .u8 r0_Tail), .v (.int .u64 r0_Size)]))
  | _ => none
noncomputable def spec : Abs.Spec := fun args K => spec0 (coerL [.agg [.any, .any, .sl (.ints .u8 []), .any], .sl (.ints .u8 [])] args) K
theorem ok0 : Proved Tryd.prog [(0, [.arr .u32 64 P.roots256]), (1, [.arr .u64 80 P.roots512])] 17 spec0 := by
  refine proved_of (D := D) (fn := Tryd.f17) (c := Tryd.f17.body.getD .skip) [.agg [.any, .any, .sl (.ints .u8 []), .any]] (by kernel_rfl) (globsPlain_of (by kernel_rfl)) (by kernel_rfl) (by kernel_rfl) (by kernel_rfl) ⟨R07_Block.ok, R01_Join.ok, R07_block.ok, trivial⟩ trivial ?_ ?_
  · rw [loops]; exact ⟨loop4, trivial⟩
  · intro args K r h
    unfold spec0 at h
    split at h
    · rw [body]; exact h
    · cases h
theorem ok : Proved Tryd.prog [(0, [.arr .u32 64 P.roots256]), (1, [.arr .u64 80 P.roots512])] 17 spec := proved_coer _ ok0
end R07_Add
end
