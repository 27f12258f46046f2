/-
  XmssRight, part 13: an interpreter of my own over abstract values, the pure functions, the walks and the plain law.
-/

import Derived.Test.YtjhnljhjpnjieaaDoorXmssRightI
import Derived.Test.YtjhnljhjpnjieaaDoorXmssRightH
import Derived.Test.YtjhnljhjpnjieaaDoorXmssRightL
import Derived.Test.YtjhnljhjpnjieaaDoorProg
import Derived.KernelRfl
import Derived.Test.YtjhnljhjpnjieaaDoorXmssRightK

section
open Go Go.Abs Go.Proofs
set_option maxRecDepth 100000
set_option maxHeartbeats 0
set_option linter.unusedVariables false
namespace slices_Grow_byte
noncomputable def D : Ctx := ({ P := Tryd.prog, G := [], globs := GLO.gx, hints := [], loops := [], inl := [] } : Ctx)
theorem body (a : Int) (K : AVal → Option R) : bodyW D Tryd.f129 5 (.ints .u8 []) [.v (.slice none 0 0), .v (.int .i64 a)] K = P.slices_Grow_byte a (fun b => K (.fr 5 (.ints .u8 b))) := by
 rw [P.slices_Grow_byte_eq]
 kernel_rfl
theorem loops : loopsOf (Tryd.f129.body.getD .skip) = [] := by kernel_rfl
noncomputable def spec0 : Abs.Spec := fun args K => match args with
 | [.v (.slice none 0 0), .v (.int .i64 a)] => P.slices_Grow_byte a (fun b => K (.fr 5 (.ints .u8 b)))
 | _ => none
noncomputable def spec : Abs.Spec := spec0
theorem ok0 : Proved Tryd.prog GLO.gx 129 spec0 := by
 refine provedW_of (D := D) (fn := Tryd.f129) (c := Tryd.f129.body.getD .skip) 5 (.ints .u8 []) (by kernel_rfl) (globsPlain_of (by kernel_rfl)) (by kernel_rfl) (by kernel_rfl) (by kernel_rfl) trivial trivial ?_ ?_
 · rw [loops]; exact trivial
 · intro args K r h
   unfold spec0 at h
   split at h
   · rw [body]; exact h
   · cases h
theorem ok : Proved Tryd.prog GLO.gx 129 spec := ok0
end slices_Grow_byte
end

section
open Go Go.Abs Go.Proofs
set_option maxRecDepth 100000
set_option maxHeartbeats 0
set_option linter.unusedVariables false
namespace slices_Concat_byte
abbrev X3 := (List (List Int)) × Int × (List (List Int)) × Int × Int
def S3 : X3 → ASt := fun (c, d, e, a, b) => ⟨[(0, .sl (.rows .u8 c)), (3, .v (.int .i64 d)), (9, .sl (.rows .u8 e)), (10, .v (.int .i64 a)), (11, .v (.int .i64 b))], [], 0, 36⟩
def V3 : ASt → Option X3
 | ⟨[(0, .sl (.rows .u8 c)), (3, .v (.int .i64 d)), (9, .sl (.rows .u8 e)), (10, .v (.int .i64 a)), (11, .v (.int .i64 b))], [], 0, 36⟩ => some (c, d, e, a, b)
 | _ => none
theorem V3_ok (st) (x) (h : V3 st = some x) : st = S3 x := by
 unfold V3 at h
 split at h
 · cases h; rfl
 · cases h
abbrev Y3 := X3
noncomputable def T3 : X3 → (X3 → Option R) → (Y3 → Option R) → Option R := fun (c, d, e, a, b) next ex => P.slices_Concat_byte_r3 c d e a b (fun c d e a b => next (c, d, e, a, b)) (fun c d e a b => ex (c, d, e, a, b))
abbrev X11 := (List (List Int)) × Int × Int × (List Int)
def S11 : X11 → ASt := fun (a, b, c, d) => ⟨[(6, .own 1), (25, .sl (.rows .u8 a)), (26, .v (.int .i64 b)), (27, .v (.int .i64 c))], [(1, some ⟨.row 5 (.ints .u8 d), false⟩), (0, none)], 2, 36⟩
def V11 : ASt → Option X11
 | ⟨[(6, .own 1), (25, .sl (.rows .u8 a)), (26, .v (.int .i64 b)), (27, .v (.int .i64 c))], [(1, some ⟨.row 5 (.ints .u8 d), false⟩), (0, none)], 2, 36⟩ => some (a, b, c, d)
 | _ => none
theorem V11_ok (st) (x) (h : V11 st = some x) : st = S11 x := by
 unfold V11 at h
 split at h
 · cases h; rfl
 · cases h
abbrev Y11 := X11
noncomputable def T11 : X11 → (X11 → Option R) → (Y11 → Option R) → Option R := fun (a, b, c, d) next ex => P.slices_Concat_byte_r11 a b c d (fun a b c d => next (a, b, c, d)) (fun a b c d => ex (a, b, c, d))
def E3 (K : AExit → ASt → Option R) : Y3 → Option R := (fun x => K (.exit 0) (S3 x))
noncomputable def L3 : LSpec := fun st K => vMap (V3 st) fun (c, d, e, a, b) => P.slices_Concat_byte_l3 c d e a b (fun c d e a b => K (.exit 0) (S3 (c, d, e, a, b)))
def E11 (K : AExit → ASt → Option R) : Y11 → Option R := (fun x => K (.exit 2) (S11 x))
noncomputable def L11 : LSpec := fun st K => vMap (V11 st) fun (a, b, c, d) => P.slices_Concat_byte_l11 a b c d (fun a b c d => K (.exit 2) (S11 (a, b, c, d)))
noncomputable def D : Ctx := ({ P := Tryd.prog, G := [(129, slices_Grow_byte.spec)], globs := GLO.gx, hints := [(11, ⟨[25, 26, 27], [(6, 5, .ints .u8 [])], [2], [], none, [], []⟩), (3, ⟨[0, 3, 9, 10, 11], [], [2], [], none, [], []⟩)], loops := [(3, L3), (11, L11)], inl := [] } : Ctx)
theorem round3 (K) (next) (x) : roundA D (loopAt Tryd.f105 3) K next (S3 x) = T3 x (fun x => next (S3 x)) (E3 K) := by kernel_rfl
theorem lq3 (st) (K) : L3 st K = vMap (V3 st) (fun x => lp T3 x (E3 K)) := by
 unfold L3
 cases V3 st with
 | none => rfl
 | some x => rw [P.slices_Concat_byte_l3_eq]; kernel_rfl
theorem loop3 : LoopOk D (loopAt Tryd.f105 3) := loopOk_lp S3 V3_ok (by kernel_rfl) lq3 round3
theorem round11 (K) (next) (x) : roundA D (loopAt Tryd.f105 11) K next (S11 x) = T11 x (fun x => next (S11 x)) (E11 K) := by kernel_rfl
theorem lq11 (st) (K) : L11 st K = vMap (V11 st) (fun x => lp T11 x (E11 K)) := by
 unfold L11
 cases V11 st with
 | none => rfl
 | some x => rw [P.slices_Concat_byte_l11_eq]; kernel_rfl
theorem loop11 : LoopOk D (loopAt Tryd.f105 11) := loopOk_lp S11 V11_ok (by kernel_rfl) lq11 round11
theorem body (a : List (List Int)) (K : AVal → Option R) : bodyA D Tryd.f105 [.fr 5 (.ints .u8 [])] [.sl (.rows .u8 a)] K = P.slices_Concat_byte a (fun b => K (.fr 5 (.ints .u8 b))) := by
 rw [P.slices_Concat_byte_eq]
 kernel_rfl
theorem loops : loopsOf (Tryd.f105.body.getD .skip) = [loopAt Tryd.f105 3, loopAt Tryd.f105 11] := by kernel_rfl
noncomputable def spec0 : Abs.Spec := fun args K => match args with
 | [.sl (.rows .u8 a)] => P.slices_Concat_byte a (fun b => K (.fr 5 (.ints .u8 b)))
 | _ => none
noncomputable def spec : Abs.Spec := fun args K => spec0 (coerL [.sl (.rows .u8 [])] args) K
theorem ok0 : Proved Tryd.prog GLO.gx 105 spec0 := by
 refine proved_of (D := D) (fn := Tryd.f105) (c := Tryd.f105.body.getD .skip) [.fr 5 (.ints .u8 [])] (by kernel_rfl) (globsPlain_of (by kernel_rfl)) (by kernel_rfl) (by kernel_rfl) (by kernel_rfl) ⟨slices_Grow_byte.ok, trivial⟩ trivial ?_ ?_
 · rw [loops]; exact ⟨loop3, loop11, trivial⟩
 · intro args K r h
   unfold spec0 at h
   split at h
   · rw [body]; exact h
   · cases h
theorem ok : Proved Tryd.prog GLO.gx 105 spec := proved_coer _ ok0
end slices_Concat_byte
end

section
open Go Go.Abs Go.Proofs
set_option maxRecDepth 100000
set_option maxHeartbeats 0
set_option linter.unusedVariables false
namespace bits_Join
noncomputable def D : Ctx := ({ P := Tryd.prog, G := [(105, slices_Concat_byte.spec)], globs := GLO.gx, hints := [], loops := [], inl := [] } : Ctx)
theorem body (a : List (List Int)) (K : AVal → Option R) : bodyA D Tryd.f62 [.fr 5 (.ints .u8 [])] [.sl (.rows .u8 a)] K = P.bits_Join a (fun b => K (.fr 5 (.ints .u8 b))) := by
 rw [P.bits_Join_eq]
 kernel_rfl
theorem loops : loopsOf (Tryd.f62.body.getD .skip) = [] := by kernel_rfl
noncomputable def spec0 : Abs.Spec := fun args K => match args with
 | [.sl (.rows .u8 a)] => P.bits_Join a (fun b => K (.fr 5 (.ints .u8 b)))
 | _ => none
noncomputable def spec : Abs.Spec := fun args K => spec0 (coerL [.sl (.rows .u8 [])] args) K
theorem ok0 : Proved Tryd.prog GLO.gx 62 spec0 := by
 refine proved_of (D := D) (fn := Tryd.f62) (c := Tryd.f62.body.getD .skip) [.fr 5 (.ints .u8 [])] (by kernel_rfl) (globsPlain_of (by kernel_rfl)) (by kernel_rfl) (by kernel_rfl) (by kernel_rfl) ⟨slices_Concat_byte.ok, trivial⟩ trivial ?_ ?_
 · rw [loops]; exact trivial
 · intro args K r h
   unfold spec0 at h
   split at h
   · rw [body]; exact h
   · cases h
theorem ok : Proved Tryd.prog GLO.gx 62 spec := proved_coer _ ok0
end bits_Join
end

section
open Go Go.Abs Go.Proofs
set_option maxRecDepth 100000
set_option maxHeartbeats 0
set_option linter.unusedVariables false
namespace wots_Put
noncomputable def D : Ctx := ({ P := Tryd.prog, G := [(60, bits_Be.spec), (62, bits_Join.spec)], globs := GLO.gx, hints := [], loops := [], inl := [] } : Ctx)
theorem body (a : List Int) (b : Int) (c : Int) (K : AVal → Option R) : bodyA D Tryd.f27 [.any] [.arr .u8 32 a, .v (.int .i64 b), .v (.int .u64 c)] K = P.wots_Put a b c (fun d => K (.arr .u8 32 d)) := by
 rw [P.wots_Put_eq]
 kernel_rfl
theorem loops : loopsOf (Tryd.f27.body.getD .skip) = [] := by kernel_rfl
noncomputable def spec0 : Abs.Spec := fun args K => match args with
 | [.arr .u8 32 a, .v (.int .i64 b), .v (.int .u64 c)] => P.wots_Put a b c (fun d => K (.arr .u8 32 d))
 | _ => none
noncomputable def spec : Abs.Spec := spec0
theorem ok0 : Proved Tryd.prog GLO.gx 27 spec0 := by
 refine proved_of (D := D) (fn := Tryd.f27) (c := Tryd.f27.body.getD .skip) [.any] (by kernel_rfl) (globsPlain_of (by kernel_rfl)) (by kernel_rfl) (by kernel_rfl) (by kernel_rfl) ⟨bits_Be.ok, bits_Join.ok, trivial⟩ trivial ?_ ?_
 · rw [loops]; exact trivial
 · intro args K r h
   unfold spec0 at h
   split at h
   · rw [body]; exact h
   · cases h
theorem ok : Proved Tryd.prog GLO.gx 27 spec := ok0
end wots_Put
end

section
open Go Go.Abs Go.Proofs
set_option maxRecDepth 100000
set_option maxHeartbeats 0
set_option linter.unusedVariables false
namespace sha_root512
noncomputable def D : Ctx := ({ P := Tryd.prog, G := [], globs := GLO.gx, hints := [], loops := [], inl := [] } : Ctx)
theorem body (a : Int) (K : AVal → Option R) : bodyA D Tryd.f139 [.any] [.v (.int .i64 a)] K = P.sha_root512 a (fun b => K (.v (.int .u64 b))) := by
 rw [P.sha_root512_eq]
 kernel_rfl
theorem loops : loopsOf (Tryd.f139.body.getD .skip) = [] := by kernel_rfl
noncomputable def spec0 : Abs.Spec := fun args K => match args with
 | [.v (.int .i64 a)] => P.sha_root512 a (fun b => K (.v (.int .u64 b)))
 | _ => none
noncomputable def spec : Abs.Spec := spec0
theorem ok0 : Proved Tryd.prog GLO.gx 139 spec0 := by
 refine proved_of (D := D) (fn := Tryd.f139) (c := Tryd.f139.body.getD .skip) [.any] (by kernel_rfl) (globsPlain_of (by kernel_rfl)) (by kernel_rfl) (by kernel_rfl) (by kernel_rfl) trivial trivial ?_ ?_
 · rw [loops]; exact trivial
 · intro args K r h
   unfold spec0 at h
   split at h
   · rw [body]; exact h
   · cases h
theorem ok : Proved Tryd.prog GLO.gx 139 spec := ok0
end sha_root512
end

section
open Go Go.Abs Go.Proofs
set_option maxRecDepth 100000
set_option maxHeartbeats 0
set_option linter.unusedVariables false
namespace sha_great
noncomputable def D : Ctx := ({ P := Tryd.prog, G := [(139, sha_root512.spec)], globs := GLO.gx, hints := [], loops := [], inl := [] } : Ctx)
theorem body  (K : AVal → Option R) : bodyA D Tryd.f120 [.any] [] K = P.sha_great (fun f e a b c d => K (.agg [.v (.int .i64 f), .v (.int .i64 e), .arr .i64 3 a, .arr .i64 3 b, .arr .i64 3 c, .arr .i64 3 d, .fn (.func 139) [] []])) := by
 rw [P.sha_great_eq]
 kernel_rfl
theorem loops : loopsOf (Tryd.f120.body.getD .skip) = [] := by kernel_rfl
noncomputable def spec0 : Abs.Spec := fun args K => match args with
 | [] => P.sha_great (fun f e a b c d => K (.agg [.v (.int .i64 f), .v (.int .i64 e), .arr .i64 3 a, .arr .i64 3 b, .arr .i64 3 c, .arr .i64 3 d, .fn (.func 139) [] []]))
 | _ => none
noncomputable def spec : Abs.Spec := spec0
theorem ok0 : Proved Tryd.prog GLO.gx 120 spec0 := by
 refine proved_of (D := D) (fn := Tryd.f120) (c := Tryd.f120.body.getD .skip) [.any] (by kernel_rfl) (globsPlain_of (by kernel_rfl)) (by kernel_rfl) (by kernel_rfl) (by kernel_rfl) ⟨sha_root512.ok, trivial⟩ trivial ?_ ?_
 · rw [loops]; exact trivial
 · intro args K r h
   unfold spec0 at h
   split at h
   · rw [body]; exact h
   · cases h
theorem ok : Proved Tryd.prog GLO.gx 120 spec := ok0
end sha_great
end

section
open Go Go.Abs Go.Proofs
set_option maxRecDepth 100000
set_option maxHeartbeats 0
set_option linter.unusedVariables false
namespace sha_root256
noncomputable def D : Ctx := ({ P := Tryd.prog, G := [], globs := GLO.gx, hints := [], loops := [], inl := [] } : Ctx)
theorem body (a : Int) (K : AVal → Option R) : bodyA D Tryd.f137 [.any] [.v (.int .i64 a)] K = P.sha_root256 a (fun b => K (.v (.int .u32 b))) := by
 rw [P.sha_root256_eq]
 kernel_rfl
theorem loops : loopsOf (Tryd.f137.body.getD .skip) = [] := by kernel_rfl
noncomputable def spec0 : Abs.Spec := fun args K => match args with
 | [.v (.int .i64 a)] => P.sha_root256 a (fun b => K (.v (.int .u32 b)))
 | _ => none
noncomputable def spec : Abs.Spec := spec0
theorem ok0 : Proved Tryd.prog GLO.gx 137 spec0 := by
 refine proved_of (D := D) (fn := Tryd.f137) (c := Tryd.f137.body.getD .skip) [.any] (by kernel_rfl) (globsPlain_of (by kernel_rfl)) (by kernel_rfl) (by kernel_rfl) (by kernel_rfl) trivial trivial ?_ ?_
 · rw [loops]; exact trivial
 · intro args K r h
   unfold spec0 at h
   split at h
   · rw [body]; exact h
   · cases h
theorem ok : Proved Tryd.prog GLO.gx 137 spec := ok0
end sha_root256
end

section
open Go Go.Abs Go.Proofs
set_option maxRecDepth 100000
set_option maxHeartbeats 0
set_option linter.unusedVariables false
namespace sha_small
noncomputable def D : Ctx := ({ P := Tryd.prog, G := [(137, sha_root256.spec)], globs := GLO.gx, hints := [], loops := [], inl := [] } : Ctx)
theorem body  (K : AVal → Option R) : bodyA D Tryd.f118 [.any] [] K = P.sha_small (fun f e a b c d => K (.agg [.v (.int .i64 f), .v (.int .i64 e), .arr .i64 3 a, .arr .i64 3 b, .arr .i64 3 c, .arr .i64 3 d, .fn (.func 137) [] []])) := by
 rw [P.sha_small_eq]
 kernel_rfl
theorem loops : loopsOf (Tryd.f118.body.getD .skip) = [] := by kernel_rfl
noncomputable def spec0 : Abs.Spec := fun args K => match args with
 | [] => P.sha_small (fun f e a b c d => K (.agg [.v (.int .i64 f), .v (.int .i64 e), .arr .i64 3 a, .arr .i64 3 b, .arr .i64 3 c, .arr .i64 3 d, .fn (.func 137) [] []]))
 | _ => none
noncomputable def spec : Abs.Spec := spec0
theorem ok0 : Proved Tryd.prog GLO.gx 118 spec0 := by
 refine proved_of (D := D) (fn := Tryd.f118) (c := Tryd.f118.body.getD .skip) [.any] (by kernel_rfl) (globsPlain_of (by kernel_rfl)) (by kernel_rfl) (by kernel_rfl) (by kernel_rfl) ⟨sha_root256.ok, trivial⟩ trivial ?_ ?_
 · rw [loops]; exact trivial
 · intro args K r h
   unfold spec0 at h
   split at h
   · rw [body]; exact h
   · cases h
theorem ok : Proved Tryd.prog GLO.gx 118 spec := ok0
end sha_small
end

section
open Go Go.Abs Go.Proofs
set_option maxRecDepth 100000
set_option maxHeartbeats 0
set_option linter.unusedVariables false
namespace bits_Num
abbrev X3 := Int × (List Int) × Int × Int
def S3 : X3 → ASt := fun (a, b, c, d) => ⟨[(3, .v (.int .u64 a)), (6, .sl (.ints .u8 b)), (7, .v (.int .i64 c)), (8, .v (.int .i64 d))], [], 0, 19⟩
def V3 : ASt → Option X3
 | ⟨[(3, .v (.int .u64 a)), (6, .sl (.ints .u8 b)), (7, .v (.int .i64 c)), (8, .v (.int .i64 d))], [], 0, 19⟩ => some (a, b, c, d)
 | _ => none
theorem V3_ok (st) (x) (h : V3 st = some x) : st = S3 x := by
 unfold V3 at h
 split at h
 · cases h; rfl
 · cases h
abbrev Y3 := X3
noncomputable def T3 : X3 → (X3 → Option R) → (Y3 → Option R) → Option R := fun (a, b, c, d) next ex => P.bits_Num_r3 a b c d (fun a b c d => next (a, b, c, d)) (fun a b c d => ex (a, b, c, d))
def E3 (K : AExit → ASt → Option R) : Y3 → Option R := (fun x => K (.exit 0) (S3 x))
noncomputable def L3 : LSpec := fun st K => vMap (V3 st) fun (a, b, c, d) => P.bits_Num_l3 a b c d (fun a b c d => K (.exit 0) (S3 (a, b, c, d)))
noncomputable def D : Ctx := ({ P := Tryd.prog, G := [], globs := GLO.gx, hints := [(3, ⟨[3, 6, 7, 8], [], [2], [], none, [], []⟩)], loops := [(3, L3)], inl := [] } : Ctx)
theorem round3 (K) (next) (x) : roundA D (loopAt Tryd.f134 3) K next (S3 x) = T3 x (fun x => next (S3 x)) (E3 K) := by kernel_rfl
theorem lq3 (st) (K) : L3 st K = vMap (V3 st) (fun x => lp T3 x (E3 K)) := by
 unfold L3
 cases V3 st with
 | none => rfl
 | some x => rw [P.bits_Num_l3_eq]; kernel_rfl
theorem loop3 : LoopOk D (loopAt Tryd.f134 3) := loopOk_lp S3 V3_ok (by kernel_rfl) lq3 round3
theorem body (a : List Int) (K : AVal → Option R) : bodyA D Tryd.f134 [.any] [.sl (.ints .u8 a)] K = P.bits_Num a (fun b => K (.v (.int .u64 b))) := by
 rw [P.bits_Num_eq]
 kernel_rfl
theorem loops : loopsOf (Tryd.f134.body.getD .skip) = [loopAt Tryd.f134 3] := by kernel_rfl
noncomputable def spec0 : Abs.Spec := fun args K => match args with
 | [.sl (.ints .u8 a)] => P.bits_Num a (fun b => K (.v (.int .u64 b)))
 | _ => none
noncomputable def spec : Abs.Spec := fun args K => spec0 (coerL [.sl (.ints .u8 [])] args) K
theorem ok0 : Proved Tryd.prog GLO.gx 134 spec0 := by
 refine proved_of (D := D) (fn := Tryd.f134) (c := Tryd.f134.body.getD .skip) [.any] (by kernel_rfl) (globsPlain_of (by kernel_rfl)) (by kernel_rfl) (by kernel_rfl) (by kernel_rfl) trivial trivial ?_ ?_
 · rw [loops]; exact ⟨loop3, trivial⟩
 · intro args K r h
   unfold spec0 at h
   split at h
   · rw [body]; exact h
   · cases h
theorem ok : Proved Tryd.prog GLO.gx 134 spec := proved_coer _ ok0
end bits_Num
end

section
open Go Go.Abs Go.Proofs
set_option maxRecDepth 100000
set_option maxHeartbeats 0
set_option linter.unusedVariables false
namespace sha_engine_uint32_rotated
noncomputable def D : Ctx := ({ P := Tryd.prog, G := [(137, sha_root256.spec)], globs := GLO.gx, hints := [], loops := [], inl := [] } : Ctx)
theorem body (f : Int) (e : Int) (a : List Int) (b : List Int) (c : List Int) (d : List Int) (g : Int) (h : Int) (K : AVal → Option R) : bodyA D Tryd.f157 [.any] [.agg [.v (.int .i64 f), .v (.int .i64 e), .arr .i64 3 a, .arr .i64 3 b, .arr .i64 3 c, .arr .i64 3 d, .fn (.func 137) [] []], .v (.int .u32 g), .v (.int .i64 h)] K = P.sha_engine_uint32_rotated f e a b c d g h (fun i => K (.v (.int .u32 i))) := by
 rw [P.sha_engine_uint32_rotated_eq]
 kernel_rfl
theorem loops : loopsOf (Tryd.f157.body.getD .skip) = [] := by kernel_rfl
noncomputable def spec0 : Abs.Spec := fun args K => match args with
 | [.agg [.v (.int .i64 f), .v (.int .i64 e), .arr .i64 3 a, .arr .i64 3 b, .arr .i64 3 c, .arr .i64 3 d, .fn (.func 137) [] []], .v (.int .u32 g), .v (.int .i64 h)] => P.sha_engine_uint32_rotated f e a b c d g h (fun i => K (.v (.int .u32 i)))
 | _ => none
noncomputable def spec : Abs.Spec := spec0
theorem ok0 : Proved Tryd.prog GLO.gx 157 spec0 := by
 refine proved_of (D := D) (fn := Tryd.f157) (c := Tryd.f157.body.getD .skip) [.any] (by kernel_rfl) (globsPlain_of (by kernel_rfl)) (by kernel_rfl) (by kernel_rfl) (by kernel_rfl) ⟨sha_root256.ok, trivial⟩ trivial ?_ ?_
 · rw [loops]; exact trivial
 · intro args K r h
   unfold spec0 at h
   split at h
   · rw [body]; exact h
   · cases h
theorem ok : Proved Tryd.prog GLO.gx 157 spec := ok0
end sha_engine_uint32_rotated
end

section
open Go Go.Abs Go.Proofs
set_option maxRecDepth 100000
set_option maxHeartbeats 0
set_option linter.unusedVariables false
namespace sha_engine_uint32_high
noncomputable def D : Ctx := ({ P := Tryd.prog, G := [(137, sha_root256.spec), (157, sha_engine_uint32_rotated.spec)], globs := GLO.gx, hints := [], loops := [], inl := [] } : Ctx)
theorem body (f : Int) (e : Int) (a : List Int) (b : List Int) (c : List Int) (d : List Int) (g : Int) (h : Int) (K : AVal → Option R) : bodyA D Tryd.f148 [.any] [.agg [.v (.int .i64 f), .v (.int .i64 e), .arr .i64 3 a, .arr .i64 3 b, .arr .i64 3 c, .arr .i64 3 d, .fn (.func 137) [] []], .v (.int .u32 g), .v (.int .i64 h)] K = P.sha_engine_uint32_high f e a b c d g h (fun i => K (.v (.int .u32 i))) := by
 rw [P.sha_engine_uint32_high_eq]
 kernel_rfl
theorem loops : loopsOf (Tryd.f148.body.getD .skip) = [] := by kernel_rfl
noncomputable def spec0 : Abs.Spec := fun args K => match args with
 | [.agg [.v (.int .i64 f), .v (.int .i64 e), .arr .i64 3 a, .arr .i64 3 b, .arr .i64 3 c, .arr .i64 3 d, .fn (.func 137) [] []], .v (.int .u32 g), .v (.int .i64 h)] => P.sha_engine_uint32_high f e a b c d g h (fun i => K (.v (.int .u32 i)))
 | _ => none
noncomputable def spec : Abs.Spec := spec0
theorem ok0 : Proved Tryd.prog GLO.gx 148 spec0 := by
 refine proved_of (D := D) (fn := Tryd.f148) (c := Tryd.f148.body.getD .skip) [.any] (by kernel_rfl) (globsPlain_of (by kernel_rfl)) (by kernel_rfl) (by kernel_rfl) (by kernel_rfl) ⟨sha_root256.ok, sha_engine_uint32_rotated.ok, trivial⟩ trivial ?_ ?_
 · rw [loops]; exact trivial
 · intro args K r h
   unfold spec0 at h
   split at h
   · rw [body]; exact h
   · cases h
theorem ok : Proved Tryd.prog GLO.gx 148 spec := ok0
end sha_engine_uint32_high
end

section
open Go Go.Abs Go.Proofs
set_option maxRecDepth 100000
set_option maxHeartbeats 0
set_option linter.unusedVariables false
namespace sha_engine_uint32_low
noncomputable def D : Ctx := ({ P := Tryd.prog, G := [(137, sha_root256.spec), (157, sha_engine_uint32_rotated.spec)], globs := GLO.gx, hints := [], loops := [], inl := [] } : Ctx)
theorem body (f : Int) (e : Int) (a : List Int) (b : List Int) (c : List Int) (d : List Int) (g : Int) (h : Int) (K : AVal → Option R) : bodyA D Tryd.f149 [.any] [.agg [.v (.int .i64 f), .v (.int .i64 e), .arr .i64 3 a, .arr .i64 3 b, .arr .i64 3 c, .arr .i64 3 d, .fn (.func 137) [] []], .v (.int .u32 g), .v (.int .i64 h)] K = P.sha_engine_uint32_low f e a b c d g h (fun i => K (.v (.int .u32 i))) := by
 rw [P.sha_engine_uint32_low_eq]
 kernel_rfl
theorem loops : loopsOf (Tryd.f149.body.getD .skip) = [] := by kernel_rfl
noncomputable def spec0 : Abs.Spec := fun args K => match args with
 | [.agg [.v (.int .i64 f), .v (.int .i64 e), .arr .i64 3 a, .arr .i64 3 b, .arr .i64 3 c, .arr .i64 3 d, .fn (.func 137) [] []], .v (.int .u32 g), .v (.int .i64 h)] => P.sha_engine_uint32_low f e a b c d g h (fun i => K (.v (.int .u32 i)))
 | _ => none
noncomputable def spec : Abs.Spec := spec0
theorem ok0 : Proved Tryd.prog GLO.gx 149 spec0 := by
 refine proved_of (D := D) (fn := Tryd.f149) (c := Tryd.f149.body.getD .skip) [.any] (by kernel_rfl) (globsPlain_of (by kernel_rfl)) (by kernel_rfl) (by kernel_rfl) (by kernel_rfl) ⟨sha_root256.ok, sha_engine_uint32_rotated.ok, trivial⟩ trivial ?_ ?_
 · rw [loops]; exact trivial
 · intro args K r h
   unfold spec0 at h
   split at h
   · rw [body]; exact h
   · cases h
theorem ok : Proved Tryd.prog GLO.gx 149 spec := ok0
end sha_engine_uint32_low
end
