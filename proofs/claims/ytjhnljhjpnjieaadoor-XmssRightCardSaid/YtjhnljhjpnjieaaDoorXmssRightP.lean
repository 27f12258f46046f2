/-
  XmssRight, part 16: an interpreter of my own over abstract values, the pure functions, the walks and the plain law.
-/

import Derived.Test.YtjhnljhjpnjieaaDoorXmssRightJ
import Derived.Test.YtjhnljhjpnjieaaDoorXmssRightH
import Derived.Test.YtjhnljhjpnjieaaDoorXmssRightL
import Derived.Test.YtjhnljhjpnjieaaDoorProg
import Derived.Test.YtjhnljhjpnjieaaDoorXmssRightI
import Derived.Test.YtjhnljhjpnjieaaDoorXmssRightK
import Derived.Test.YtjhnljhjpnjieaaDoorXmssRightO
import Derived.KernelRfl
import Derived.Test.YtjhnljhjpnjieaaDoorXmssRightM

section
open Go Go.Abs Go.Proofs
set_option maxRecDepth 100000
set_option maxHeartbeats 0
set_option linter.unusedVariables false
namespace sha_End
abbrev X10 := Int × (List Int) × Int × (List Int) × Int × (List Int) × Int × (List Int)
def S10 : X10 → ASt := fun (g, d, e, f, a, b, c, h) => ⟨[(7, .own 40), (1, .ptr 0 0), (3, .v (.int .i64 g)), (45, .arr .u64 8 d), (46, .v (.int .i64 e))], [(40, some ⟨.row 5 (.ints .u8 f), false⟩), (0, some ⟨.box 116 [.v (.int .i64 a), .arr .u64 8 b, .own 5, .v (.int .u64 c)], false⟩), (5, some ⟨.row 5 (.ints .u8 h), false⟩)], 41, 62⟩
def V10 : ASt → Option X10
 | ⟨[(7, .own 40), (1, .ptr 0 0), (3, .v (.int .i64 g)), (45, .arr .u64 8 d), (46, .v (.int .i64 e))], [(40, some ⟨.row 5 (.ints .u8 f), false⟩), (0, some ⟨.box 116 [.v (.int .i64 a), .arr .u64 8 b, .own 5, .v (.int .u64 c)], false⟩), (5, some ⟨.row 5 (.ints .u8 h), false⟩)], 41, 62⟩ => some (g, d, e, f, a, b, c, h)
 | _ => none
theorem V10_ok (st) (x) (h : V10 st = some x) : st = S10 x := by
 unfold V10 at h
 split at h
 · cases h; rfl
 · cases h
abbrev Y10 := X10
noncomputable def T10 : X10 → (X10 → Option R) → (Y10 → Option R) → Option R := fun (g, d, e, f, a, b, c, h) next ex => P.sha_End_r10 g d e f a b c h (fun g d e f a b c h => next (g, d, e, f, a, b, c, h)) (fun g d e f a b c h => ex (g, d, e, f, a, b, c, h))
def E10 (K : AExit → ASt → Option R) : Y10 → Option R := (fun x => K (.exit 0) (S10 x))
noncomputable def L10 : LSpec := fun st K => vMap (V10 st) fun (g, d, e, f, a, b, c, h) => P.sha_End_l10 g d e f a b c h (fun g d e f a b c h => K (.exit 0) (S10 (g, d, e, f, a, b, c, h)))
noncomputable def D : Ctx := ({ P := Tryd.prog, G := [(60, bits_Be.spec), (88, sha_Add.spec), (116, sha_blockSize.spec)], globs := GLO.gx, hints := [(10, ⟨[1, 3, 45, 46], [(7, 5, .ints .u8 [])], [2], [], some (40, [0, 5]), [], []⟩)], loops := [(10, L10)], inl := [] } : Ctx)
theorem round10 (K) (next) (x) : roundA D (loopAt Tryd.f87 10) K next (S10 x) = T10 x (fun x => next (S10 x)) (E10 K) := by kernel_rfl
theorem lq10 (st) (K) : L10 st K = vMap (V10 st) (fun x => lp T10 x (E10 K)) := by
 unfold L10
 cases V10 st with
 | none => rfl
 | some x => rw [P.sha_End_l10_eq]; kernel_rfl
theorem loop10 : LoopOk D (loopAt Tryd.f87 10) := loopOk_lp S10 V10_ok (by kernel_rfl) lq10 round10
theorem body (b : Int) (a : List Int) (c : List Int) (d : Int) (K : AVal → Option R) : bodyW D Tryd.f87 5 (.ints .u8 []) [.agg [.v (.int .i64 b), .arr .u64 8 a, .sl (.ints .u8 c), .v (.int .u64 d)]] K = P.sha_End b a c d (fun e => K (.fr 5 (.ints .u8 e))) := by
 rw [P.sha_End_eq]
 kernel_rfl
theorem loops : loopsOf (Tryd.f87.body.getD .skip) = [loopAt Tryd.f87 10] := by kernel_rfl
noncomputable def spec0 : Abs.Spec := fun args K => match args with
 | [.agg [.v (.int .i64 b), .arr .u64 8 a, .sl (.ints .u8 c), .v (.int .u64 d)]] => P.sha_End b a c d (fun e => K (.fr 5 (.ints .u8 e)))
 | _ => none
noncomputable def spec : Abs.Spec := fun args K => spec0 (coerL [.agg [.any, .any, .sl (.ints .u8 []), .any]] args) K
theorem ok0 : Proved Tryd.prog GLO.gx 87 spec0 := by
 refine provedW_of (D := D) (fn := Tryd.f87) (c := Tryd.f87.body.getD .skip) 5 (.ints .u8 []) (by kernel_rfl) (globsPlain_of (by kernel_rfl)) (by kernel_rfl) (by kernel_rfl) (by kernel_rfl) ⟨bits_Be.ok, sha_Add.ok, sha_blockSize.ok, trivial⟩ trivial ?_ ?_
 · rw [loops]; exact ⟨loop10, trivial⟩
 · intro args K r h
   unfold spec0 at h
   split at h
   · rw [body]; exact h
   · cases h
theorem ok : Proved Tryd.prog GLO.gx 87 spec := proved_coer _ ok0
end sha_End
end

section
open Go Go.Abs Go.Proofs
set_option maxRecDepth 100000
set_option maxHeartbeats 0
set_option linter.unusedVariables false
namespace wots_short
noncomputable def D : Ctx := ({ P := Tryd.prog, G := [(62, bits_Join.spec)], globs := GLO.gx, hints := [], loops := [], inl := [] } : Ctx)
theorem body (a : List Int) (K : AVal → Option R) : bodyA D Tryd.f133 [.fr 5 (.ints .u8 [])] [.arr .u8 32 a] K = P.wots_short a (fun b => K (.fr 5 (.ints .u8 b))) := by
 rw [P.wots_short_eq]
 kernel_rfl
theorem loops : loopsOf (Tryd.f133.body.getD .skip) = [] := by kernel_rfl
noncomputable def spec0 : Abs.Spec := fun args K => match args with
 | [.arr .u8 32 a] => P.wots_short a (fun b => K (.fr 5 (.ints .u8 b)))
 | _ => none
noncomputable def spec : Abs.Spec := spec0
theorem ok0 : Proved Tryd.prog GLO.gx 133 spec0 := by
 refine proved_of (D := D) (fn := Tryd.f133) (c := Tryd.f133.body.getD .skip) [.fr 5 (.ints .u8 [])] (by kernel_rfl) (globsPlain_of (by kernel_rfl)) (by kernel_rfl) (by kernel_rfl) (by kernel_rfl) ⟨bits_Join.ok, trivial⟩ trivial ?_ ?_
 · rw [loops]; exact trivial
 · intro args K r h
   unfold spec0 at h
   split at h
   · rw [body]; exact h
   · cases h
theorem ok : Proved Tryd.prog GLO.gx 133 spec := ok0
end wots_short
end

section
open Go Go.Abs Go.Proofs
set_option maxRecDepth 100000
set_option maxHeartbeats 0
set_option linter.unusedVariables false
namespace wots_hashed_f1
noncomputable def D : Ctx := ({ P := Tryd.prog, G := [(62, bits_Join.spec), (87, sha_End.spec), (88, sha_Add.spec), (133, wots_short.spec)], globs := GLO.gx, hints := [], loops := [], inl := [] } : Ctx)
theorem body (i : List Int) (j : List Int) (c : Int) (a : List Int) (d : List Int) (e : Int) (k : Int) (f : Int) (b : List Int) (g : List Int) (h : Int) (K : AVal → Option R) : bodyA D Tryd.f132 [.sl (.ints .u8 [])] [.arr .u8 32 i, .sl (.ints .u8 j), .sta [.v (.int .i64 c), .arr .u64 8 a, .sl (.ints .u8 d), .v (.int .u64 e)], .sta [.v (.int .i64 k)], .sta [.v (.int .i64 f), .arr .u64 8 b, .sl (.ints .u8 g), .v (.int .u64 h)]] K = P.wots_hashed_f1 i j c a d e k f b g h (fun l => K (.sl (.ints .u8 l))) := by
 rw [P.wots_hashed_f1_eq]
 kernel_rfl
theorem loops : loopsOf (Tryd.f132.body.getD .skip) = [] := by kernel_rfl
noncomputable def spec0 : Abs.Spec := fun args K => match args with
 | [.arr .u8 32 i, .sl (.ints .u8 j), .sta [.v (.int .i64 c), .arr .u64 8 a, .sl (.ints .u8 d), .v (.int .u64 e)], .sta [.v (.int .i64 k)], .sta [.v (.int .i64 f), .arr .u64 8 b, .sl (.ints .u8 g), .v (.int .u64 h)]] => P.wots_hashed_f1 i j c a d e k f b g h (fun l => K (.sl (.ints .u8 l)))
 | _ => none
noncomputable def spec : Abs.Spec := fun args K => spec0 (coerL [.any, .sl (.ints .u8 []), .agg [.any, .any, .sl (.ints .u8 []), .any], .any, .agg [.any, .any, .sl (.ints .u8 []), .any]] args) K
theorem ok0 : Proved Tryd.prog GLO.gx 132 spec0 := by
 refine proved_of (D := D) (fn := Tryd.f132) (c := Tryd.f132.body.getD .skip) [.sl (.ints .u8 [])] (by kernel_rfl) (globsPlain_of (by kernel_rfl)) (by kernel_rfl) (by kernel_rfl) (by kernel_rfl) ⟨bits_Join.ok, sha_End.ok, sha_Add.ok, wots_short.ok, trivial⟩ trivial ?_ ?_
 · rw [loops]; exact trivial
 · intro args K r h
   unfold spec0 at h
   split at h
   · rw [body]; exact h
   · cases h
theorem ok : Proved Tryd.prog GLO.gx 132 spec := proved_coer _ ok0
end wots_hashed_f1
end

section
open Go Go.Abs Go.Proofs
set_option maxRecDepth 100000
set_option maxHeartbeats 0
set_option linter.unusedVariables false
namespace wots_hashed
noncomputable def D : Ctx := ({ P := Tryd.prog, G := [(131, wots_filled.spec), (132, wots_hashed_f1.spec)], globs := GLO.gx, hints := [], loops := [], inl := [], sta := true } : Ctx)
theorem body (j : Int) (k : List Int) (K : AVal → Option R) : bodyA D Tryd.f109 [.agg [.agg [.any, .any, .sl (.ints .u8 []), .any], .any, .agg [.any, .any, .sl (.ints .u8 []), .any]]] [.v (.int .i64 j), .sl (.ints .u8 k)] K = P.wots_hashed j k (fun c a d e i f b g h => K (.fn (.func 132) [] [.sta [.v (.int .i64 c), .arr .u64 8 a, .sl (.ints .u8 d), .v (.int .u64 e)], .sta [.v (.int .i64 i)], .sta [.v (.int .i64 f), .arr .u64 8 b, .sl (.ints .u8 g), .v (.int .u64 h)]])) := by
 rw [P.wots_hashed_eq]
 kernel_rfl
theorem loops : loopsOf (Tryd.f109.body.getD .skip) = [] := by kernel_rfl
noncomputable def spec0 : Abs.Spec := fun args K => match args with
 | [.v (.int .i64 j), .sl (.ints .u8 k)] => P.wots_hashed j k (fun c a d e i f b g h => K (.fn (.func 132) [] [.sta [.v (.int .i64 c), .arr .u64 8 a, .sl (.ints .u8 d), .v (.int .u64 e)], .sta [.v (.int .i64 i)], .sta [.v (.int .i64 f), .arr .u64 8 b, .sl (.ints .u8 g), .v (.int .u64 h)]]))
 | _ => none
noncomputable def spec : Abs.Spec := fun args K => spec0 (coerL [.any, .sl (.ints .u8 [])] args) K
theorem ok0 : Proved Tryd.prog GLO.gx 109 spec0 := by
 refine proved_of (D := D) (fn := Tryd.f109) (c := Tryd.f109.body.getD .skip) [.agg [.agg [.any, .any, .sl (.ints .u8 []), .any], .any, .agg [.any, .any, .sl (.ints .u8 []), .any]]] (by kernel_rfl) (globsPlain_of (by kernel_rfl)) (by kernel_rfl) (by kernel_rfl) (by kernel_rfl) ⟨wots_filled.ok, wots_hashed_f1.ok, trivial⟩ trivial ?_ ?_
 · rw [loops]; exact trivial
 · intro args K r h
   unfold spec0 at h
   split at h
   · rw [body]; exact h
   · cases h
theorem ok : Proved Tryd.prog GLO.gx 109 spec := proved_coer _ ok0
end wots_hashed
end

section
open Go Go.Abs Go.Proofs
set_option maxRecDepth 100000
set_option maxHeartbeats 0
set_option linter.unusedVariables false
namespace math_bits_RotateLeft64
noncomputable def D : Ctx := ({ P := Tryd.prog, G := [], globs := GLO.gx, hints := [], loops := [], inl := [] } : Ctx)
theorem body (a : Int) (b : Int) (K : AVal → Option R) : bodyA D Tryd.f153 [.any] [.v (.int .u64 a), .v (.int .i64 b)] K = P.math_bits_RotateLeft64 a b (fun c => K (.v (.int .u64 c))) := by
 rw [P.math_bits_RotateLeft64_eq]
 kernel_rfl
theorem loops : loopsOf (Tryd.f153.body.getD .skip) = [] := by kernel_rfl
noncomputable def spec0 : Abs.Spec := fun args K => match args with
 | [.v (.int .u64 a), .v (.int .i64 b)] => P.math_bits_RotateLeft64 a b (fun c => K (.v (.int .u64 c)))
 | _ => none
noncomputable def spec : Abs.Spec := spec0
theorem ok0 : Proved Tryd.prog GLO.gx 153 spec0 := by
 refine proved_of (D := D) (fn := Tryd.f153) (c := Tryd.f153.body.getD .skip) [.any] (by kernel_rfl) (globsPlain_of (by kernel_rfl)) (by kernel_rfl) (by kernel_rfl) (by kernel_rfl) trivial trivial ?_ ?_
 · rw [loops]; exact trivial
 · intro args K r h
   unfold spec0 at h
   split at h
   · rw [body]; exact h
   · cases h
theorem ok : Proved Tryd.prog GLO.gx 153 spec := ok0
end math_bits_RotateLeft64
end

section
open Go Go.Abs Go.Proofs
set_option maxRecDepth 100000
set_option maxHeartbeats 0
set_option linter.unusedVariables false
namespace keccak_Permute
abbrev X2_2 := Int × (List Int) × (List Int) × (List Int)
def S2_2 : X2_2 → ASt := fun (d, a, b, c) => ⟨[(0, .ptr 0 0), (2, .ptr 2 0), (4, .v (.int .i64 d))], [(1, some ⟨.box 121 [.arr .u64 25 a], false⟩), (0, some ⟨.box 121 [.arr .u64 25 b], false⟩), (2, some ⟨.box 189 [.arr .u64 5 c], false⟩)], 3, 44⟩
def V2_2 : ASt → Option X2_2
 | ⟨[(0, .ptr 0 0), (2, .ptr 2 0), (4, .v (.int .i64 d))], [(1, some ⟨.box 121 [.arr .u64 25 a], false⟩), (0, some ⟨.box 121 [.arr .u64 25 b], false⟩), (2, some ⟨.box 189 [.arr .u64 5 c], false⟩)], 3, 44⟩ => some (d, a, b, c)
 | _ => none
theorem V2_2_ok (st) (x) (h : V2_2 st = some x) : st = S2_2 x := by
 unfold V2_2 at h
 split at h
 · cases h; rfl
 · cases h
abbrev Y2_2 := X2_2
noncomputable def T2_2 : X2_2 → (X2_2 → Option R) → (Y2_2 → Option R) → Option R := fun (d, a, b, c) next ex => P.keccak_Permute_r2_2 d a b c (fun d a b c => next (d, a, b, c)) (fun d a b c => ex (d, a, b, c))
abbrev X1_6 := Int × Int × Int × Int × Int × (List Int) × (List Int) × (List Int) × (List Int)
def S1_6 : X1_6 → ASt := fun (f, g, h, i, e, a, b, c, d) => ⟨[(0, .ptr 0 0), (1, .v (.int .u64 f)), (4, .ptr 3 0), (5, .v (.int .i64 g)), (6, .v (.int .u64 h)), (7, .v (.int .i64 i)), (16, .v (.int .i64 e))], [(3, some ⟨.box 189 [.arr .u64 5 a], false⟩), (2, some ⟨.box 189 [.arr .u64 5 b], false⟩), (1, some ⟨.box 121 [.arr .u64 25 c], false⟩), (0, some ⟨.box 121 [.arr .u64 25 d], false⟩)], 4, 116⟩
def V1_6 : ASt → Option X1_6
 | ⟨[(0, .ptr 0 0), (1, .v (.int .u64 f)), (4, .ptr 3 0), (5, .v (.int .i64 g)), (6, .v (.int .u64 h)), (7, .v (.int .i64 i)), (16, .v (.int .i64 e))], [(3, some ⟨.box 189 [.arr .u64 5 a], false⟩), (2, some ⟨.box 189 [.arr .u64 5 b], false⟩), (1, some ⟨.box 121 [.arr .u64 25 c], false⟩), (0, some ⟨.box 121 [.arr .u64 25 d], false⟩)], 4, 116⟩ => some (f, g, h, i, e, a, b, c, d)
 | _ => none
theorem V1_6_ok (st) (x) (h : V1_6 st = some x) : st = S1_6 x := by
 unfold V1_6 at h
 split at h
 · cases h; rfl
 · cases h
abbrev Y1_6 := X1_6
noncomputable def T1_6 : X1_6 → (X1_6 → Option R) → (Y1_6 → Option R) → Option R := fun (f, g, h, i, e, a, b, c, d) next ex => P.keccak_Permute_r1_6 f g h i e a b c d (fun f g h i e a b c d => next (f, g, h, i, e, a, b, c, d)) (fun f g h i e a b c d => ex (f, g, h, i, e, a, b, c, d))
abbrev X1_2 := Int × Int × (List Int) × (List Int) × (List Int) × (List Int)
def S1_2 : X1_2 → ASt := fun (f, e, a, b, c, d) => ⟨[(0, .ptr 0 0), (1, .v (.int .u64 f)), (4, .ptr 3 0), (16, .v (.int .i64 e))], [(0, some ⟨.box 121 [.arr .u64 25 a], false⟩), (1, some ⟨.box 121 [.arr .u64 25 b], false⟩), (2, some ⟨.box 189 [.arr .u64 5 c], false⟩), (3, some ⟨.box 189 [.arr .u64 5 d], false⟩)], 4, 116⟩
def V1_2 : ASt → Option X1_2
 | ⟨[(0, .ptr 0 0), (1, .v (.int .u64 f)), (4, .ptr 3 0), (16, .v (.int .i64 e))], [(0, some ⟨.box 121 [.arr .u64 25 a], false⟩), (1, some ⟨.box 121 [.arr .u64 25 b], false⟩), (2, some ⟨.box 189 [.arr .u64 5 c], false⟩), (3, some ⟨.box 189 [.arr .u64 5 d], false⟩)], 4, 116⟩ => some (f, e, a, b, c, d)
 | _ => none
theorem V1_2_ok (st) (x) (h : V1_2 st = some x) : st = S1_2 x := by
 unfold V1_2 at h
 split at h
 · cases h; rfl
 · cases h
abbrev Y1_2 := X1_2
noncomputable def T1_2 : X1_2 → (X1_2 → Option R) → (Y1_2 → Option R) → Option R := fun (f, e, a, b, c, d) next ex => P.keccak_Permute_r1_2 f e a b c d (fun f e a b c d => next (f, e, a, b, c, d)) (fun f e a b c d => ex (f, e, a, b, c, d))
abbrev X1_12 := Int × Int × (List Int) × Int × (List Int) × (List Int) × (List Int) × (List Int)
def S1_12 : X1_12 → ASt := fun (g, h, e, f, a, b, c, d) => ⟨[(0, .ptr 0 0), (1, .v (.int .u64 g)), (8, .v (.int .u64 h)), (51, .arr .i64 24 e), (52, .v (.int .i64 f))], [(3, some ⟨.box 189 [.arr .u64 5 a], false⟩), (2, some ⟨.box 189 [.arr .u64 5 b], false⟩), (1, some ⟨.box 121 [.arr .u64 25 c], false⟩), (0, some ⟨.box 121 [.arr .u64 25 d], false⟩)], 4, 116⟩
def V1_12 : ASt → Option X1_12
 | ⟨[(0, .ptr 0 0), (1, .v (.int .u64 g)), (8, .v (.int .u64 h)), (51, .arr .i64 24 e), (52, .v (.int .i64 f))], [(3, some ⟨.box 189 [.arr .u64 5 a], false⟩), (2, some ⟨.box 189 [.arr .u64 5 b], false⟩), (1, some ⟨.box 121 [.arr .u64 25 c], false⟩), (0, some ⟨.box 121 [.arr .u64 25 d], false⟩)], 4, 116⟩ => some (g, h, e, f, a, b, c, d)
 | _ => none
theorem V1_12_ok (st) (x) (h : V1_12 st = some x) : st = S1_12 x := by
 unfold V1_12 at h
 split at h
 · cases h; rfl
 · cases h
abbrev Y1_12 := X1_12
noncomputable def T1_12 : X1_12 → (X1_12 → Option R) → (Y1_12 → Option R) → Option R := fun (g, h, e, f, a, b, c, d) next ex => P.keccak_Permute_r1_12 g h e f a b c d (fun g h e f a b c d => next (g, h, e, f, a, b, c, d)) (fun g h e f a b c d => ex (g, h, e, f, a, b, c, d))
abbrev X1_21 := Int × Int × Int × (List Int) × (List Int) × (List Int) × (List Int) × (List Int)
def S1_21 : X1_21 → ASt := fun (h, f, g, a, b, c, d, e) => ⟨[(0, .ptr 0 0), (1, .v (.int .u64 h)), (11, .v (.int .i64 f)), (12, .ptr 4 0), (83, .v (.int .i64 g))], [(3, some ⟨.box 189 [.arr .u64 5 a], false⟩), (2, some ⟨.box 189 [.arr .u64 5 b], false⟩), (1, some ⟨.box 121 [.arr .u64 25 c], false⟩), (0, some ⟨.box 121 [.arr .u64 25 d], false⟩), (4, some ⟨.box 189 [.arr .u64 5 e], false⟩)], 5, 116⟩
def V1_21 : ASt → Option X1_21
 | ⟨[(0, .ptr 0 0), (1, .v (.int .u64 h)), (11, .v (.int .i64 f)), (12, .ptr 4 0), (83, .v (.int .i64 g))], [(3, some ⟨.box 189 [.arr .u64 5 a], false⟩), (2, some ⟨.box 189 [.arr .u64 5 b], false⟩), (1, some ⟨.box 121 [.arr .u64 25 c], false⟩), (0, some ⟨.box 121 [.arr .u64 25 d], false⟩), (4, some ⟨.box 189 [.arr .u64 5 e], false⟩)], 5, 116⟩ => some (h, f, g, a, b, c, d, e)
 | _ => none
theorem V1_21_ok (st) (x) (h : V1_21 st = some x) : st = S1_21 x := by
 unfold V1_21 at h
 split at h
 · cases h; rfl
 · cases h
abbrev Y1_21 := X1_21
noncomputable def T1_21 : X1_21 → (X1_21 → Option R) → (Y1_21 → Option R) → Option R := fun (h, f, g, a, b, c, d, e) next ex => P.keccak_Permute_r1_21 h f g a b c d e (fun h f g a b c d e => next (h, f, g, a, b, c, d, e)) (fun h f g a b c d e => ex (h, f, g, a, b, c, d, e))
abbrev X1_17 := Int × Int × (List Int) × (List Int) × (List Int) × (List Int)
def S1_17 : X1_17 → ASt := fun (f, e, a, b, c, d) => ⟨[(0, .ptr 0 0), (1, .v (.int .u64 f)), (11, .v (.int .i64 e))], [(0, some ⟨.box 121 [.arr .u64 25 a], false⟩), (1, some ⟨.box 121 [.arr .u64 25 b], false⟩), (2, some ⟨.box 189 [.arr .u64 5 c], false⟩), (3, some ⟨.box 189 [.arr .u64 5 d], false⟩)], 4, 116⟩
def V1_17 : ASt → Option X1_17
 | ⟨[(0, .ptr 0 0), (1, .v (.int .u64 f)), (11, .v (.int .i64 e))], [(0, some ⟨.box 121 [.arr .u64 25 a], false⟩), (1, some ⟨.box 121 [.arr .u64 25 b], false⟩), (2, some ⟨.box 189 [.arr .u64 5 c], false⟩), (3, some ⟨.box 189 [.arr .u64 5 d], false⟩)], 4, 116⟩ => some (f, e, a, b, c, d)
 | _ => none
theorem V1_17_ok (st) (x) (h : V1_17 st = some x) : st = S1_17 x := by
 unfold V1_17 at h
 split at h
 · cases h; rfl
 · cases h
abbrev Y1_17 := X1_17
noncomputable def T1_17 : X1_17 → (X1_17 → Option R) → (Y1_17 → Option R) → Option R := fun (f, e, a, b, c, d) next ex => P.keccak_Permute_r1_17 f e a b c d (fun f e a b c d => next (f, e, a, b, c, d)) (fun f e a b c d => ex (f, e, a, b, c, d))
abbrev X2 := (List Int) × Int × (List Int) × (List Int)
def S2 : X2 → ASt := fun (c, d, a, b) => ⟨[(1, .ptr 0 0), (2, .ptr 1 0), (5, .arr .u64 24 c), (6, .v (.int .i64 d))], [(0, some ⟨.box 121 [.arr .u64 25 a], false⟩), (1, some ⟨.box 121 [.arr .u64 25 b], false⟩)], 2, 13⟩
def V2 : ASt → Option X2
 | ⟨[(1, .ptr 0 0), (2, .ptr 1 0), (5, .arr .u64 24 c), (6, .v (.int .i64 d))], [(0, some ⟨.box 121 [.arr .u64 25 a], false⟩), (1, some ⟨.box 121 [.arr .u64 25 b], false⟩)], 2, 13⟩ => some (c, d, a, b)
 | _ => none
theorem V2_ok (st) (x) (h : V2 st = some x) : st = S2 x := by
 unfold V2 at h
 split at h
 · cases h; rfl
 · cases h
abbrev Y2 := X2
noncomputable def T2 : X2 → (X2 → Option R) → (Y2 → Option R) → Option R := fun (c, d, a, b) next ex => P.keccak_Permute_r2 c d a b (fun c d a b => next (c, d, a, b)) (fun c d a b => ex (c, d, a, b))
def E2_2 (K : AExit → ASt → Option R) : Y2_2 → Option R := (fun x => K (.exit 0) (S2_2 x))
noncomputable def L2_2 : LSpec := fun st K => vMap (V2_2 st) fun (d, a, b, c) => P.keccak_Permute_l2_2 d a b c (fun d a b c => K (.exit 0) (S2_2 (d, a, b, c)))
def E1_6 (K : AExit → ASt → Option R) : Y1_6 → Option R := (fun x => K (.exit 2) (S1_6 x))
noncomputable def L1_6 : LSpec := fun st K => vMap (V1_6 st) fun (f, g, h, i, e, a, b, c, d) => P.keccak_Permute_l1_6 f g h i e a b c d (fun f g h i e a b c d => K (.exit 2) (S1_6 (f, g, h, i, e, a, b, c, d)))
def E1_2 (K : AExit → ASt → Option R) : Y1_2 → Option R := (fun x => K (.exit 0) (S1_2 x))
noncomputable def L1_2 : LSpec := fun st K => vMap (V1_2 st) fun (f, e, a, b, c, d) => P.keccak_Permute_l1_2 f e a b c d (fun f e a b c d => K (.exit 0) (S1_2 (f, e, a, b, c, d)))
def E1_12 (K : AExit → ASt → Option R) : Y1_12 → Option R := (fun x => K (.exit 4) (S1_12 x))
noncomputable def L1_12 : LSpec := fun st K => vMap (V1_12 st) fun (g, h, e, f, a, b, c, d) => P.keccak_Permute_l1_12 g h e f a b c d (fun g h e f a b c d => K (.exit 4) (S1_12 (g, h, e, f, a, b, c, d)))
def E1_21 (K : AExit → ASt → Option R) : Y1_21 → Option R := (fun x => K (.exit 8) (S1_21 x))
noncomputable def L1_21 : LSpec := fun st K => vMap (V1_21 st) fun (h, f, g, a, b, c, d, e) => P.keccak_Permute_l1_21 h f g a b c d e (fun h f g a b c d e => K (.exit 8) (S1_21 (h, f, g, a, b, c, d, e)))
def E1_17 (K : AExit → ASt → Option R) : Y1_17 → Option R := (fun x => K (.exit 6) (S1_17 x))
noncomputable def L1_17 : LSpec := fun st K => vMap (V1_17 st) fun (f, e, a, b, c, d) => P.keccak_Permute_l1_17 f e a b c d (fun f e a b c d => K (.exit 6) (S1_17 (f, e, a, b, c, d)))
def E2 (K : AExit → ASt → Option R) : Y2 → Option R := (fun x => K (.exit 0) (S2 x))
noncomputable def L2 : LSpec := fun st K => vMap (V2 st) fun (c, d, a, b) => P.keccak_Permute_l2 c d a b (fun c d a b => K (.exit 0) (S2 (c, d, a, b)))
noncomputable def D2 : Ctx := ({ P := Tryd.prog, G := [(153, math_bits_RotateLeft64.spec)], globs := GLO.gx, hints := [(2, ⟨[0, 2, 4], [], [2], [], none, [], []⟩)], loops := [(2, L2_2)], inl := [] } : Ctx)
noncomputable def D1 : Ctx := ({ P := Tryd.prog, G := [(153, math_bits_RotateLeft64.spec)], globs := GLO.gx, hints := [(21, ⟨[0, 1, 11, 12, 83], [], [], [], none, [], []⟩), (17, ⟨[0, 1, 11], [], [], [], none, [], []⟩), (12, ⟨[0, 1, 8, 51, 52], [], [], [], none, [], []⟩), (6, ⟨[0, 1, 4, 5, 6, 7, 16], [], [], [], none, [], []⟩), (2, ⟨[0, 1, 4, 16], [], [], [], none, [], []⟩)], loops := [(6, L1_6), (2, L1_2), (12, L1_12), (21, L1_21), (17, L1_17)], inl := [(152, bodyIn D2 Tryd.f152)] } : Ctx)
noncomputable def D : Ctx := ({ P := Tryd.prog, G := [(153, math_bits_RotateLeft64.spec)], globs := GLO.gx, hints := [(2, ⟨[1, 2, 5, 6], [], [2], [], none, [], []⟩)], loops := [(2, L2)], inl := [(140, bodyIn D1 Tryd.f140)] } : Ctx)
theorem round2_2 (K) (next) (x) : roundA D2 (loopAt Tryd.f152 2) K next (S2_2 x) = T2_2 x (fun x => next (S2_2 x)) (E2_2 K) := by kernel_rfl
theorem lq2_2 (st) (K) : L2_2 st K = vMap (V2_2 st) (fun x => lp T2_2 x (E2_2 K)) := by
 unfold L2_2
 cases V2_2 st with
 | none => rfl
 | some x => rw [P.keccak_Permute_l2_2_eq]; kernel_rfl
theorem loop2_2 : LoopOk D2 (loopAt Tryd.f152 2) := loopOk_lp S2_2 V2_2_ok (by kernel_rfl) lq2_2 round2_2
theorem round1_6 (K) (next) (x) : roundA D1 (loopAt Tryd.f140 6) K next (S1_6 x) = T1_6 x (fun x => next (S1_6 x)) (E1_6 K) := by kernel_rfl
theorem lq1_6 (st) (K) : L1_6 st K = vMap (V1_6 st) (fun x => lp T1_6 x (E1_6 K)) := by
 unfold L1_6
 cases V1_6 st with
 | none => rfl
 | some x => rw [P.keccak_Permute_l1_6_eq]; kernel_rfl
theorem loop1_6 : LoopOk D1 (loopAt Tryd.f140 6) := loopOk_lp S1_6 V1_6_ok (by kernel_rfl) lq1_6 round1_6
theorem round1_2 (K) (next) (x) : roundA D1 (loopAt Tryd.f140 2) K next (S1_2 x) = T1_2 x (fun x => next (S1_2 x)) (E1_2 K) := by kernel_rfl
theorem lq1_2 (st) (K) : L1_2 st K = vMap (V1_2 st) (fun x => lp T1_2 x (E1_2 K)) := by
 unfold L1_2
 cases V1_2 st with
 | none => rfl
 | some x => rw [P.keccak_Permute_l1_2_eq]; kernel_rfl
theorem loop1_2 : LoopOk D1 (loopAt Tryd.f140 2) := loopOk_lp S1_2 V1_2_ok (by kernel_rfl) lq1_2 round1_2
theorem round1_12 (K) (next) (x) : roundA D1 (loopAt Tryd.f140 12) K next (S1_12 x) = T1_12 x (fun x => next (S1_12 x)) (E1_12 K) := by kernel_rfl
theorem lq1_12 (st) (K) : L1_12 st K = vMap (V1_12 st) (fun x => lp T1_12 x (E1_12 K)) := by
 unfold L1_12
 cases V1_12 st with
 | none => rfl
 | some x => rw [P.keccak_Permute_l1_12_eq]; kernel_rfl
theorem loop1_12 : LoopOk D1 (loopAt Tryd.f140 12) := loopOk_lp S1_12 V1_12_ok (by kernel_rfl) lq1_12 round1_12
theorem round1_21 (K) (next) (x) : roundA D1 (loopAt Tryd.f140 21) K next (S1_21 x) = T1_21 x (fun x => next (S1_21 x)) (E1_21 K) := by kernel_rfl
theorem lq1_21 (st) (K) : L1_21 st K = vMap (V1_21 st) (fun x => lp T1_21 x (E1_21 K)) := by
 unfold L1_21
 cases V1_21 st with
 | none => rfl
 | some x => rw [P.keccak_Permute_l1_21_eq]; kernel_rfl
theorem loop1_21 : LoopOk D1 (loopAt Tryd.f140 21) := loopOk_lp S1_21 V1_21_ok (by kernel_rfl) lq1_21 round1_21
theorem round1_17 (K) (next) (x) : roundA D1 (loopAt Tryd.f140 17) K next (S1_17 x) = T1_17 x (fun x => next (S1_17 x)) (E1_17 K) := by kernel_rfl
theorem lq1_17 (st) (K) : L1_17 st K = vMap (V1_17 st) (fun x => lp T1_17 x (E1_17 K)) := by
 unfold L1_17
 cases V1_17 st with
 | none => rfl
 | some x => rw [P.keccak_Permute_l1_17_eq]; kernel_rfl
theorem loop1_17 : LoopOk D1 (loopAt Tryd.f140 17) := loopOk_lp S1_17 V1_17_ok (by kernel_rfl) lq1_17 round1_17
theorem round2 (K) (next) (x) : roundA D (loopAt Tryd.f124 2) K next (S2 x) = T2 x (fun x => next (S2 x)) (E2 K) := by kernel_rfl
theorem lq2 (st) (K) : L2 st K = vMap (V2 st) (fun x => lp T2 x (E2 K)) := by
 unfold L2
 cases V2 st with
 | none => rfl
 | some x => rw [P.keccak_Permute_l2_eq]; kernel_rfl
theorem loop2 : LoopOk D (loopAt Tryd.f124 2) := loopOk_lp S2 V2_ok (by kernel_rfl) lq2 round2
theorem body (a : List Int) (K : AVal → Option R) : bodyA D Tryd.f124 [.any] [.arr .u64 25 a] K = P.keccak_Permute a (fun b => K (.arr .u64 25 b)) := by
 rw [P.keccak_Permute_eq]
 kernel_rfl
theorem loops : loopsOf (Tryd.f124.body.getD .skip) = [loopAt Tryd.f124 2] := by kernel_rfl
theorem loops1 : loopsOf (Tryd.f140.body.getD .skip) = [loopAt Tryd.f140 2, loopAt Tryd.f140 6, loopAt Tryd.f140 12, loopAt Tryd.f140 17, loopAt Tryd.f140 21] := by kernel_rfl
theorem loops2 : loopsOf (Tryd.f152.body.getD .skip) = [loopAt Tryd.f152 2] := by kernel_rfl
noncomputable def spec0 : Abs.Spec := fun args K => match args with
 | [.arr .u64 25 a] => P.keccak_Permute a (fun b => K (.arr .u64 25 b))
 | _ => none
noncomputable def spec : Abs.Spec := spec0
theorem ok0 : Proved Tryd.prog GLO.gx 124 spec0 := by
 refine proved_of (D := D) (fn := Tryd.f124) (c := Tryd.f124.body.getD .skip) [.any] (by kernel_rfl) (globsPlain_of (by kernel_rfl)) (by kernel_rfl) (by kernel_rfl) (by kernel_rfl) ⟨math_bits_RotateLeft64.ok, trivial⟩ ⟨run_of (D := D1) (D' := D) (fn := Tryd.f140) (c := Tryd.f140.body.getD .skip) rfl rfl (by kernel_rfl) (globsPlain_of (by kernel_rfl)) (by kernel_rfl) (by kernel_rfl) (by kernel_rfl) ⟨math_bits_RotateLeft64.ok, trivial⟩ ⟨run_of (D := D2) (D' := D1) (fn := Tryd.f152) (c := Tryd.f152.body.getD .skip) rfl rfl (by kernel_rfl) (globsPlain_of (by kernel_rfl)) (by kernel_rfl) (by kernel_rfl) (by kernel_rfl) ⟨math_bits_RotateLeft64.ok, trivial⟩ trivial (by rw [loops2]; exact ⟨loop2_2, trivial⟩) (fun _ _ _ _ _ h => h), trivial⟩ (by rw [loops1]; exact ⟨loop1_2, loop1_6, loop1_12, loop1_17, loop1_21, trivial⟩) (fun _ _ _ _ _ h => h), trivial⟩ ?_ ?_
 · rw [loops]; exact ⟨loop2, trivial⟩
 · intro args K r h
   unfold spec0 at h
   split at h
   · rw [body]; exact h
   · cases h
theorem ok : Proved Tryd.prog GLO.gx 124 spec := ok0
end keccak_Permute
end

section
open Go Go.Abs Go.Proofs
set_option maxRecDepth 100000
set_option maxHeartbeats 0
set_option linter.unusedVariables false
namespace keccak_rate
noncomputable def D : Ctx := ({ P := Tryd.prog, G := [], globs := GLO.gx, hints := [], loops := [], inl := [] } : Ctx)
theorem body (a : Int) (K : AVal → Option R) : bodyA D Tryd.f122 [.any] [.v (.int .i64 a)] K = P.keccak_rate a (fun b => K (.v (.int .i64 b))) := by
 rw [P.keccak_rate_eq]
 kernel_rfl
theorem loops : loopsOf (Tryd.f122.body.getD .skip) = [] := by kernel_rfl
noncomputable def spec0 : Abs.Spec := fun args K => match args with
 | [.v (.int .i64 a)] => P.keccak_rate a (fun b => K (.v (.int .i64 b)))
 | _ => none
noncomputable def spec : Abs.Spec := spec0
theorem ok0 : Proved Tryd.prog GLO.gx 122 spec0 := by
 refine proved_of (D := D) (fn := Tryd.f122) (c := Tryd.f122.body.getD .skip) [.any] (by kernel_rfl) (globsPlain_of (by kernel_rfl)) (by kernel_rfl) (by kernel_rfl) (by kernel_rfl) trivial trivial ?_ ?_
 · rw [loops]; exact trivial
 · intro args K r h
   unfold spec0 at h
   split at h
   · rw [body]; exact h
   · cases h
theorem ok : Proved Tryd.prog GLO.gx 122 spec := ok0
end keccak_rate
end
