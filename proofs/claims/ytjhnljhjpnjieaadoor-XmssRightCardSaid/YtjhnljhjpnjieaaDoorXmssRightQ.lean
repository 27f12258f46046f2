/-
  XmssRight, part 17: an interpreter of my own over abstract values, the pure functions, the walks and the plain law.
-/

import Derived.Test.YtjhnljhjpnjieaaDoorXmssRightI
import Derived.Test.YtjhnljhjpnjieaaDoorXmssRightH
import Derived.Test.YtjhnljhjpnjieaaDoorProg
import Derived.Test.YtjhnljhjpnjieaaDoorXmssRightP
import Derived.KernelRfl
import Derived.Test.YtjhnljhjpnjieaaDoorXmssRightM
import Derived.Test.YtjhnljhjpnjieaaDoorXmssRightJ
import Derived.Test.YtjhnljhjpnjieaaDoorXmssRightK

section
open Go Go.Abs Go.Proofs
set_option maxRecDepth 100000
set_option maxHeartbeats 0
set_option linter.unusedVariables false
namespace keccak_Absorb
abbrev X5 := (List Int) × Int × Int × Int × Int × (List Int) × Int × Bool × Int × (List Int) × Int × Bool
def S5 : X5 → ASt := fun (k, l, i, j, a, b, c, d, e, f, g, h) => ⟨[(1, .sl (.ints .u8 k)), (2, .ptr 0 0), (4, .ptr 1 0), (5, .v (.int .i64 l)), (14, .v (.int .i64 i)), (15, .v (.int .i64 j))], [(0, some ⟨.box 123 [.v (.int .i64 a), .arr .u64 25 b, .v (.int .i64 c), .v (.bool d)], false⟩), (1, some ⟨.box 123 [.v (.int .i64 e), .arr .u64 25 f, .v (.int .i64 g), .v (.bool h)], false⟩)], 40, 40⟩
def V5 : ASt → Option X5
 | ⟨[(1, .sl (.ints .u8 k)), (2, .ptr 0 0), (4, .ptr 1 0), (5, .v (.int .i64 l)), (14, .v (.int .i64 i)), (15, .v (.int .i64 j))], [(0, some ⟨.box 123 [.v (.int .i64 a), .arr .u64 25 b, .v (.int .i64 c), .v (.bool d)], false⟩), (1, some ⟨.box 123 [.v (.int .i64 e), .arr .u64 25 f, .v (.int .i64 g), .v (.bool h)], false⟩)], 40, 40⟩ => some (k, l, i, j, a, b, c, d, e, f, g, h)
 | _ => none
theorem V5_ok (st) (x) (h : V5 st = some x) : st = S5 x := by
 unfold V5 at h
 split at h
 · cases h; rfl
 · cases h
abbrev Y5 := X5
noncomputable def T5 : X5 → (X5 → Option R) → (Y5 → Option R) → Option R := fun (k, l, i, j, a, b, c, d, e, f, g, h) next ex => P.keccak_Absorb_r5 k l i j a b c d e f g h (fun k l i j a b c d e f g h => next (k, l, i, j, a, b, c, d, e, f, g, h)) (fun k l i j a b c d e f g h => ex (k, l, i, j, a, b, c, d, e, f, g, h))
def E5 (K : AExit → ASt → Option R) : Y5 → Option R := (fun x => K (.exit 0) (S5 x))
noncomputable def L5 : LSpec := fun st K => vMap (V5 st) fun (k, l, i, j, a, b, c, d, e, f, g, h) => P.keccak_Absorb_l5 k l i j a b c d e f g h (fun k l i j a b c d e f g h => K (.exit 0) (S5 (k, l, i, j, a, b, c, d, e, f, g, h)))
noncomputable def D1 : Ctx := ({ P := Tryd.prog, G := [(122, keccak_rate.spec), (124, keccak_Permute.spec)], globs := GLO.gx, hints := [], loops := [], inl := [] } : Ctx)
noncomputable def D : Ctx := ({ P := Tryd.prog, G := [(122, keccak_rate.spec), (124, keccak_Permute.spec)], globs := GLO.gx, hints := [(5, ⟨[1, 2, 4, 5, 14, 15], [], [4], [], some (40, [0, 1]), [], []⟩)], loops := [(5, L5)], inl := [(125, bodyIn D1 Tryd.f125)] } : Ctx)
theorem round5 (K) (next) (x) : roundA D (loopAt Tryd.f91 5) K next (S5 x) = T5 x (fun x => next (S5 x)) (E5 K) := by kernel_rfl
theorem lq5 (st) (K) : L5 st K = vMap (V5 st) (fun x => lp T5 x (E5 K)) := by
 unfold L5
 cases V5 st with
 | none => rfl
 | some x => rw [P.keccak_Absorb_l5_eq]; kernel_rfl
theorem loop5 : LoopOk D (loopAt Tryd.f91 5) := loopOk_lp S5 V5_ok (by kernel_rfl) lq5 round5
theorem body (b : Int) (a : List Int) (e : Int) (c : Bool) (i : List Int) (K : AVal → Option R) : bodyA D Tryd.f91 [.any] [.agg [.v (.int .i64 b), .arr .u64 25 a, .v (.int .i64 e), .v (.bool c)], .sl (.ints .u8 i)] K = P.keccak_Absorb b a e c i (fun f d h g => K (.agg [.v (.int .i64 f), .arr .u64 25 d, .v (.int .i64 h), .v (.bool g)])) := by
 rw [P.keccak_Absorb_eq]
 kernel_rfl
theorem loops : loopsOf (Tryd.f91.body.getD .skip) = [loopAt Tryd.f91 5] := by kernel_rfl
theorem loops1 : loopsOf (Tryd.f125.body.getD .skip) = [] := by kernel_rfl
noncomputable def spec0 : Abs.Spec := fun args K => match args with
 | [.agg [.v (.int .i64 c), .arr .u64 25 a, .v (.int .i64 g), .v (.bool e)], .sl (.ints .u8 i)] => P.keccak_Absorb c a g e i (fun d b h f => K (.agg [.v (.int .i64 d), .arr .u64 25 b, .v (.int .i64 h), .v (.bool f)]))
 | _ => none
noncomputable def spec : Abs.Spec := fun args K => spec0 (coerL [.any, .sl (.ints .u8 [])] args) K
theorem ok0 : Proved Tryd.prog GLO.gx 91 spec0 := by
 refine proved_of (D := D) (fn := Tryd.f91) (c := Tryd.f91.body.getD .skip) [.any] (by kernel_rfl) (globsPlain_of (by kernel_rfl)) (by kernel_rfl) (by kernel_rfl) (by kernel_rfl) ⟨keccak_rate.ok, keccak_Permute.ok, trivial⟩ ⟨run_of (D := D1) (D' := D) (fn := Tryd.f125) (c := Tryd.f125.body.getD .skip) rfl rfl (by kernel_rfl) (globsPlain_of (by kernel_rfl)) (by kernel_rfl) (by kernel_rfl) (by kernel_rfl) ⟨keccak_rate.ok, keccak_Permute.ok, trivial⟩ trivial (by rw [loops1]; exact trivial) (fun _ _ _ _ _ h => h), trivial⟩ ?_ ?_
 · rw [loops]; exact ⟨loop5, trivial⟩
 · intro args K r h
   unfold spec0 at h
   split at h
   · rw [body]; exact h
   · cases h
theorem ok : Proved Tryd.prog GLO.gx 91 spec := proved_coer _ ok0
end keccak_Absorb
end

section
open Go Go.Abs Go.Proofs
set_option maxRecDepth 100000
set_option maxHeartbeats 0
set_option linter.unusedVariables false
namespace keccak_New
noncomputable def D : Ctx := ({ P := Tryd.prog, G := [(122, keccak_rate.spec)], globs := GLO.gx, hints := [], loops := [], inl := [] } : Ctx)
theorem body (e : Int) (K : AVal → Option R) : bodyA D Tryd.f89 [.any, .any] [.v (.int .i64 e)] K = P.keccak_New e (fun b a d c f => K (.tuple [.agg [.v (.int .i64 b), .arr .u64 25 a, .v (.int .i64 d), .v (.bool c)], .v (.int .i64 f)])) := by
 rw [P.keccak_New_eq]
 kernel_rfl
theorem loops : loopsOf (Tryd.f89.body.getD .skip) = [] := by kernel_rfl
noncomputable def spec0 : Abs.Spec := fun args K => match args with
 | [.v (.int .i64 e)] => P.keccak_New e (fun b a d c f => K (.tuple [.agg [.v (.int .i64 b), .arr .u64 25 a, .v (.int .i64 d), .v (.bool c)], .v (.int .i64 f)]))
 | _ => none
noncomputable def spec : Abs.Spec := spec0
theorem ok0 : Proved Tryd.prog GLO.gx 89 spec0 := by
 refine proved_of (D := D) (fn := Tryd.f89) (c := Tryd.f89.body.getD .skip) [.any, .any] (by kernel_rfl) (globsPlain_of (by kernel_rfl)) (by kernel_rfl) (by kernel_rfl) (by kernel_rfl) ⟨keccak_rate.ok, trivial⟩ trivial ?_ ?_
 · rw [loops]; exact trivial
 · intro args K r h
   unfold spec0 at h
   split at h
   · rw [body]; exact h
   · cases h
theorem ok : Proved Tryd.prog GLO.gx 89 spec := ok0
end keccak_New
end

section
open Go Go.Abs Go.Proofs
set_option maxRecDepth 100000
set_option maxHeartbeats 0
set_option linter.unusedVariables false
namespace keccak_turned
noncomputable def D1 : Ctx := ({ P := Tryd.prog, G := [(122, keccak_rate.spec), (124, keccak_Permute.spec)], globs := GLO.gx, hints := [], loops := [], inl := [] } : Ctx)
noncomputable def D : Ctx := ({ P := Tryd.prog, G := [(122, keccak_rate.spec), (124, keccak_Permute.spec)], globs := GLO.gx, hints := [], loops := [], inl := [(125, bodyIn D1 Tryd.f125)] } : Ctx)
theorem body (b : Int) (a : List Int) (e : Int) (c : Bool) (K : AVal → Option R) : bodyA D Tryd.f123 [.any] [.agg [.v (.int .i64 b), .arr .u64 25 a, .v (.int .i64 e), .v (.bool c)]] K = P.keccak_turned b a e c (fun f d h g => K (.agg [.v (.int .i64 f), .arr .u64 25 d, .v (.int .i64 h), .v (.bool g)])) := by
 rw [P.keccak_turned_eq]
 kernel_rfl
theorem loops : loopsOf (Tryd.f123.body.getD .skip) = [] := by kernel_rfl
theorem loops1 : loopsOf (Tryd.f125.body.getD .skip) = [] := by kernel_rfl
noncomputable def spec0 : Abs.Spec := fun args K => match args with
 | [.agg [.v (.int .i64 c), .arr .u64 25 a, .v (.int .i64 g), .v (.bool e)]] => P.keccak_turned c a g e (fun d b h f => K (.agg [.v (.int .i64 d), .arr .u64 25 b, .v (.int .i64 h), .v (.bool f)]))
 | _ => none
noncomputable def spec : Abs.Spec := spec0
theorem ok0 : Proved Tryd.prog GLO.gx 123 spec0 := by
 refine proved_of (D := D) (fn := Tryd.f123) (c := Tryd.f123.body.getD .skip) [.any] (by kernel_rfl) (globsPlain_of (by kernel_rfl)) (by kernel_rfl) (by kernel_rfl) (by kernel_rfl) ⟨keccak_rate.ok, keccak_Permute.ok, trivial⟩ ⟨run_of (D := D1) (D' := D) (fn := Tryd.f125) (c := Tryd.f125.body.getD .skip) rfl rfl (by kernel_rfl) (globsPlain_of (by kernel_rfl)) (by kernel_rfl) (by kernel_rfl) (by kernel_rfl) ⟨keccak_rate.ok, keccak_Permute.ok, trivial⟩ trivial (by rw [loops1]; exact trivial) (fun _ _ _ _ _ h => h), trivial⟩ ?_ ?_
 · rw [loops]; exact trivial
 · intro args K r h
   unfold spec0 at h
   split at h
   · rw [body]; exact h
   · cases h
theorem ok : Proved Tryd.prog GLO.gx 123 spec := ok0
end keccak_turned
end

section
open Go Go.Abs Go.Proofs
set_option maxRecDepth 100000
set_option maxHeartbeats 0
set_option linter.unusedVariables false
namespace keccak_Squeeze
abbrev X7 := Int × Int × Int × (List Int) × Int × Bool × Int × (List Int) × Int × Bool × (List Int)
def S7 : X7 → ASt := fun (i, j, a, b, c, d, e, f, g, h, k) => ⟨[(2, .ptr 0 0), (4, .ptr 1 0), (6, .own 2), (19, .v (.int .i64 i)), (20, .v (.int .i64 j))], [(0, some ⟨.box 123 [.v (.int .i64 a), .arr .u64 25 b, .v (.int .i64 c), .v (.bool d)], false⟩), (1, some ⟨.box 123 [.v (.int .i64 e), .arr .u64 25 f, .v (.int .i64 g), .v (.bool h)], false⟩), (2, some ⟨.row 5 (.ints .u8 k), false⟩)], 40, 56⟩
def V7 : ASt → Option X7
 | ⟨[(2, .ptr 0 0), (4, .ptr 1 0), (6, .own 2), (19, .v (.int .i64 i)), (20, .v (.int .i64 j))], [(0, some ⟨.box 123 [.v (.int .i64 a), .arr .u64 25 b, .v (.int .i64 c), .v (.bool d)], false⟩), (1, some ⟨.box 123 [.v (.int .i64 e), .arr .u64 25 f, .v (.int .i64 g), .v (.bool h)], false⟩), (2, some ⟨.row 5 (.ints .u8 k), false⟩)], 40, 56⟩ => some (i, j, a, b, c, d, e, f, g, h, k)
 | _ => none
theorem V7_ok (st) (x) (h : V7 st = some x) : st = S7 x := by
 unfold V7 at h
 split at h
 · cases h; rfl
 · cases h
abbrev Y7 := X7
noncomputable def T7 : X7 → (X7 → Option R) → (Y7 → Option R) → Option R := fun (i, j, a, b, c, d, e, f, g, h, k) next ex => P.keccak_Squeeze_r7 i j a b c d e f g h k (fun i j a b c d e f g h k => next (i, j, a, b, c, d, e, f, g, h, k)) (fun i j a b c d e f g h k => ex (i, j, a, b, c, d, e, f, g, h, k))
def E7 (K : AExit → ASt → Option R) : Y7 → Option R := (fun x => K (.exit 0) (S7 x))
noncomputable def L7 : LSpec := fun st K => vMap (V7 st) fun (i, j, a, b, c, d, e, f, g, h, k) => P.keccak_Squeeze_l7 i j a b c d e f g h k (fun i j a b c d e f g h k => K (.exit 0) (S7 (i, j, a, b, c, d, e, f, g, h, k)))
noncomputable def D : Ctx := ({ P := Tryd.prog, G := [(122, keccak_rate.spec), (123, keccak_turned.spec), (124, keccak_Permute.spec)], globs := GLO.gx, hints := [(7, ⟨[2, 4, 6, 19, 20], [], [4, 5], [], some (40, [0, 1, 2]), [], []⟩)], loops := [(7, L7)], inl := [] } : Ctx)
theorem round7 (K) (next) (x) : roundA D (loopAt Tryd.f90 7) K next (S7 x) = T7 x (fun x => next (S7 x)) (E7 K) := by kernel_rfl
theorem lq7 (st) (K) : L7 st K = vMap (V7 st) (fun x => lp T7 x (E7 K)) := by
 unfold L7
 cases V7 st with
 | none => rfl
 | some x => rw [P.keccak_Squeeze_l7_eq]; kernel_rfl
theorem loop7 : LoopOk D (loopAt Tryd.f90 7) := loopOk_lp S7 V7_ok (by kernel_rfl) lq7 round7
theorem body (b : Int) (a : List Int) (e : Int) (c : Bool) (i : Int) (K : AVal → Option R) : bodyA D Tryd.f90 [.any, .fr 5 (.ints .u8 [])] [.agg [.v (.int .i64 b), .arr .u64 25 a, .v (.int .i64 e), .v (.bool c)], .v (.int .i64 i)] K = P.keccak_Squeeze b a e c i (fun f d h g j => K (.tuple [.agg [.v (.int .i64 f), .arr .u64 25 d, .v (.int .i64 h), .v (.bool g)], .fr 5 (.ints .u8 j)])) := by
 rw [P.keccak_Squeeze_eq]
 kernel_rfl
theorem loops : loopsOf (Tryd.f90.body.getD .skip) = [loopAt Tryd.f90 7] := by kernel_rfl
noncomputable def spec0 : Abs.Spec := fun args K => match args with
 | [.agg [.v (.int .i64 c), .arr .u64 25 a, .v (.int .i64 g), .v (.bool e)], .v (.int .i64 i)] => P.keccak_Squeeze c a g e i (fun d b h f j => K (.tuple [.agg [.v (.int .i64 d), .arr .u64 25 b, .v (.int .i64 h), .v (.bool f)], .fr 5 (.ints .u8 j)]))
 | _ => none
noncomputable def spec : Abs.Spec := spec0
theorem ok0 : Proved Tryd.prog GLO.gx 90 spec0 := by
 refine proved_of (D := D) (fn := Tryd.f90) (c := Tryd.f90.body.getD .skip) [.any, .fr 5 (.ints .u8 [])] (by kernel_rfl) (globsPlain_of (by kernel_rfl)) (by kernel_rfl) (by kernel_rfl) (by kernel_rfl) ⟨keccak_rate.ok, keccak_turned.ok, keccak_Permute.ok, trivial⟩ trivial ?_ ?_
 · rw [loops]; exact ⟨loop7, trivial⟩
 · intro args K r h
   unfold spec0 at h
   split at h
   · rw [body]; exact h
   · cases h
theorem ok : Proved Tryd.prog GLO.gx 90 spec := ok0
end keccak_Squeeze
end

section
open Go Go.Abs Go.Proofs
set_option maxRecDepth 100000
set_option maxHeartbeats 0
set_option linter.unusedVariables false
namespace wots_shaken_f1
noncomputable def D : Ctx := ({ P := Tryd.prog, G := [(62, bits_Join.spec), (90, keccak_Squeeze.spec), (91, keccak_Absorb.spec)], globs := GLO.gx, hints := [], loops := [], inl := [] } : Ctx)
theorem body (e : List Int) (f : List Int) (b : Int) (a : List Int) (d : Int) (c : Bool) (g : Int) (K : AVal → Option R) : bodyA D Tryd.f130 [.fr 5 (.ints .u8 [])] [.arr .u8 32 e, .sl (.ints .u8 f), .sta [.v (.int .i64 b), .arr .u64 25 a, .v (.int .i64 d), .v (.bool c)], .sta [.v (.int .i64 g)]] K = P.wots_shaken_f1 e f b a d c g (fun h => K (.fr 5 (.ints .u8 h))) := by
 rw [P.wots_shaken_f1_eq]
 kernel_rfl
theorem loops : loopsOf (Tryd.f130.body.getD .skip) = [] := by kernel_rfl
noncomputable def spec0 : Abs.Spec := fun args K => match args with
 | [.arr .u8 32 e, .sl (.ints .u8 f), .sta [.v (.int .i64 b), .arr .u64 25 a, .v (.int .i64 d), .v (.bool c)], .sta [.v (.int .i64 g)]] => P.wots_shaken_f1 e f b a d c g (fun h => K (.fr 5 (.ints .u8 h)))
 | _ => none
noncomputable def spec : Abs.Spec := fun args K => spec0 (coerL [.any, .sl (.ints .u8 []), .any, .any] args) K
theorem ok0 : Proved Tryd.prog GLO.gx 130 spec0 := by
 refine proved_of (D := D) (fn := Tryd.f130) (c := Tryd.f130.body.getD .skip) [.fr 5 (.ints .u8 [])] (by kernel_rfl) (globsPlain_of (by kernel_rfl)) (by kernel_rfl) (by kernel_rfl) (by kernel_rfl) ⟨bits_Join.ok, keccak_Squeeze.ok, keccak_Absorb.ok, trivial⟩ trivial ?_ ?_
 · rw [loops]; exact trivial
 · intro args K r h
   unfold spec0 at h
   split at h
   · rw [body]; exact h
   · cases h
theorem ok : Proved Tryd.prog GLO.gx 130 spec := proved_coer _ ok0
end wots_shaken_f1
end

section
open Go Go.Abs Go.Proofs
set_option maxRecDepth 100000
set_option maxHeartbeats 0
set_option linter.unusedVariables false
namespace wots_shaken
noncomputable def D : Ctx := ({ P := Tryd.prog, G := [(89, keccak_New.spec), (91, keccak_Absorb.spec), (130, wots_shaken_f1.spec)], globs := GLO.gx, hints := [], loops := [], inl := [], sta := true } : Ctx)
theorem body (f : Int) (g : List Int) (K : AVal → Option R) : bodyA D Tryd.f108 [.any] [.v (.int .i64 f), .sl (.ints .u8 g)] K = P.wots_shaken f g (fun b a d c e => K (.fn (.func 130) [] [.sta [.v (.int .i64 b), .arr .u64 25 a, .v (.int .i64 d), .v (.bool c)], .sta [.v (.int .i64 e)]])) := by
 rw [P.wots_shaken_eq]
 kernel_rfl
theorem loops : loopsOf (Tryd.f108.body.getD .skip) = [] := by kernel_rfl
noncomputable def spec0 : Abs.Spec := fun args K => match args with
 | [.v (.int .i64 f), .sl (.ints .u8 g)] => P.wots_shaken f g (fun b a d c e => K (.fn (.func 130) [] [.sta [.v (.int .i64 b), .arr .u64 25 a, .v (.int .i64 d), .v (.bool c)], .sta [.v (.int .i64 e)]]))
 | _ => none
noncomputable def spec : Abs.Spec := fun args K => spec0 (coerL [.any, .sl (.ints .u8 [])] args) K
theorem ok0 : Proved Tryd.prog GLO.gx 108 spec0 := by
 refine proved_of (D := D) (fn := Tryd.f108) (c := Tryd.f108.body.getD .skip) [.any] (by kernel_rfl) (globsPlain_of (by kernel_rfl)) (by kernel_rfl) (by kernel_rfl) (by kernel_rfl) ⟨keccak_New.ok, keccak_Absorb.ok, wots_shaken_f1.ok, trivial⟩ trivial ?_ ?_
 · rw [loops]; exact trivial
 · intro args K r h
   unfold spec0 at h
   split at h
   · rw [body]; exact h
   · cases h
theorem ok : Proved Tryd.prog GLO.gx 108 spec := proved_coer _ ok0
end wots_shaken
end

section
open Go Go.Abs Go.Proofs
set_option maxRecDepth 100000
set_option maxHeartbeats 0
set_option linter.unusedVariables false
namespace wots_began
noncomputable def D : Ctx := ({ P := Tryd.prog, G := [(25, wots_Fit.spec), (108, wots_shaken.spec), (109, wots_hashed.spec), (130, wots_shaken_f1.spec), (132, wots_hashed_f1.spec)], globs := GLO.gx, hints := [], loops := [], inl := [] } : Ctx)
theorem body (w : Int) (y : Int) (z : Int) (A : Int) (B : Int) (l : Bool) (F : List Int) (K : AVal → Option R) : bodyA D Tryd.f66 [.agg [.any, .any, .any, .any, .any, .any, .alt (.func 130) [] [.sta [.v (.int .i64 0), .arr .u64 25 [], .v (.int .i64 0), .v (.bool false)], .sta [.v (.int .i64 0)]] (.func 132) [] [.sta [.v (.int .i64 0), .arr .u64 8 [], .sl (.ints .u8 []), .v (.int .u64 0)], .sta [.v (.int .i64 0)], .sta [.v (.int .i64 0), .arr .u64 8 [], .sl (.ints .u8 []), .v (.int .u64 0)]]], .any] [.agg [.v (.int .i64 w), .v (.int .i64 y), .v (.int .i64 z), .v (.int .i64 A), .v (.int .i64 B), .v (.bool l)], .sl (.ints .u8 F)] K = P.wots_began w y z A B l F (fun q r s t u m C d a n k o e b f g p h c i j G => K (.tuple [.agg [.v (.int .i64 q), .v (.int .i64 r), .v (.int .i64 s), .v (.int .i64 t), .v (.int .i64 u), .v (.bool m), .alt C (.func 130) [] [.sta [.v (.int .i64 d), .arr .u64 25 a, .v (.int .i64 n), .v (.bool k)], .sta [.v (.int .i64 o)]] (.func 132) [] [.sta [.v (.int .i64 e), .arr .u64 8 b, .sl (.ints .u8 f), .v (.int .u64 g)], .sta [.v (.int .i64 p)], .sta [.v (.int .i64 h), .arr .u64 8 c, .sl (.ints .u8 i), .v (.int .u64 j)]]], .v (.bool G)])) := by
 rw [P.wots_began_eq]
 kernel_rfl
theorem loops : loopsOf (Tryd.f66.body.getD .skip) = [] := by kernel_rfl
noncomputable def spec0 : Abs.Spec := fun args K => match args with
 | [.agg [.v (.int .i64 y), .v (.int .i64 z), .v (.int .i64 A), .v (.int .i64 B), .v (.int .i64 C), .v (.bool p)], .sl (.ints .u8 F)] => P.wots_began y z A B C p F (fun q r s t u l w d a m k n e b f g o h c i j G => K (.tuple [.agg [.v (.int .i64 q), .v (.int .i64 r), .v (.int .i64 s), .v (.int .i64 t), .v (.int .i64 u), .v (.bool l), .alt w (.func 130) [] [.sta [.v (.int .i64 d), .arr .u64 25 a, .v (.int .i64 m), .v (.bool k)], .sta [.v (.int .i64 n)]] (.func 132) [] [.sta [.v (.int .i64 e), .arr .u64 8 b, .sl (.ints .u8 f), .v (.int .u64 g)], .sta [.v (.int .i64 o)], .sta [.v (.int .i64 h), .arr .u64 8 c, .sl (.ints .u8 i), .v (.int .u64 j)]]], .v (.bool G)]))
 | _ => none
noncomputable def spec : Abs.Spec := fun args K => spec0 (coerL [.any, .sl (.ints .u8 [])] args) K
theorem ok0 : Proved Tryd.prog GLO.gx 66 spec0 := by
 refine proved_of (D := D) (fn := Tryd.f66) (c := Tryd.f66.body.getD .skip) [.agg [.any, .any, .any, .any, .any, .any, .alt (.func 130) [] [.sta [.v (.int .i64 0), .arr .u64 25 [], .v (.int .i64 0), .v (.bool false)], .sta [.v (.int .i64 0)]] (.func 132) [] [.sta [.v (.int .i64 0), .arr .u64 8 [], .sl (.ints .u8 []), .v (.int .u64 0)], .sta [.v (.int .i64 0)], .sta [.v (.int .i64 0), .arr .u64 8 [], .sl (.ints .u8 []), .v (.int .u64 0)]]], .any] (by kernel_rfl) (globsPlain_of (by kernel_rfl)) (by kernel_rfl) (by kernel_rfl) (by kernel_rfl) ⟨wots_Fit.ok, wots_shaken.ok, wots_hashed.ok, wots_shaken_f1.ok, wots_hashed_f1.ok, trivial⟩ trivial ?_ ?_
 · rw [loops]; exact trivial
 · intro args K r h
   unfold spec0 at h
   split at h
   · rw [body]; exact h
   · cases h
theorem ok : Proved Tryd.prog GLO.gx 66 spec := proved_coer _ ok0
end wots_began
end

section
open Go Go.Abs Go.Proofs
set_option maxRecDepth 100000
set_option maxHeartbeats 0
set_option linter.unusedVariables false
namespace wots_signer_along
abbrev X2 := (List Int) × Int × Int × Int × Int × Int × Int × Int × Bool × Nat × Int × (List Int) × Int × Bool × Int × Int × (List Int) × (List Int) × Int × Int × Int × (List Int) × (List Int) × Int × (List Int)
def S2 : X2 → ASt := fun (z, A, y, o, p, q, r, s, t, u, a, b, c, d, e, f, g, h, i, j, k, l, m, n, w) => ⟨[(2, .sl (.ints .u8 z)), (4, .v (.int .u32 A)), (5, .ptr 0 0), (6, .ptr 1 0), (11, .v (.int .u32 y))], [(0, some ⟨.box 84 [.v (.int .i64 o), .v (.int .i64 p), .v (.int .i64 q), .v (.int .i64 r), .v (.int .i64 s), .v (.bool t), .alt u (.func 130) [] [.sta [.v (.int .i64 a), .arr .u64 25 b, .v (.int .i64 c), .v (.bool d)], .sta [.v (.int .i64 e)]] (.func 132) [] [.sta [.v (.int .i64 f), .arr .u64 8 g, .sl (.ints .u8 h), .v (.int .u64 i)], .sta [.v (.int .i64 j)], .sta [.v (.int .i64 k), .arr .u64 8 l, .sl (.ints .u8 m), .v (.int .u64 n)]]], false⟩), (1, some ⟨.box 43 [.arr .u8 32 w], false⟩)], 2, 27⟩
def V2 : ASt → Option X2
 | ⟨[(2, .sl (.ints .u8 z)), (4, .v (.int .u32 A)), (5, .ptr 0 0), (6, .ptr 1 0), (11, .v (.int .u32 y))], [(0, some ⟨.box 84 [.v (.int .i64 o), .v (.int .i64 p), .v (.int .i64 q), .v (.int .i64 r), .v (.int .i64 s), .v (.bool t), .alt u (.func 130) [] [.sta [.v (.int .i64 a), .arr .u64 25 b, .v (.int .i64 c), .v (.bool d)], .sta [.v (.int .i64 e)]] (.func 132) [] [.sta [.v (.int .i64 f), .arr .u64 8 g, .sl (.ints .u8 h), .v (.int .u64 i)], .sta [.v (.int .i64 j)], .sta [.v (.int .i64 k), .arr .u64 8 l, .sl (.ints .u8 m), .v (.int .u64 n)]]], false⟩), (1, some ⟨.box 43 [.arr .u8 32 w], false⟩)], 2, 27⟩ => some (z, A, y, o, p, q, r, s, t, u, a, b, c, d, e, f, g, h, i, j, k, l, m, n, w)
 | _ => none
theorem V2_ok (st) (x) (h : V2 st = some x) : st = S2 x := by
 unfold V2 at h
 split at h
 · cases h; rfl
 · cases h
abbrev Y2 := X2
noncomputable def T2 : X2 → (X2 → Option R) → (Y2 → Option R) → Option R := fun (y, z, w, o, p, q, r, s, t, u, a, b, c, d, e, f, g, h, i, j, k, l, m, n, v) next ex => P.wots_signer_along_r2 y z w o p q r s t u a b c d e f g h i j k l m n v (fun y z w o p q r s t u a b c d e f g h i j k l m n v => next (y, z, w, o, p, q, r, s, t, u, a, b, c, d, e, f, g, h, i, j, k, l, m, n, v)) (fun y z w o p q r s t u a b c d e f g h i j k l m n v => ex (y, z, w, o, p, q, r, s, t, u, a, b, c, d, e, f, g, h, i, j, k, l, m, n, v))
def E2 (K : AExit → ASt → Option R) : Y2 → Option R := (fun x => K (.exit 0) (S2 x))
noncomputable def L2 : LSpec := fun st K => vMap (V2 st) fun (y, z, w, o, p, q, r, s, t, u, a, b, c, d, e, f, g, h, i, j, k, l, m, n, v) => P.wots_signer_along_l2 y z w o p q r s t u a b c d e f g h i j k l m n v (fun y z w o p q r s t u a b c d e f g h i j k l m n v => K (.exit 0) (S2 (y, z, w, o, p, q, r, s, t, u, a, b, c, d, e, f, g, h, i, j, k, l, m, n, v)))
noncomputable def D : Ctx := ({ P := Tryd.prog, G := [(27, wots_Put.spec), (130, wots_shaken_f1.spec), (132, wots_hashed_f1.spec)], globs := GLO.gx, hints := [(2, ⟨[2, 4, 5, 6, 11], [], [10], [(2, .sl (.ints .u8 []))], none, [], []⟩)], loops := [(2, L2)], inl := [] } : Ctx)
theorem round2 (K) (next) (x) : roundA D (loopAt Tryd.f69 2) K next (S2 x) = T2 x (fun x => next (S2 x)) (E2 K) := by kernel_rfl
theorem lq2 (st) (K) : L2 st K = vMap (V2 st) (fun x => lp T2 x (E2 K)) := by
 unfold L2
 cases V2 st with
 | none => rfl
 | some x => rw [P.wots_signer_along_l2_eq]; kernel_rfl
theorem loop2 : LoopOk D (loopAt Tryd.f69 2) := loopOk_lp S2 V2_ok (by kernel_rfl) lq2 round2
theorem body (p : Int) (q : Int) (r : Int) (s : Int) (t : Int) (l : Bool) (u : Nat) (d : Int) (a : List Int) (m : Int) (k : Bool) (n : Int) (e : Int) (b : List Int) (f : List Int) (g : Int) (o : Int) (h : Int) (c : List Int) (i : List Int) (j : Int) (w : List Int) (y : List Int) (z : Int) (A : Int) (K : AVal → Option R) : bodyA D Tryd.f69 [.sl (.ints .u8 [])] [.agg [.v (.int .i64 p), .v (.int .i64 q), .v (.int .i64 r), .v (.int .i64 s), .v (.int .i64 t), .v (.bool l), .alt u (.func 130) [] [.sta [.v (.int .i64 d), .arr .u64 25 a, .v (.int .i64 m), .v (.bool k)], .sta [.v (.int .i64 n)]] (.func 132) [] [.sta [.v (.int .i64 e), .arr .u64 8 b, .sl (.ints .u8 f), .v (.int .u64 g)], .sta [.v (.int .i64 o)], .sta [.v (.int .i64 h), .arr .u64 8 c, .sl (.ints .u8 i), .v (.int .u64 j)]]], .arr .u8 32 w, .sl (.ints .u8 y), .v (.int .u32 z), .v (.int .u32 A)] K = P.wots_signer_along p q r s t l u d a m k n e b f g o h c i j w y z A (fun B => K (.sl (.ints .u8 B))) := by
 rw [P.wots_signer_along_eq]
 kernel_rfl
theorem loops : loopsOf (Tryd.f69.body.getD .skip) = [loopAt Tryd.f69 2] := by kernel_rfl
noncomputable def spec0 : Abs.Spec := fun args K => match args with
 | [.agg [.v (.int .i64 p), .v (.int .i64 q), .v (.int .i64 r), .v (.int .i64 s), .v (.int .i64 t), .v (.bool l), .alt u (.func 130) [] [.sta [.v (.int .i64 d), .arr .u64 25 a, .v (.int .i64 m), .v (.bool k)], .sta [.v (.int .i64 n)]] (.func 132) [] [.sta [.v (.int .i64 e), .arr .u64 8 b, .sl (.ints .u8 f), .v (.int .u64 g)], .sta [.v (.int .i64 o)], .sta [.v (.int .i64 h), .arr .u64 8 c, .sl (.ints .u8 i), .v (.int .u64 j)]]], .arr .u8 32 w, .sl (.ints .u8 y), .v (.int .u32 z), .v (.int .u32 A)] => P.wots_signer_along p q r s t l u d a m k n e b f g o h c i j w y z A (fun B => K (.sl (.ints .u8 B)))
 | _ => none
noncomputable def spec : Abs.Spec := fun args K => spec0 (coerL [.agg [.any, .any, .any, .any, .any, .any, .alt (.func 130) [] [.sta [.v (.int .i64 0), .arr .u64 25 [], .v (.int .i64 0), .v (.bool false)], .sta [.v (.int .i64 0)]] (.func 132) [] [.sta [.v (.int .i64 0), .arr .u64 8 [], .sl (.ints .u8 []), .v (.int .u64 0)], .sta [.v (.int .i64 0)], .sta [.v (.int .i64 0), .arr .u64 8 [], .sl (.ints .u8 []), .v (.int .u64 0)]]], .any, .sl (.ints .u8 []), .any, .any] args) K
theorem ok0 : Proved Tryd.prog GLO.gx 69 spec0 := by
 refine proved_of (D := D) (fn := Tryd.f69) (c := Tryd.f69.body.getD .skip) [.sl (.ints .u8 [])] (by kernel_rfl) (globsPlain_of (by kernel_rfl)) (by kernel_rfl) (by kernel_rfl) (by kernel_rfl) ⟨wots_Put.ok, wots_shaken_f1.ok, wots_hashed_f1.ok, trivial⟩ trivial ?_ ?_
 · rw [loops]; exact ⟨loop2, trivial⟩
 · intro args K r h
   unfold spec0 at h
   split at h
   · rw [body]; exact h
   · cases h
theorem ok : Proved Tryd.prog GLO.gx 69 spec := proved_coer _ ok0
end wots_signer_along
end

section
open Go Go.Abs Go.Proofs
set_option maxRecDepth 100000
set_option maxHeartbeats 0
set_option linter.unusedVariables false
namespace wots_signer_count
noncomputable def D : Ctx := ({ P := Tryd.prog, G := [(130, wots_shaken_f1.spec), (132, wots_hashed_f1.spec)], globs := GLO.gx, hints := [], loops := [], inl := [] } : Ctx)
theorem body (p : Int) (q : Int) (r : Int) (s : Int) (t : Int) (l : Bool) (u : Nat) (d : Int) (a : List Int) (m : Int) (k : Bool) (n : Int) (e : Int) (b : List Int) (f : List Int) (g : Int) (o : Int) (h : Int) (c : List Int) (i : List Int) (j : Int) (K : AVal → Option R) : bodyA D Tryd.f68 [.any] [.agg [.v (.int .i64 p), .v (.int .i64 q), .v (.int .i64 r), .v (.int .i64 s), .v (.int .i64 t), .v (.bool l), .alt u (.func 130) [] [.sta [.v (.int .i64 d), .arr .u64 25 a, .v (.int .i64 m), .v (.bool k)], .sta [.v (.int .i64 n)]] (.func 132) [] [.sta [.v (.int .i64 e), .arr .u64 8 b, .sl (.ints .u8 f), .v (.int .u64 g)], .sta [.v (.int .i64 o)], .sta [.v (.int .i64 h), .arr .u64 8 c, .sl (.ints .u8 i), .v (.int .u64 j)]]]] K = P.wots_signer_count p q r s t l u d a m k n e b f g o h c i j (fun w => K (.v (.int .i64 w))) := by
 rw [P.wots_signer_count_eq]
 kernel_rfl
theorem loops : loopsOf (Tryd.f68.body.getD .skip) = [] := by kernel_rfl
noncomputable def spec0 : Abs.Spec := fun args K => match args with
 | [.agg [.v (.int .i64 p), .v (.int .i64 q), .v (.int .i64 r), .v (.int .i64 s), .v (.int .i64 t), .v (.bool l), .alt u (.func 130) [] [.sta [.v (.int .i64 d), .arr .u64 25 a, .v (.int .i64 m), .v (.bool k)], .sta [.v (.int .i64 n)]] (.func 132) [] [.sta [.v (.int .i64 e), .arr .u64 8 b, .sl (.ints .u8 f), .v (.int .u64 g)], .sta [.v (.int .i64 o)], .sta [.v (.int .i64 h), .arr .u64 8 c, .sl (.ints .u8 i), .v (.int .u64 j)]]]] => P.wots_signer_count p q r s t l u d a m k n e b f g o h c i j (fun w => K (.v (.int .i64 w)))
 | _ => none
noncomputable def spec : Abs.Spec := fun args K => spec0 (coerL [.agg [.any, .any, .any, .any, .any, .any, .alt (.func 130) [] [.sta [.v (.int .i64 0), .arr .u64 25 [], .v (.int .i64 0), .v (.bool false)], .sta [.v (.int .i64 0)]] (.func 132) [] [.sta [.v (.int .i64 0), .arr .u64 8 [], .sl (.ints .u8 []), .v (.int .u64 0)], .sta [.v (.int .i64 0)], .sta [.v (.int .i64 0), .arr .u64 8 [], .sl (.ints .u8 []), .v (.int .u64 0)]]]] args) K
theorem ok0 : Proved Tryd.prog GLO.gx 68 spec0 := by
 refine proved_of (D := D) (fn := Tryd.f68) (c := Tryd.f68.body.getD .skip) [.any] (by kernel_rfl) (globsPlain_of (by kernel_rfl)) (by kernel_rfl) (by kernel_rfl) (by kernel_rfl) ⟨wots_shaken_f1.ok, wots_hashed_f1.ok, trivial⟩ trivial ?_ ?_
 · rw [loops]; exact trivial
 · intro args K r h
   unfold spec0 at h
   split at h
   · rw [body]; exact h
   · cases h
theorem ok : Proved Tryd.prog GLO.gx 68 spec := proved_coer _ ok0
end wots_signer_count
end

section
open Go Go.Abs Go.Proofs
set_option maxRecDepth 100000
set_option maxHeartbeats 0
set_option linter.unusedVariables false
namespace wots_number
noncomputable def D : Ctx := ({ P := Tryd.prog, G := [(134, bits_Num.spec)], globs := GLO.gx, hints := [], loops := [], inl := [] } : Ctx)
theorem body (a : List Int) (b : Int) (K : AVal → Option R) : bodyA D Tryd.f110 [.any] [.arr .u8 32 a, .v (.int .i64 b)] K = P.wots_number a b (fun c => K (.v (.int .u64 c))) := by
 rw [P.wots_number_eq]
 kernel_rfl
theorem loops : loopsOf (Tryd.f110.body.getD .skip) = [] := by kernel_rfl
noncomputable def spec0 : Abs.Spec := fun args K => match args with
 | [.arr .u8 32 a, .v (.int .i64 b)] => P.wots_number a b (fun c => K (.v (.int .u64 c)))
 | _ => none
noncomputable def spec : Abs.Spec := spec0
theorem ok0 : Proved Tryd.prog GLO.gx 110 spec0 := by
 refine proved_of (D := D) (fn := Tryd.f110) (c := Tryd.f110.body.getD .skip) [.any] (by kernel_rfl) (globsPlain_of (by kernel_rfl)) (by kernel_rfl) (by kernel_rfl) (by kernel_rfl) ⟨bits_Num.ok, trivial⟩ trivial ?_ ?_
 · rw [loops]; exact trivial
 · intro args K r h
   unfold spec0 at h
   split at h
   · rw [body]; exact h
   · cases h
theorem ok : Proved Tryd.prog GLO.gx 110 spec := ok0
end wots_number
end
