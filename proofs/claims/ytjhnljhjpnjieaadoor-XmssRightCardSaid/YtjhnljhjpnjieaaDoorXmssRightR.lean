/-
  XmssRight, part 18: an interpreter of my own over abstract values, the pure functions, the walks and the plain law.
-/

import Derived.Test.YtjhnljhjpnjieaaDoorXmssRightJ
import Derived.Test.YtjhnljhjpnjieaaDoorXmssRightH
import Derived.Test.YtjhnljhjpnjieaaDoorProg
import Derived.Test.YtjhnljhjpnjieaaDoorXmssRightI
import Derived.Test.YtjhnljhjpnjieaaDoorXmssRightM
import Derived.Test.YtjhnljhjpnjieaaDoorXmssRightP
import Derived.Test.YtjhnljhjpnjieaaDoorXmssRightQ
import Derived.KernelRfl
import Derived.Test.YtjhnljhjpnjieaaDoorXmssRightK

section
open Go Go.Abs Go.Proofs
set_option maxRecDepth 100000
set_option maxHeartbeats 0
set_option linter.unusedVariables false
namespace wots_signer_first
noncomputable def D : Ctx := ({ P := Tryd.prog, G := [(27, wots_Put.spec), (110, wots_number.spec), (130, wots_shaken_f1.spec), (132, wots_hashed_f1.spec)], globs := GLO.gx, hints := [], loops := [], inl := [] } : Ctx)
theorem body (p : Int) (q : Int) (r : Int) (s : Int) (t : Int) (l : Bool) (u : Nat) (d : Int) (a : List Int) (m : Int) (k : Bool) (n : Int) (e : Int) (b : List Int) (f : List Int) (g : Int) (o : Int) (h : Int) (c : List Int) (i : List Int) (j : Int) (w : List Int) (y : List Int) (z : Int) (K : AVal → Option R) : bodyA D Tryd.f70 [.sl (.ints .u8 [])] [.agg [.v (.int .i64 p), .v (.int .i64 q), .v (.int .i64 r), .v (.int .i64 s), .v (.int .i64 t), .v (.bool l), .alt u (.func 130) [] [.sta [.v (.int .i64 d), .arr .u64 25 a, .v (.int .i64 m), .v (.bool k)], .sta [.v (.int .i64 n)]] (.func 132) [] [.sta [.v (.int .i64 e), .arr .u64 8 b, .sl (.ints .u8 f), .v (.int .u64 g)], .sta [.v (.int .i64 o)], .sta [.v (.int .i64 h), .arr .u64 8 c, .sl (.ints .u8 i), .v (.int .u64 j)]]], .sl (.ints .u8 w), .arr .u8 32 y, .v (.int .i64 z)] K = P.wots_signer_first p q r s t l u d a m k n e b f g o h c i j w y z (fun A => K (.sl (.ints .u8 A))) := by
 rw [P.wots_signer_first_eq]
 kernel_rfl
theorem loops : loopsOf (Tryd.f70.body.getD .skip) = [] := by kernel_rfl
noncomputable def spec0 : Abs.Spec := fun args K => match args with
 | [.agg [.v (.int .i64 p), .v (.int .i64 q), .v (.int .i64 r), .v (.int .i64 s), .v (.int .i64 t), .v (.bool l), .alt u (.func 130) [] [.sta [.v (.int .i64 d), .arr .u64 25 a, .v (.int .i64 m), .v (.bool k)], .sta [.v (.int .i64 n)]] (.func 132) [] [.sta [.v (.int .i64 e), .arr .u64 8 b, .sl (.ints .u8 f), .v (.int .u64 g)], .sta [.v (.int .i64 o)], .sta [.v (.int .i64 h), .arr .u64 8 c, .sl (.ints .u8 i), .v (.int .u64 j)]]], .sl (.ints .u8 w), .arr .u8 32 y, .v (.int .i64 z)] => P.wots_signer_first p q r s t l u d a m k n e b f g o h c i j w y z (fun A => K (.sl (.ints .u8 A)))
 | _ => none
noncomputable def spec : Abs.Spec := fun args K => spec0 (coerL [.agg [.any, .any, .any, .any, .any, .any, .alt (.func 130) [] [.sta [.v (.int .i64 0), .arr .u64 25 [], .v (.int .i64 0), .v (.bool false)], .sta [.v (.int .i64 0)]] (.func 132) [] [.sta [.v (.int .i64 0), .arr .u64 8 [], .sl (.ints .u8 []), .v (.int .u64 0)], .sta [.v (.int .i64 0)], .sta [.v (.int .i64 0), .arr .u64 8 [], .sl (.ints .u8 []), .v (.int .u64 0)]]], .sl (.ints .u8 []), .any, .any] args) K
theorem ok0 : Proved Tryd.prog GLO.gx 70 spec0 := by
 refine proved_of (D := D) (fn := Tryd.f70) (c := Tryd.f70.body.getD .skip) [.sl (.ints .u8 [])] (by kernel_rfl) (globsPlain_of (by kernel_rfl)) (by kernel_rfl) (by kernel_rfl) (by kernel_rfl) ⟨wots_Put.ok, wots_number.ok, wots_shaken_f1.ok, wots_hashed_f1.ok, trivial⟩ trivial ?_ ?_
 · rw [loops]; exact trivial
 · intro args K r h
   unfold spec0 at h
   split at h
   · rw [body]; exact h
   · cases h
theorem ok : Proved Tryd.prog GLO.gx 70 spec := proved_coer _ ok0
end wots_signer_first
end

section
open Go Go.Abs Go.Proofs
set_option maxRecDepth 100000
set_option maxHeartbeats 0
set_option linter.unusedVariables false
namespace wots_signer_key
noncomputable def D : Ctx := ({ P := Tryd.prog, G := [(27, wots_Put.spec), (110, wots_number.spec), (130, wots_shaken_f1.spec), (132, wots_hashed_f1.spec)], globs := GLO.gx, hints := [], loops := [], inl := [] } : Ctx)
theorem body (p : Int) (q : Int) (r : Int) (s : Int) (t : Int) (l : Bool) (u : Nat) (d : Int) (a : List Int) (m : Int) (k : Bool) (n : Int) (e : Int) (b : List Int) (f : List Int) (g : Int) (o : Int) (h : Int) (c : List Int) (i : List Int) (j : Int) (w : List Int) (y : List Int) (K : AVal → Option R) : bodyA D Tryd.f71 [.sl (.ints .u8 [])] [.agg [.v (.int .i64 p), .v (.int .i64 q), .v (.int .i64 r), .v (.int .i64 s), .v (.int .i64 t), .v (.bool l), .alt u (.func 130) [] [.sta [.v (.int .i64 d), .arr .u64 25 a, .v (.int .i64 m), .v (.bool k)], .sta [.v (.int .i64 n)]] (.func 132) [] [.sta [.v (.int .i64 e), .arr .u64 8 b, .sl (.ints .u8 f), .v (.int .u64 g)], .sta [.v (.int .i64 o)], .sta [.v (.int .i64 h), .arr .u64 8 c, .sl (.ints .u8 i), .v (.int .u64 j)]]], .sl (.ints .u8 w), .arr .u8 32 y] K = P.wots_signer_key p q r s t l u d a m k n e b f g o h c i j w y (fun z => K (.sl (.ints .u8 z))) := by
 rw [P.wots_signer_key_eq]
 kernel_rfl
theorem loops : loopsOf (Tryd.f71.body.getD .skip) = [] := by kernel_rfl
noncomputable def spec0 : Abs.Spec := fun args K => match args with
 | [.agg [.v (.int .i64 p), .v (.int .i64 q), .v (.int .i64 r), .v (.int .i64 s), .v (.int .i64 t), .v (.bool l), .alt u (.func 130) [] [.sta [.v (.int .i64 d), .arr .u64 25 a, .v (.int .i64 m), .v (.bool k)], .sta [.v (.int .i64 n)]] (.func 132) [] [.sta [.v (.int .i64 e), .arr .u64 8 b, .sl (.ints .u8 f), .v (.int .u64 g)], .sta [.v (.int .i64 o)], .sta [.v (.int .i64 h), .arr .u64 8 c, .sl (.ints .u8 i), .v (.int .u64 j)]]], .sl (.ints .u8 w), .arr .u8 32 y] => P.wots_signer_key p q r s t l u d a m k n e b f g o h c i j w y (fun z => K (.sl (.ints .u8 z)))
 | _ => none
noncomputable def spec : Abs.Spec := fun args K => spec0 (coerL [.agg [.any, .any, .any, .any, .any, .any, .alt (.func 130) [] [.sta [.v (.int .i64 0), .arr .u64 25 [], .v (.int .i64 0), .v (.bool false)], .sta [.v (.int .i64 0)]] (.func 132) [] [.sta [.v (.int .i64 0), .arr .u64 8 [], .sl (.ints .u8 []), .v (.int .u64 0)], .sta [.v (.int .i64 0)], .sta [.v (.int .i64 0), .arr .u64 8 [], .sl (.ints .u8 []), .v (.int .u64 0)]]], .sl (.ints .u8 []), .any] args) K
theorem ok0 : Proved Tryd.prog GLO.gx 71 spec0 := by
 refine proved_of (D := D) (fn := Tryd.f71) (c := Tryd.f71.body.getD .skip) [.sl (.ints .u8 [])] (by kernel_rfl) (globsPlain_of (by kernel_rfl)) (by kernel_rfl) (by kernel_rfl) (by kernel_rfl) ⟨wots_Put.ok, wots_number.ok, wots_shaken_f1.ok, wots_hashed_f1.ok, trivial⟩ trivial ?_ ?_
 · rw [loops]; exact trivial
 · intro args K r h
   unfold spec0 at h
   split at h
   · rw [body]; exact h
   · cases h
theorem ok : Proved Tryd.prog GLO.gx 71 spec := proved_coer _ ok0
end wots_signer_key
end

section
open Go Go.Abs Go.Proofs
set_option maxRecDepth 100000
set_option maxHeartbeats 0
set_option linter.unusedVariables false
namespace wots_Public
abbrev X6 := (List Int) × Int × Int × (List Int) × (List Int) × Int × Int × Int × Int × Int × Bool × Nat × Int × (List Int) × Int × Bool × Int × Int × (List Int) × (List Int) × Int × Int × Int × (List Int) × (List Int) × Int
def S6 : X6 → ASt := fun (B, y, z, A, o, p, q, r, s, t, u, w, a, b, c, d, e, f, g, h, i, j, k, l, m, n) => ⟨[(11, .own 40), (1, .sl (.ints .u8 B)), (7, .ptr 1 0), (9, .ptr 2 0), (29, .v (.int .i64 y)), (30, .v (.int .i64 z))], [(40, some ⟨.row 5 (.ints .u8 A), false⟩), (1, some ⟨.box 43 [.arr .u8 32 o], false⟩), (2, some ⟨.box 84 [.v (.int .i64 p), .v (.int .i64 q), .v (.int .i64 r), .v (.int .i64 s), .v (.int .i64 t), .v (.bool u), .alt w (.func 130) [] [.sta [.v (.int .i64 a), .arr .u64 25 b, .v (.int .i64 c), .v (.bool d)], .sta [.v (.int .i64 e)]] (.func 132) [] [.sta [.v (.int .i64 f), .arr .u64 8 g, .sl (.ints .u8 h), .v (.int .u64 i)], .sta [.v (.int .i64 j)], .sta [.v (.int .i64 k), .arr .u64 8 l, .sl (.ints .u8 m), .v (.int .u64 n)]]], false⟩)], 41, 51⟩
def V6 : ASt → Option X6
 | ⟨[(11, .own 40), (1, .sl (.ints .u8 B)), (7, .ptr 1 0), (9, .ptr 2 0), (29, .v (.int .i64 y)), (30, .v (.int .i64 z))], [(40, some ⟨.row 5 (.ints .u8 A), false⟩), (1, some ⟨.box 43 [.arr .u8 32 o], false⟩), (2, some ⟨.box 84 [.v (.int .i64 p), .v (.int .i64 q), .v (.int .i64 r), .v (.int .i64 s), .v (.int .i64 t), .v (.bool u), .alt w (.func 130) [] [.sta [.v (.int .i64 a), .arr .u64 25 b, .v (.int .i64 c), .v (.bool d)], .sta [.v (.int .i64 e)]] (.func 132) [] [.sta [.v (.int .i64 f), .arr .u64 8 g, .sl (.ints .u8 h), .v (.int .u64 i)], .sta [.v (.int .i64 j)], .sta [.v (.int .i64 k), .arr .u64 8 l, .sl (.ints .u8 m), .v (.int .u64 n)]]], false⟩)], 41, 51⟩ => some (B, y, z, A, o, p, q, r, s, t, u, w, a, b, c, d, e, f, g, h, i, j, k, l, m, n)
 | _ => none
theorem V6_ok (st) (x) (h : V6 st = some x) : st = S6 x := by
 unfold V6 at h
 split at h
 · cases h; rfl
 · cases h
abbrev Y6 := X6
noncomputable def T6 : X6 → (X6 → Option R) → (Y6 → Option R) → Option R := fun (A, w, y, z, o, p, q, r, s, t, u, v, a, b, c, d, e, f, g, h, i, j, k, l, m, n) next ex => P.wots_Public_r6 A w y z o p q r s t u v a b c d e f g h i j k l m n (fun A w y z o p q r s t u v a b c d e f g h i j k l m n => next (A, w, y, z, o, p, q, r, s, t, u, v, a, b, c, d, e, f, g, h, i, j, k, l, m, n)) (fun A w y z o p q r s t u v a b c d e f g h i j k l m n => ex (A, w, y, z, o, p, q, r, s, t, u, v, a, b, c, d, e, f, g, h, i, j, k, l, m, n))
def E6 (K : AExit → ASt → Option R) : Y6 → Option R := (fun x => K (.exit 0) (S6 x))
noncomputable def L6 : LSpec := fun st K => vMap (V6 st) fun (A, w, y, z, o, p, q, r, s, t, u, v, a, b, c, d, e, f, g, h, i, j, k, l, m, n) => P.wots_Public_l6 A w y z o p q r s t u v a b c d e f g h i j k l m n (fun A w y z o p q r s t u v a b c d e f g h i j k l m n => K (.exit 0) (S6 (A, w, y, z, o, p, q, r, s, t, u, v, a, b, c, d, e, f, g, h, i, j, k, l, m, n)))
noncomputable def D : Ctx := ({ P := Tryd.prog, G := [(27, wots_Put.spec), (66, wots_began.spec), (68, wots_signer_count.spec), (69, wots_signer_along.spec), (70, wots_signer_first.spec), (71, wots_signer_key.spec)], globs := GLO.gx, hints := [(6, ⟨[1, 7, 9, 29, 30], [(11, 5, .ints .u8 [])], [8], [], some (40, [1, 2]), [], []⟩)], loops := [(6, L6)], inl := [] } : Ctx)
theorem round6 (K) (next) (x) : roundA D (loopAt Tryd.f36 6) K next (S6 x) = T6 x (fun x => next (S6 x)) (E6 K) := by kernel_rfl
theorem lq6 (st) (K) : L6 st K = vMap (V6 st) (fun x => lp T6 x (E6 K)) := by
 unfold L6
 cases V6 st with
 | none => rfl
 | some x => rw [P.wots_Public_l6_eq]; kernel_rfl
theorem loop6 : LoopOk D (loopAt Tryd.f36 6) := loopOk_lp S6 V6_ok (by kernel_rfl) lq6 round6
theorem body (b : Int) (c : Int) (d : Int) (e : Int) (f : Int) (a : Bool) (g : List Int) (h : List Int) (i : List Int) (K : AVal → Option R) : bodyA D Tryd.f36 [.sl (.ints .u8 [])] [.agg [.v (.int .i64 b), .v (.int .i64 c), .v (.int .i64 d), .v (.int .i64 e), .v (.int .i64 f), .v (.bool a)], .sl (.ints .u8 g), .sl (.ints .u8 h), .arr .u8 32 i] K = P.wots_Public b c d e f a g h i (fun j => K (.sl (.ints .u8 j))) := by
 rw [P.wots_Public_eq]
 kernel_rfl
theorem loops : loopsOf (Tryd.f36.body.getD .skip) = [loopAt Tryd.f36 6] := by kernel_rfl
noncomputable def spec0 : Abs.Spec := fun args K => match args with
 | [.agg [.v (.int .i64 b), .v (.int .i64 c), .v (.int .i64 d), .v (.int .i64 e), .v (.int .i64 f), .v (.bool a)], .sl (.ints .u8 g), .sl (.ints .u8 h), .arr .u8 32 i] => P.wots_Public b c d e f a g h i (fun j => K (.sl (.ints .u8 j)))
 | _ => none
noncomputable def spec : Abs.Spec := fun args K => spec0 (coerL [.any, .sl (.ints .u8 []), .sl (.ints .u8 []), .any] args) K
theorem ok0 : Proved Tryd.prog GLO.gx 36 spec0 := by
 refine proved_of (D := D) (fn := Tryd.f36) (c := Tryd.f36.body.getD .skip) [.sl (.ints .u8 [])] (by kernel_rfl) (globsPlain_of (by kernel_rfl)) (by kernel_rfl) (by kernel_rfl) (by kernel_rfl) ⟨wots_Put.ok, wots_began.ok, wots_signer_count.ok, wots_signer_along.ok, wots_signer_first.ok, wots_signer_key.ok, trivial⟩ trivial ?_ ?_
 · rw [loops]; exact ⟨loop6, trivial⟩
 · intro args K r h
   unfold spec0 at h
   split at h
   · rw [body]; exact h
   · cases h
theorem ok : Proved Tryd.prog GLO.gx 36 spec := proved_coer _ ok0
end wots_Public
end

section
open Go Go.Abs Go.Proofs
set_option maxRecDepth 100000
set_option maxHeartbeats 0
set_option linter.unusedVariables false
namespace xmss_tree_leaf
noncomputable def D : Ctx := ({ P := Tryd.prog, G := [(27, wots_Put.spec)], globs := GLO.gx, hints := [], loops := [], inl := [] } : Ctx)
theorem body (c : Int) (d : Int) (e : Int) (f : Int) (g : Int) (a : Bool) (b : List Int) (h : List Int) (i : List Int) (j : Int) (K : AVal → Option R) : bodyA D Tryd.f80 [.any] [.agg [.v (.int .i64 c), .v (.int .i64 d), .v (.int .i64 e), .v (.int .i64 f), .v (.int .i64 g), .v (.bool a), .sl (.ints .u8 b), .sl (.ints .u8 h), .arr .u8 32 i], .v (.int .u64 j)] K = P.xmss_tree_leaf c d e f g a b h i j (fun k => K (.arr .u8 32 k)) := by
 rw [P.xmss_tree_leaf_eq]
 kernel_rfl
theorem loops : loopsOf (Tryd.f80.body.getD .skip) = [] := by kernel_rfl
noncomputable def spec0 : Abs.Spec := fun args K => match args with
 | [.agg [.v (.int .i64 c), .v (.int .i64 d), .v (.int .i64 e), .v (.int .i64 f), .v (.int .i64 g), .v (.bool a), .sl (.ints .u8 b), .sl (.ints .u8 h), .arr .u8 32 i], .v (.int .u64 j)] => P.xmss_tree_leaf c d e f g a b h i j (fun k => K (.arr .u8 32 k))
 | _ => none
noncomputable def spec : Abs.Spec := fun args K => spec0 (coerL [.agg [.any, .any, .any, .any, .any, .any, .sl (.ints .u8 []), .sl (.ints .u8 []), .any], .any] args) K
theorem ok0 : Proved Tryd.prog GLO.gx 80 spec0 := by
 refine proved_of (D := D) (fn := Tryd.f80) (c := Tryd.f80.body.getD .skip) [.any] (by kernel_rfl) (globsPlain_of (by kernel_rfl)) (by kernel_rfl) (by kernel_rfl) (by kernel_rfl) ⟨wots_Put.ok, trivial⟩ trivial ?_ ?_
 · rw [loops]; exact trivial
 · intro args K r h
   unfold spec0 at h
   split at h
   · rw [body]; exact h
   · cases h
theorem ok : Proved Tryd.prog GLO.gx 80 spec := proved_coer _ ok0
end xmss_tree_leaf
end

section
open Go Go.Abs Go.Proofs
set_option maxRecDepth 100000
set_option maxHeartbeats 0
set_option linter.unusedVariables false
namespace wots_Sum
noncomputable def D : Ctx := ({ P := Tryd.prog, G := [(66, wots_began.spec), (130, wots_shaken_f1.spec), (132, wots_hashed_f1.spec)], globs := GLO.gx, hints := [], loops := [], inl := [] } : Ctx)
theorem body (b : Int) (c : Int) (d : Int) (e : Int) (f : Int) (a : Bool) (g : List Int) (h : List Int) (i : List Int) (K : AVal → Option R) : bodyA D Tryd.f32 [.sl (.ints .u8 [])] [.agg [.v (.int .i64 b), .v (.int .i64 c), .v (.int .i64 d), .v (.int .i64 e), .v (.int .i64 f), .v (.bool a)], .sl (.ints .u8 g), .arr .u8 32 h, .sl (.ints .u8 i)] K = P.wots_Sum b c d e f a g h i (fun j => K (.sl (.ints .u8 j))) := by
 rw [P.wots_Sum_eq]
 kernel_rfl
theorem loops : loopsOf (Tryd.f32.body.getD .skip) = [] := by kernel_rfl
noncomputable def spec0 : Abs.Spec := fun args K => match args with
 | [.agg [.v (.int .i64 b), .v (.int .i64 c), .v (.int .i64 d), .v (.int .i64 e), .v (.int .i64 f), .v (.bool a)], .sl (.ints .u8 g), .arr .u8 32 h, .sl (.ints .u8 i)] => P.wots_Sum b c d e f a g h i (fun j => K (.sl (.ints .u8 j)))
 | _ => none
noncomputable def spec : Abs.Spec := fun args K => spec0 (coerL [.any, .sl (.ints .u8 []), .any, .sl (.ints .u8 [])] args) K
theorem ok0 : Proved Tryd.prog GLO.gx 32 spec0 := by
 refine proved_of (D := D) (fn := Tryd.f32) (c := Tryd.f32.body.getD .skip) [.sl (.ints .u8 [])] (by kernel_rfl) (globsPlain_of (by kernel_rfl)) (by kernel_rfl) (by kernel_rfl) (by kernel_rfl) ⟨wots_began.ok, wots_shaken_f1.ok, wots_hashed_f1.ok, trivial⟩ trivial ?_ ?_
 · rw [loops]; exact trivial
 · intro args K r h
   unfold spec0 at h
   split at h
   · rw [body]; exact h
   · cases h
theorem ok : Proved Tryd.prog GLO.gx 32 spec := proved_coer _ ok0
end wots_Sum
end

section
open Go Go.Abs Go.Proofs
set_option maxRecDepth 100000
set_option maxHeartbeats 0
set_option linter.unusedVariables false
namespace xmss_tree_over
noncomputable def D : Ctx := ({ P := Tryd.prog, G := [(27, wots_Put.spec), (32, wots_Sum.spec), (62, bits_Join.spec)], globs := GLO.gx, hints := [], loops := [], inl := [] } : Ctx)
theorem body (c : Int) (d : Int) (e : Int) (f : Int) (g : Int) (a : Bool) (b : List Int) (h : List Int) (i : List Int) (j : Int) (k : Int) (l : List Int) (m : List Int) (K : AVal → Option R) : bodyA D Tryd.f82 [.sl (.ints .u8 [])] [.agg [.v (.int .i64 c), .v (.int .i64 d), .v (.int .i64 e), .v (.int .i64 f), .v (.int .i64 g), .v (.bool a), .sl (.ints .u8 b), .sl (.ints .u8 h), .arr .u8 32 i], .v (.int .i64 j), .v (.int .u64 k), .sl (.ints .u8 l), .sl (.ints .u8 m)] K = P.xmss_tree_over c d e f g a b h i j k l m (fun n => K (.sl (.ints .u8 n))) := by
 rw [P.xmss_tree_over_eq]
 kernel_rfl
theorem loops : loopsOf (Tryd.f82.body.getD .skip) = [] := by kernel_rfl
noncomputable def spec0 : Abs.Spec := fun args K => match args with
 | [.agg [.v (.int .i64 c), .v (.int .i64 d), .v (.int .i64 e), .v (.int .i64 f), .v (.int .i64 g), .v (.bool a), .sl (.ints .u8 b), .sl (.ints .u8 h), .arr .u8 32 i], .v (.int .i64 j), .v (.int .u64 k), .sl (.ints .u8 l), .sl (.ints .u8 m)] => P.xmss_tree_over c d e f g a b h i j k l m (fun n => K (.sl (.ints .u8 n)))
 | _ => none
noncomputable def spec : Abs.Spec := fun args K => spec0 (coerL [.agg [.any, .any, .any, .any, .any, .any, .sl (.ints .u8 []), .sl (.ints .u8 []), .any], .any, .any, .sl (.ints .u8 []), .sl (.ints .u8 [])] args) K
theorem ok0 : Proved Tryd.prog GLO.gx 82 spec0 := by
 refine proved_of (D := D) (fn := Tryd.f82) (c := Tryd.f82.body.getD .skip) [.sl (.ints .u8 [])] (by kernel_rfl) (globsPlain_of (by kernel_rfl)) (by kernel_rfl) (by kernel_rfl) (by kernel_rfl) ⟨wots_Put.ok, wots_Sum.ok, bits_Join.ok, trivial⟩ trivial ?_ ?_
 · rw [loops]; exact trivial
 · intro args K r h
   unfold spec0 at h
   split at h
   · rw [body]; exact h
   · cases h
theorem ok : Proved Tryd.prog GLO.gx 82 spec := proved_coer _ ok0
end xmss_tree_over
end

section
open Go Go.Abs Go.Proofs
set_option maxRecDepth 100000
set_option maxHeartbeats 0
set_option linter.unusedVariables false
namespace xmss_tree_knot
noncomputable def specN (n : Nat) : Abs.Spec := fun args K => match args with
 | [.agg [.v (.int .i64 c), .v (.int .i64 d), .v (.int .i64 e), .v (.int .i64 f), .v (.int .i64 g), .v (.bool a), .sl (.ints .u8 b), .sl (.ints .u8 h), .arr .u8 32 i], .v (.int .i64 j), .v (.int .u64 k)] => P.xmss_tree_knot n c d e f g a b h i j k (fun l => K (.sl (.ints .u8 l)))
 | _ => none
noncomputable def specC (n : Nat) : Abs.Spec := fun args K => specN n (coerL [.agg [.any, .any, .any, .any, .any, .any, .sl (.ints .u8 []), .sl (.ints .u8 []), .any], .any, .any] args) K
noncomputable def D (n : Nat) : Ctx := ({ P := Tryd.prog, G := [(36, wots_Public.spec), (80, xmss_tree_leaf.spec), (82, xmss_tree_over.spec), (81, specC n)], globs := GLO.gx, hints := [], loops := [], inl := [] } : Ctx)
theorem body (n : Nat) (c : Int) (d : Int) (e : Int) (f : Int) (g : Int) (a : Bool) (b : List Int) (h : List Int) (i : List Int) (j : Int) (k : Int) (K : AVal → Option R) : bodyA (D n) Tryd.f81 [.sl (.ints .u8 [])] [.agg [.v (.int .i64 c), .v (.int .i64 d), .v (.int .i64 e), .v (.int .i64 f), .v (.int .i64 g), .v (.bool a), .sl (.ints .u8 b), .sl (.ints .u8 h), .arr .u8 32 i], .v (.int .i64 j), .v (.int .u64 k)] K = P.xmss_tree_knot (n + 1) c d e f g a b h i j k (fun l => K (.sl (.ints .u8 l))) := by
 rw [P.xmss_tree_knot_eq]
 kernel_rfl
theorem loops : loopsOf (Tryd.f81.body.getD .skip) = [] := by kernel_rfl
noncomputable def spec0 : Abs.Spec := fun args K => match args with
 | [.agg [.v (.int .i64 c), .v (.int .i64 d), .v (.int .i64 e), .v (.int .i64 f), .v (.int .i64 g), .v (.bool a), .sl (.ints .u8 b), .sl (.ints .u8 h), .arr .u8 32 i], .v (.int .i64 j), .v (.int .u64 k)] => P.xmss_tree_knot ((j.toNat+1)) c d e f g a b h i j k (fun l => K (.sl (.ints .u8 l)))
 | _ => none
noncomputable def spec : Abs.Spec := fun args K => spec0 (coerL [.agg [.any, .any, .any, .any, .any, .any, .sl (.ints .u8 []), .sl (.ints .u8 []), .any], .any, .any] args) K
theorem step (n : Nat) (ih : Proved Tryd.prog GLO.gx 81 (specN n)) : Proved Tryd.prog GLO.gx 81 (specN (n + 1)) := by
 refine proved_of (D := D n) (fn := Tryd.f81) (c := Tryd.f81.body.getD .skip) [.sl (.ints .u8 [])] (by kernel_rfl) (globsPlain_of (by kernel_rfl)) (by kernel_rfl) (by kernel_rfl) (by kernel_rfl) ⟨wots_Public.ok, xmss_tree_leaf.ok, xmss_tree_over.ok, proved_coer _ ih, trivial⟩ trivial ?_ ?_
 · rw [loops]; exact trivial
 · intro args K r h
   unfold specN at h
   split at h
   · rw [body]; exact h
   · cases h
theorem okN : ∀ n, Proved Tryd.prog GLO.gx 81 (specN n)
 | 0 => ⟨⟨Tryd.f81, by kernel_rfl, by kernel_rfl, by kernel_rfl⟩, fun args K r h => by unfold specN at h; split at h <;> cases h⟩
 | n + 1 => step n (okN n)
theorem ok0 : Proved Tryd.prog GLO.gx 81 spec0 := ⟨(okN 0).enters, fun args K r h => by
 unfold spec0 at h
 split at h
 · exact (okN _).sound _ K r (by unfold specN; exact h)
 · cases h⟩
theorem ok : Proved Tryd.prog GLO.gx 81 spec := proved_coer _ ok0
end xmss_tree_knot
end

section
open Go Go.Abs Go.Proofs
set_option maxRecDepth 100000
set_option maxHeartbeats 0
set_option linter.unusedVariables false
namespace xmss_Node
noncomputable def D : Ctx := ({ P := Tryd.prog, G := [(78, xmss_such.spec), (79, xmss_high.spec), (81, xmss_tree_knot.spec)], globs := GLO.gx, hints := [], loops := [], inl := [] } : Ctx)
theorem body (b : Int) (c : Int) (d : Int) (e : Int) (f : Int) (a : Bool) (g : List Int) (h : List Int) (i : List Int) (j : Int) (k : Int) (K : AVal → Option R) : bodyA D Tryd.f47 [.sl (.ints .u8 [])] [.agg [.v (.int .i64 b), .v (.int .i64 c), .v (.int .i64 d), .v (.int .i64 e), .v (.int .i64 f), .v (.bool a)], .sl (.ints .u8 g), .sl (.ints .u8 h), .arr .u8 32 i, .v (.int .i64 j), .v (.int .u64 k)] K = P.xmss_Node b c d e f a g h i j k (fun l => K (.sl (.ints .u8 l))) := by
 rw [P.xmss_Node_eq]
 kernel_rfl
theorem loops : loopsOf (Tryd.f47.body.getD .skip) = [] := by kernel_rfl
noncomputable def spec0 : Abs.Spec := fun args K => match args with
 | [.agg [.v (.int .i64 b), .v (.int .i64 c), .v (.int .i64 d), .v (.int .i64 e), .v (.int .i64 f), .v (.bool a)], .sl (.ints .u8 g), .sl (.ints .u8 h), .arr .u8 32 i, .v (.int .i64 j), .v (.int .u64 k)] => P.xmss_Node b c d e f a g h i j k (fun l => K (.sl (.ints .u8 l)))
 | _ => none
noncomputable def spec : Abs.Spec := fun args K => spec0 (coerL [.any, .sl (.ints .u8 []), .sl (.ints .u8 []), .any, .any, .any] args) K
theorem ok0 : Proved Tryd.prog GLO.gx 47 spec0 := by
 refine proved_of (D := D) (fn := Tryd.f47) (c := Tryd.f47.body.getD .skip) [.sl (.ints .u8 [])] (by kernel_rfl) (globsPlain_of (by kernel_rfl)) (by kernel_rfl) (by kernel_rfl) (by kernel_rfl) ⟨xmss_such.ok, xmss_high.ok, xmss_tree_knot.ok, trivial⟩ trivial ?_ ?_
 · rw [loops]; exact trivial
 · intro args K r h
   unfold spec0 at h
   split at h
   · rw [body]; exact h
   · cases h
theorem ok : Proved Tryd.prog GLO.gx 47 spec := proved_coer _ ok0
end xmss_Node
end

section
open Go Go.Abs Go.Proofs
set_option maxRecDepth 100000
set_option maxHeartbeats 0
set_option linter.unusedVariables false
namespace xmss_Size
noncomputable def D : Ctx := ({ P := Tryd.prog, G := [(25, wots_Fit.spec), (79, xmss_high.spec)], globs := GLO.gx, hints := [], loops := [], inl := [] } : Ctx)
theorem body (b : Int) (c : Int) (d : Int) (e : Int) (f : Int) (a : Bool) (K : AVal → Option R) : bodyA D Tryd.f45 [.any] [.agg [.v (.int .i64 b), .v (.int .i64 c), .v (.int .i64 d), .v (.int .i64 e), .v (.int .i64 f), .v (.bool a)]] K = P.xmss_Size b c d e f a (fun g => K (.v (.int .i64 g))) := by
 rw [P.xmss_Size_eq]
 kernel_rfl
theorem loops : loopsOf (Tryd.f45.body.getD .skip) = [] := by kernel_rfl
noncomputable def spec0 : Abs.Spec := fun args K => match args with
 | [.agg [.v (.int .i64 b), .v (.int .i64 c), .v (.int .i64 d), .v (.int .i64 e), .v (.int .i64 f), .v (.bool a)]] => P.xmss_Size b c d e f a (fun g => K (.v (.int .i64 g)))
 | _ => none
noncomputable def spec : Abs.Spec := spec0
theorem ok0 : Proved Tryd.prog GLO.gx 45 spec0 := by
 refine proved_of (D := D) (fn := Tryd.f45) (c := Tryd.f45.body.getD .skip) [.any] (by kernel_rfl) (globsPlain_of (by kernel_rfl)) (by kernel_rfl) (by kernel_rfl) (by kernel_rfl) ⟨wots_Fit.ok, xmss_high.ok, trivial⟩ trivial ?_ ?_
 · rw [loops]; exact trivial
 · intro args K r h
   unfold spec0 at h
   split at h
   · rw [body]; exact h
   · cases h
theorem ok : Proved Tryd.prog GLO.gx 45 spec := ok0
end xmss_Size
end

section
open Go Go.Abs Go.Proofs
set_option maxRecDepth 100000
set_option maxHeartbeats 0
set_option linter.unusedVariables false
namespace L18_awake
noncomputable def D : Ctx := ({ P := Tryd.prog, G := [(45, xmss_Size.spec), (47, xmss_Node.spec)], globs := GLO.gx, hints := [], loops := [], inl := [] } : Ctx)
theorem body  (K : AVal → Option R) : bodyA D Tryd.f50 [.any] [] K = P.L18_awake (fun a => K (.v (.bool a))) := by
 rw [P.L18_awake_eq]
 kernel_rfl
theorem loops : loopsOf (Tryd.f50.body.getD .skip) = [] := by kernel_rfl
noncomputable def spec0 : Abs.Spec := fun args K => match args with
 | [] => P.L18_awake (fun a => K (.v (.bool a)))
 | _ => none
noncomputable def spec : Abs.Spec := spec0
theorem ok0 : Proved Tryd.prog GLO.gx 50 spec0 := by
 refine proved_of (D := D) (fn := Tryd.f50) (c := Tryd.f50.body.getD .skip) [.any] (by kernel_rfl) (globsPlain_of (by kernel_rfl)) (by kernel_rfl) (by kernel_rfl) (by kernel_rfl) ⟨xmss_Size.ok, xmss_Node.ok, trivial⟩ trivial ?_ ?_
 · rw [loops]; exact trivial
 · intro args K r h
   unfold spec0 at h
   split at h
   · rw [body]; exact h
   · cases h
theorem ok : Proved Tryd.prog GLO.gx 50 spec := ok0
end L18_awake
end

section
open Go Go.Abs Go.Proofs
set_option maxRecDepth 100000
set_option maxHeartbeats 0
set_option linter.unusedVariables false
namespace R01_Same
abbrev X4 := (List Int) × (List Int) × Int
def S4 : X4 → ASt := fun (a, b, c) => ⟨[(0, .sl (.ints .u8 a)), (1, .sl (.ints .u8 b)), (5, .v (.int .i64 c))], [], 0, 26⟩
def V4 : ASt → Option X4
 | ⟨[(0, .sl (.ints .u8 a)), (1, .sl (.ints .u8 b)), (5, .v (.int .i64 c))], [], 0, 26⟩ => some (a, b, c)
 | _ => none
theorem V4_ok (st) (x) (h : V4 st = some x) : st = S4 x := by
 unfold V4 at h
 split at h
 · cases h; rfl
 · cases h
abbrev Y4 := X4 ⊕ (Bool)
noncomputable def T4 : X4 → (X4 → Option R) → (Y4 → Option R) → Option R := fun (a, b, c) next ex => P.R01_Same_r4 a b c (fun a b c => next (a, b, c)) (fun a b c => ex (.inl (a, b, c))) (fun d => ex (.inr d))
def E4 (K : AExit → ASt → Option R) : Y4 → Option R := (Sum.elim (fun x => K (.exit 0) (S4 x)) (fun a => K .ret ⟨[(4, .v (.bool a))], [], 0, 26⟩))
noncomputable def L4 : LSpec := fun st K => vMap (V4 st) fun (a, b, c) => P.R01_Same_l4 a b c (fun a b c => K (.exit 0) (S4 (a, b, c))) (fun d => K .ret ⟨[(4, .v (.bool d))], [], 0, 26⟩)
noncomputable def D : Ctx := ({ P := Tryd.prog, G := [], globs := GLO.gx, hints := [(4, ⟨[0, 1, 5], [], [4], [], none, [], []⟩)], loops := [(4, L4)], inl := [] } : Ctx)
theorem round4 (K) (next) (x) : roundA D (loopAt Tryd.f18 4) K next (S4 x) = T4 x (fun x => next (S4 x)) (E4 K) := by kernel_rfl
theorem lq4 (st) (K) : L4 st K = vMap (V4 st) (fun x => lp T4 x (E4 K)) := by
 unfold L4
 cases V4 st with
 | none => rfl
 | some x => rw [P.R01_Same_l4_eq]; kernel_rfl
theorem loop4 : LoopOk D (loopAt Tryd.f18 4) := loopOk_lp S4 V4_ok (by kernel_rfl) lq4 round4
theorem body (a : List Int) (b : List Int) (K : AVal → Option R) : bodyA D Tryd.f18 [.any] [.sl (.ints .u8 a), .sl (.ints .u8 b)] K = P.R01_Same a b (fun c => K (.v (.bool c))) := by
 rw [P.R01_Same_eq]
 kernel_rfl
theorem loops : loopsOf (Tryd.f18.body.getD .skip) = [loopAt Tryd.f18 4] := by kernel_rfl
noncomputable def spec0 : Abs.Spec := fun args K => match args with
 | [.sl (.ints .u8 a), .sl (.ints .u8 b)] => P.R01_Same a b (fun c => K (.v (.bool c)))
 | _ => none
noncomputable def spec : Abs.Spec := fun args K => spec0 (coerL [.sl (.ints .u8 []), .sl (.ints .u8 [])] args) K
theorem ok0 : Proved Tryd.prog GLO.gx 18 spec0 := by
 refine proved_of (D := D) (fn := Tryd.f18) (c := Tryd.f18.body.getD .skip) [.any] (by kernel_rfl) (globsPlain_of (by kernel_rfl)) (by kernel_rfl) (by kernel_rfl) (by kernel_rfl) trivial trivial ?_ ?_
 · rw [loops]; exact ⟨loop4, trivial⟩
 · intro args K r h
   unfold spec0 at h
   split at h
   · rw [body]; exact h
   · cases h
theorem ok : Proved Tryd.prog GLO.gx 18 spec := proved_coer _ ok0
end R01_Same
end

section
open Go Go.Abs Go.Proofs
set_option maxRecDepth 100000
set_option maxHeartbeats 0
set_option linter.unusedVariables false
namespace bits_such
noncomputable def D : Ctx := ({ P := Tryd.prog, G := [], globs := GLO.gx, hints := [], loops := [], inl := [] } : Ctx)
theorem body (a : List Int) (b : Int) (c : Int) (K : AVal → Option R) : bodyA D Tryd.f106 [.any] [.sl (.ints .u8 a), .v (.int .i64 b), .v (.int .i64 c)] K = P.bits_such a b c (fun d => K (.v (.bool d))) := by
 rw [P.bits_such_eq]
 kernel_rfl
theorem loops : loopsOf (Tryd.f106.body.getD .skip) = [] := by kernel_rfl
noncomputable def spec0 : Abs.Spec := fun args K => match args with
 | [.sl (.ints .u8 a), .v (.int .i64 b), .v (.int .i64 c)] => P.bits_such a b c (fun d => K (.v (.bool d)))
 | _ => none
noncomputable def spec : Abs.Spec := fun args K => spec0 (coerL [.sl (.ints .u8 []), .any, .any] args) K
theorem ok0 : Proved Tryd.prog GLO.gx 106 spec0 := by
 refine proved_of (D := D) (fn := Tryd.f106) (c := Tryd.f106.body.getD .skip) [.any] (by kernel_rfl) (globsPlain_of (by kernel_rfl)) (by kernel_rfl) (by kernel_rfl) (by kernel_rfl) trivial trivial ?_ ?_
 · rw [loops]; exact trivial
 · intro args K r h
   unfold spec0 at h
   split at h
   · rw [body]; exact h
   · cases h
theorem ok : Proved Tryd.prog GLO.gx 106 spec := proved_coer _ ok0
end bits_such
end
