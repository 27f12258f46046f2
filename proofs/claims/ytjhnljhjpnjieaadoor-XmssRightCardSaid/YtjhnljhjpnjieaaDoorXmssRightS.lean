/-
  XmssRight, part 19: an interpreter of my own over abstract values, the pure functions, the walks and the plain law.
-/

import Derived.Test.YtjhnljhjpnjieaaDoorXmssRightJ
import Derived.Test.YtjhnljhjpnjieaaDoorXmssRightH
import Derived.Test.YtjhnljhjpnjieaaDoorProg
import Derived.Test.YtjhnljhjpnjieaaDoorXmssRightI
import Derived.Test.YtjhnljhjpnjieaaDoorXmssRightR
import Derived.KernelRfl
import Derived.Test.YtjhnljhjpnjieaaDoorXmssRightM
import Derived.Test.YtjhnljhjpnjieaaDoorXmssRightQ
import Derived.Test.YtjhnljhjpnjieaaDoorXmssRightK

section
open Go Go.Abs Go.Proofs
set_option maxRecDepth 100000
set_option maxHeartbeats 0
set_option linter.unusedVariables false
namespace bits_Digits
abbrev X8 := (List Int) × Int × Int × Int × Int × Int × Int × (List Int)
def S8 : X8 → ASt := fun (d, e, f, g, a, b, c, h) => ⟨[(0, .sl (.ints .u8 d)), (1, .v (.int .i64 e)), (7, .own 0), (8, .v (.int .u64 f)), (9, .v (.int .i64 g)), (10, .v (.int .i64 a)), (19, .v (.int .i64 b)), (20, .v (.int .i64 c))], [(0, some ⟨.row 77 (.ints .u32 h), false⟩)], 1, 53⟩
def V8 : ASt → Option X8
 | ⟨[(0, .sl (.ints .u8 d)), (1, .v (.int .i64 e)), (7, .own 0), (8, .v (.int .u64 f)), (9, .v (.int .i64 g)), (10, .v (.int .i64 a)), (19, .v (.int .i64 b)), (20, .v (.int .i64 c))], [(0, some ⟨.row 77 (.ints .u32 h), false⟩)], 1, 53⟩ => some (d, e, f, g, a, b, c, h)
 | _ => none
theorem V8_ok (st) (x) (h : V8 st = some x) : st = S8 x := by
 unfold V8 at h
 split at h
 · cases h; rfl
 · cases h
abbrev Y8 := X8
noncomputable def T8 : X8 → (X8 → Option R) → (Y8 → Option R) → Option R := fun (d, e, f, g, a, b, c, h) next ex => P.bits_Digits_r8 d e f g a b c h (fun d e f g a b c h => next (d, e, f, g, a, b, c, h)) (fun d e f g a b c h => ex (d, e, f, g, a, b, c, h))
abbrev X6 := (List Int) × Int × Int × Int × Int × Int × (List Int)
def S6 : X6 → ASt := fun (c, d, e, f, a, b, g) => ⟨[(0, .sl (.ints .u8 c)), (1, .v (.int .i64 d)), (7, .own 0), (8, .v (.int .u64 e)), (9, .v (.int .i64 f)), (19, .v (.int .i64 a)), (20, .v (.int .i64 b))], [(0, some ⟨.row 77 (.ints .u32 g), false⟩)], 1, 53⟩
def V6 : ASt → Option X6
 | ⟨[(0, .sl (.ints .u8 c)), (1, .v (.int .i64 d)), (7, .own 0), (8, .v (.int .u64 e)), (9, .v (.int .i64 f)), (19, .v (.int .i64 a)), (20, .v (.int .i64 b))], [(0, some ⟨.row 77 (.ints .u32 g), false⟩)], 1, 53⟩ => some (c, d, e, f, a, b, g)
 | _ => none
theorem V6_ok (st) (x) (h : V6 st = some x) : st = S6 x := by
 unfold V6 at h
 split at h
 · cases h; rfl
 · cases h
abbrev Y6 := X6
noncomputable def T6 : X6 → (X6 → Option R) → (Y6 → Option R) → Option R := fun (c, d, e, f, a, b, g) next ex => P.bits_Digits_r6 c d e f a b g (fun c d e f a b g => next (c, d, e, f, a, b, g)) (fun c d e f a b g => ex (c, d, e, f, a, b, g))
def E8 (K : AExit → ASt → Option R) : Y8 → Option R := (fun x => K (.exit 2) (S8 x))
noncomputable def L8 : LSpec := fun st K => vMap (V8 st) fun (d, e, f, g, a, b, c, h) => P.bits_Digits_l8 d e f g a b c h (fun d e f g a b c h => K (.exit 2) (S8 (d, e, f, g, a, b, c, h)))
def E6 (K : AExit → ASt → Option R) : Y6 → Option R := (fun x => K (.exit 0) (S6 x))
noncomputable def L6 : LSpec := fun st K => vMap (V6 st) fun (c, d, e, f, a, b, g) => P.bits_Digits_l6 c d e f a b g (fun c d e f a b g => K (.exit 0) (S6 (c, d, e, f, a, b, g)))
noncomputable def D : Ctx := ({ P := Tryd.prog, G := [(106, bits_such.spec)], globs := GLO.gx, hints := [(8, ⟨[0, 1, 7, 8, 9, 10, 19, 20], [], [6], [(0, .sl (.ints .u8 []))], none, [], []⟩), (6, ⟨[0, 1, 7, 8, 9, 19, 20], [], [6], [(0, .sl (.ints .u8 []))], none, [], []⟩)], loops := [(8, L8), (6, L6)], inl := [] } : Ctx)
theorem round8 (K) (next) (x) : roundA D (loopAt Tryd.f64 8) K next (S8 x) = T8 x (fun x => next (S8 x)) (E8 K) := by kernel_rfl
theorem lq8 (st) (K) : L8 st K = vMap (V8 st) (fun x => lp T8 x (E8 K)) := by
 unfold L8
 cases V8 st with
 | none => rfl
 | some x => rw [P.bits_Digits_l8_eq]; kernel_rfl
theorem loop8 : LoopOk D (loopAt Tryd.f64 8) := loopOk_lp S8 V8_ok (by kernel_rfl) lq8 round8
theorem round6 (K) (next) (x) : roundA D (loopAt Tryd.f64 6) K next (S6 x) = T6 x (fun x => next (S6 x)) (E6 K) := by kernel_rfl
theorem lq6 (st) (K) : L6 st K = vMap (V6 st) (fun x => lp T6 x (E6 K)) := by
 unfold L6
 cases V6 st with
 | none => rfl
 | some x => rw [P.bits_Digits_l6_eq]; kernel_rfl
theorem loop6 : LoopOk D (loopAt Tryd.f64 6) := loopOk_lp S6 V6_ok (by kernel_rfl) lq6 round6
theorem body (a : List Int) (b : Int) (c : Int) (K : AVal → Option R) : bodyA D Tryd.f64 [.fr 77 (.ints .u32 [])] [.sl (.ints .u8 a), .v (.int .i64 b), .v (.int .i64 c)] K = P.bits_Digits a b c (fun d => K (.fr 77 (.ints .u32 d))) := by
 rw [P.bits_Digits_eq]
 kernel_rfl
theorem loops : loopsOf (Tryd.f64.body.getD .skip) = [loopAt Tryd.f64 6, loopAt Tryd.f64 8] := by kernel_rfl
noncomputable def spec0 : Abs.Spec := fun args K => match args with
 | [.sl (.ints .u8 a), .v (.int .i64 b), .v (.int .i64 c)] => P.bits_Digits a b c (fun d => K (.fr 77 (.ints .u32 d)))
 | _ => none
noncomputable def spec : Abs.Spec := fun args K => spec0 (coerL [.sl (.ints .u8 []), .any, .any] args) K
theorem ok0 : Proved Tryd.prog GLO.gx 64 spec0 := by
 refine proved_of (D := D) (fn := Tryd.f64) (c := Tryd.f64.body.getD .skip) [.fr 77 (.ints .u32 [])] (by kernel_rfl) (globsPlain_of (by kernel_rfl)) (by kernel_rfl) (by kernel_rfl) (by kernel_rfl) ⟨bits_such.ok, trivial⟩ trivial ?_ ?_
 · rw [loops]; exact ⟨loop6, loop8, trivial⟩
 · intro args K r h
   unfold spec0 at h
   split at h
   · rw [body]; exact h
   · cases h
theorem ok : Proved Tryd.prog GLO.gx 64 spec := proved_coer _ ok0
end bits_Digits
end

section
open Go Go.Abs Go.Proofs
set_option maxRecDepth 100000
set_option maxHeartbeats 0
set_option linter.unusedVariables false
namespace wots_Digits
abbrev X6 := Int × Int × Int × (List Int)
def S6 : X6 → ASt := fun (c, a, b, d) => ⟨[(5, .own 0), (6, .v (.int .u32 c)), (33, .own 0), (34, .v (.int .i64 a)), (35, .v (.int .i64 b))], [(0, some ⟨.row 77 (.ints .u32 d), false⟩)], 1, 53⟩
def V6 : ASt → Option X6
 | ⟨[(5, .own 0), (6, .v (.int .u32 c)), (33, .own 0), (34, .v (.int .i64 a)), (35, .v (.int .i64 b))], [(0, some ⟨.row 77 (.ints .u32 d), false⟩)], 1, 53⟩ => some (c, a, b, d)
 | _ => none
theorem V6_ok (st) (x) (h : V6 st = some x) : st = S6 x := by
 unfold V6 at h
 split at h
 · cases h; rfl
 · cases h
abbrev Y6 := X6
noncomputable def T6 : X6 → (X6 → Option R) → (Y6 → Option R) → Option R := fun (c, a, b, d) next ex => P.wots_Digits_r6 c a b d (fun c a b d => next (c, a, b, d)) (fun c a b d => ex (c, a, b, d))
def E6 (K : AExit → ASt → Option R) : Y6 → Option R := (fun x => K (.exit 0) (S6 x))
noncomputable def L6 : LSpec := fun st K => vMap (V6 st) fun (c, a, b, d) => P.wots_Digits_l6 c a b d (fun c a b d => K (.exit 0) (S6 (c, a, b, d)))
noncomputable def D : Ctx := ({ P := Tryd.prog, G := [(64, bits_Digits.spec)], globs := GLO.gx, hints := [(6, ⟨[5, 6, 33, 34, 35], [], [4], [], none, [], []⟩)], loops := [(6, L6)], inl := [] } : Ctx)
theorem round6 (K) (next) (x) : roundA D (loopAt Tryd.f30 6) K next (S6 x) = T6 x (fun x => next (S6 x)) (E6 K) := by kernel_rfl
theorem lq6 (st) (K) : L6 st K = vMap (V6 st) (fun x => lp T6 x (E6 K)) := by
 unfold L6
 cases V6 st with
 | none => rfl
 | some x => rw [P.wots_Digits_l6_eq]; kernel_rfl
theorem loop6 : LoopOk D (loopAt Tryd.f30 6) := loopOk_lp S6 V6_ok (by kernel_rfl) lq6 round6
theorem body (a : Int) (b : List Int) (K : AVal → Option R) : bodyA D Tryd.f30 [.fr 77 (.ints .u32 [])] [.v (.int .i64 a), .sl (.ints .u8 b)] K = P.wots_Digits a b (fun c => K (.fr 77 (.ints .u32 c))) := by
 rw [P.wots_Digits_eq]
 kernel_rfl
theorem loops : loopsOf (Tryd.f30.body.getD .skip) = [loopAt Tryd.f30 6] := by kernel_rfl
noncomputable def spec0 : Abs.Spec := fun args K => match args with
 | [.v (.int .i64 a), .sl (.ints .u8 b)] => P.wots_Digits a b (fun c => K (.fr 77 (.ints .u32 c)))
 | _ => none
noncomputable def spec : Abs.Spec := fun args K => spec0 (coerL [.any, .sl (.ints .u8 [])] args) K
theorem ok0 : Proved Tryd.prog GLO.gx 30 spec0 := by
 refine proved_of (D := D) (fn := Tryd.f30) (c := Tryd.f30.body.getD .skip) [.fr 77 (.ints .u32 [])] (by kernel_rfl) (globsPlain_of (by kernel_rfl)) (by kernel_rfl) (by kernel_rfl) (by kernel_rfl) ⟨bits_Digits.ok, trivial⟩ trivial ?_ ?_
 · rw [loops]; exact ⟨loop6, trivial⟩
 · intro args K r h
   unfold spec0 at h
   split at h
   · rw [body]; exact h
   · cases h
theorem ok : Proved Tryd.prog GLO.gx 30 spec := proved_coer _ ok0
end wots_Digits
end

section
open Go Go.Abs Go.Proofs
set_option maxRecDepth 100000
set_option maxHeartbeats 0
set_option linter.unusedVariables false
namespace wots_Candidate
abbrev X6 := (List Int) × Int × Int × (List Int) × Int × Int × Int × Int × Int × Bool × (List Int) × Int × Int × Int × Int × Int × Bool × Nat × Int × (List Int) × Int × Bool × Int × Int × (List Int) × (List Int) × Int × Int × Int × (List Int) × (List Int) × Int × (List Int)
def S6 : X6 → ASt := fun (I, G, H, J, o, p, q, r, s, t, u, w, y, z, A, B, C, F, a, b, c, d, e, f, g, h, i, j, k, l, m, n, M) => ⟨[(13, .own 4), (1, .sl (.ints .u8 I)), (5, .ptr 0 0), (9, .ptr 1 0), (11, .ptr 2 0), (44, .own 3), (45, .v (.int .i64 G)), (46, .v (.int .i64 H))], [(4, some ⟨.row 5 (.ints .u8 J), false⟩), (0, some ⟨.box 41 [.v (.int .i64 o), .v (.int .i64 p), .v (.int .i64 q), .v (.int .i64 r), .v (.int .i64 s), .v (.bool t)], false⟩), (1, some ⟨.box 43 [.arr .u8 32 u], false⟩), (2, some ⟨.box 84 [.v (.int .i64 w), .v (.int .i64 y), .v (.int .i64 z), .v (.int .i64 A), .v (.int .i64 B), .v (.bool C), .alt F (.func 130) [] [.sta [.v (.int .i64 a), .arr .u64 25 b, .v (.int .i64 c), .v (.bool d)], .sta [.v (.int .i64 e)]] (.func 132) [] [.sta [.v (.int .i64 f), .arr .u64 8 g, .sl (.ints .u8 h), .v (.int .u64 i)], .sta [.v (.int .i64 j)], .sta [.v (.int .i64 k), .arr .u64 8 l, .sl (.ints .u8 m), .v (.int .u64 n)]]], false⟩), (3, some ⟨.row 77 (.ints .u32 M), false⟩)], 5, 73⟩
def V6 : ASt → Option X6
 | ⟨[(13, .own 4), (1, .sl (.ints .u8 I)), (5, .ptr 0 0), (9, .ptr 1 0), (11, .ptr 2 0), (44, .own 3), (45, .v (.int .i64 G)), (46, .v (.int .i64 H))], [(4, some ⟨.row 5 (.ints .u8 J), false⟩), (0, some ⟨.box 41 [.v (.int .i64 o), .v (.int .i64 p), .v (.int .i64 q), .v (.int .i64 r), .v (.int .i64 s), .v (.bool t)], false⟩), (1, some ⟨.box 43 [.arr .u8 32 u], false⟩), (2, some ⟨.box 84 [.v (.int .i64 w), .v (.int .i64 y), .v (.int .i64 z), .v (.int .i64 A), .v (.int .i64 B), .v (.bool C), .alt F (.func 130) [] [.sta [.v (.int .i64 a), .arr .u64 25 b, .v (.int .i64 c), .v (.bool d)], .sta [.v (.int .i64 e)]] (.func 132) [] [.sta [.v (.int .i64 f), .arr .u64 8 g, .sl (.ints .u8 h), .v (.int .u64 i)], .sta [.v (.int .i64 j)], .sta [.v (.int .i64 k), .arr .u64 8 l, .sl (.ints .u8 m), .v (.int .u64 n)]]], false⟩), (3, some ⟨.row 77 (.ints .u32 M), false⟩)], 5, 73⟩ => some (I, G, H, J, o, p, q, r, s, t, u, w, y, z, A, B, C, F, a, b, c, d, e, f, g, h, i, j, k, l, m, n, M)
 | _ => none
theorem V6_ok (st) (x) (h : V6 st = some x) : st = S6 x := by
 unfold V6 at h
 split at h
 · cases h; rfl
 · cases h
abbrev Y6 := X6
noncomputable def T6 : X6 → (X6 → Option R) → (Y6 → Option R) → Option R := fun (H, F, G, I, o, p, q, r, s, t, u, v, w, y, z, A, B, C, a, b, c, d, e, f, g, h, i, j, k, l, m, n, J) next ex => P.wots_Candidate_r6 H F G I o p q r s t u v w y z A B C a b c d e f g h i j k l m n J (fun H F G I o p q r s t u v w y z A B C a b c d e f g h i j k l m n J => next (H, F, G, I, o, p, q, r, s, t, u, v, w, y, z, A, B, C, a, b, c, d, e, f, g, h, i, j, k, l, m, n, J)) (fun H F G I o p q r s t u v w y z A B C a b c d e f g h i j k l m n J => ex (H, F, G, I, o, p, q, r, s, t, u, v, w, y, z, A, B, C, a, b, c, d, e, f, g, h, i, j, k, l, m, n, J))
def E6 (K : AExit → ASt → Option R) : Y6 → Option R := (fun x => K (.exit 0) (S6 x))
noncomputable def L6 : LSpec := fun st K => vMap (V6 st) fun (H, F, G, I, o, p, q, r, s, t, u, v, w, y, z, A, B, C, a, b, c, d, e, f, g, h, i, j, k, l, m, n, J) => P.wots_Candidate_l6 H F G I o p q r s t u v w y z A B C a b c d e f g h i j k l m n J (fun H F G I o p q r s t u v w y z A B C a b c d e f g h i j k l m n J => K (.exit 0) (S6 (H, F, G, I, o, p, q, r, s, t, u, v, w, y, z, A, B, C, a, b, c, d, e, f, g, h, i, j, k, l, m, n, J)))
noncomputable def D : Ctx := ({ P := Tryd.prog, G := [(27, wots_Put.spec), (30, wots_Digits.spec), (66, wots_began.spec), (68, wots_signer_count.spec), (69, wots_signer_along.spec), (71, wots_signer_key.spec)], globs := GLO.gx, hints := [(6, ⟨[1, 5, 9, 11, 44, 45, 46], [(13, 5, .ints .u8 [])], [10], [(1, .sl (.ints .u8 []))], none, [], []⟩)], loops := [(6, L6)], inl := [] } : Ctx)
theorem round6 (K) (next) (x) : roundA D (loopAt Tryd.f38 6) K next (S6 x) = T6 x (fun x => next (S6 x)) (E6 K) := by kernel_rfl
theorem lq6 (st) (K) : L6 st K = vMap (V6 st) (fun x => lp T6 x (E6 K)) := by
 unfold L6
 cases V6 st with
 | none => rfl
 | some x => rw [P.wots_Candidate_l6_eq]; kernel_rfl
theorem loop6 : LoopOk D (loopAt Tryd.f38 6) := loopOk_lp S6 V6_ok (by kernel_rfl) lq6 round6
theorem body (b : Int) (c : Int) (d : Int) (e : Int) (f : Int) (a : Bool) (g : List Int) (h : List Int) (i : List Int) (j : List Int) (K : AVal → Option R) : bodyA D Tryd.f38 [.sl (.ints .u8 [])] [.agg [.v (.int .i64 b), .v (.int .i64 c), .v (.int .i64 d), .v (.int .i64 e), .v (.int .i64 f), .v (.bool a)], .sl (.ints .u8 g), .sl (.ints .u8 h), .sl (.ints .u8 i), .arr .u8 32 j] K = P.wots_Candidate b c d e f a g h i j (fun k => K (.sl (.ints .u8 k))) := by
 rw [P.wots_Candidate_eq]
 kernel_rfl
theorem loops : loopsOf (Tryd.f38.body.getD .skip) = [loopAt Tryd.f38 6] := by kernel_rfl
noncomputable def spec0 : Abs.Spec := fun args K => match args with
 | [.agg [.v (.int .i64 b), .v (.int .i64 c), .v (.int .i64 d), .v (.int .i64 e), .v (.int .i64 f), .v (.bool a)], .sl (.ints .u8 g), .sl (.ints .u8 h), .sl (.ints .u8 i), .arr .u8 32 j] => P.wots_Candidate b c d e f a g h i j (fun k => K (.sl (.ints .u8 k)))
 | _ => none
noncomputable def spec : Abs.Spec := fun args K => spec0 (coerL [.any, .sl (.ints .u8 []), .sl (.ints .u8 []), .sl (.ints .u8 []), .any] args) K
theorem ok0 : Proved Tryd.prog GLO.gx 38 spec0 := by
 refine proved_of (D := D) (fn := Tryd.f38) (c := Tryd.f38.body.getD .skip) [.sl (.ints .u8 [])] (by kernel_rfl) (globsPlain_of (by kernel_rfl)) (by kernel_rfl) (by kernel_rfl) (by kernel_rfl) ⟨wots_Put.ok, wots_Digits.ok, wots_began.ok, wots_signer_count.ok, wots_signer_along.ok, wots_signer_key.ok, trivial⟩ trivial ?_ ?_
 · rw [loops]; exact ⟨loop6, trivial⟩
 · intro args K r h
   unfold spec0 at h
   split at h
   · rw [body]; exact h
   · cases h
theorem ok : Proved Tryd.prog GLO.gx 38 spec := proved_coer _ ok0
end wots_Candidate
end

section
open Go Go.Abs Go.Proofs
set_option maxRecDepth 100000
set_option maxHeartbeats 0
set_option linter.unusedVariables false
namespace xmss_Candidate
abbrev X7 := Int × (List Int) × (List Int) × Int × Int × Int × Int × Int × Int × Int × Bool × Int × Int × Int × Int × Int × Bool × (List Int) × (List Int)
def S7 : X7 → ASt := fun (s, o, p, q, r, a, b, c, d, e, f, g, h, i, j, k, l, m, n) => ⟨[(5, .v (.int .u64 s)), (6, .ptr 0 0), (13, .ptr 3 0), (15, .sl (.ints .u8 o)), (16, .sl (.ints .u8 p)), (66, .v (.int .i64 q)), (67, .v (.int .i64 r))], [(0, some ⟨.box 41 [.v (.int .i64 a), .v (.int .i64 b), .v (.int .i64 c), .v (.int .i64 d), .v (.int .i64 e), .v (.bool f)], false⟩), (3, some ⟨.box 105 [.v (.int .i64 g), .v (.int .i64 h), .v (.int .i64 i), .v (.int .i64 j), .v (.int .i64 k), .v (.bool l), .v (.slice none 0 0), .sl (.ints .u8 m), .arr .u8 32 n], false⟩)], 40, 98⟩
def V7 : ASt → Option X7
 | ⟨[(5, .v (.int .u64 s)), (6, .ptr 0 0), (13, .ptr 3 0), (15, .sl (.ints .u8 o)), (16, .sl (.ints .u8 p)), (66, .v (.int .i64 q)), (67, .v (.int .i64 r))], [(0, some ⟨.box 41 [.v (.int .i64 a), .v (.int .i64 b), .v (.int .i64 c), .v (.int .i64 d), .v (.int .i64 e), .v (.bool f)], false⟩), (3, some ⟨.box 105 [.v (.int .i64 g), .v (.int .i64 h), .v (.int .i64 i), .v (.int .i64 j), .v (.int .i64 k), .v (.bool l), .v (.slice none 0 0), .sl (.ints .u8 m), .arr .u8 32 n], false⟩)], 40, 98⟩ => some (s, o, p, q, r, a, b, c, d, e, f, g, h, i, j, k, l, m, n)
 | _ => none
theorem V7_ok (st) (x) (h : V7 st = some x) : st = S7 x := by
 unfold V7 at h
 split at h
 · cases h; rfl
 · cases h
abbrev Y7 := X7
noncomputable def T7 : X7 → (X7 → Option R) → (Y7 → Option R) → Option R := fun (s, o, p, q, r, a, b, c, d, e, f, g, h, i, j, k, l, m, n) next ex => P.xmss_Candidate_r7 s o p q r a b c d e f g h i j k l m n (fun s o p q r a b c d e f g h i j k l m n => next (s, o, p, q, r, a, b, c, d, e, f, g, h, i, j, k, l, m, n)) (fun s o p q r a b c d e f g h i j k l m n => ex (s, o, p, q, r, a, b, c, d, e, f, g, h, i, j, k, l, m, n))
def E7 (K : AExit → ASt → Option R) : Y7 → Option R := (fun x => K (.exit 0) (S7 x))
noncomputable def L7 : LSpec := fun st K => vMap (V7 st) fun (s, o, p, q, r, a, b, c, d, e, f, g, h, i, j, k, l, m, n) => P.xmss_Candidate_l7 s o p q r a b c d e f g h i j k l m n (fun s o p q r a b c d e f g h i j k l m n => K (.exit 0) (S7 (s, o, p, q, r, a, b, c, d, e, f, g, h, i, j, k, l, m, n)))
noncomputable def D : Ctx := ({ P := Tryd.prog, G := [(38, wots_Candidate.spec), (45, xmss_Size.spec), (78, xmss_such.spec), (79, xmss_high.spec), (80, xmss_tree_leaf.spec), (82, xmss_tree_over.spec)], globs := GLO.gx, hints := [(7, ⟨[5, 6, 13, 15, 16, 66, 67], [], [12], [(15, .sl (.ints .u8 [])), (16, .sl (.ints .u8 []))], some (40, [0, 3]), [], []⟩)], loops := [(7, L7)], inl := [] } : Ctx)
theorem round7 (K) (next) (x) : roundA D (loopAt Tryd.f46 7) K next (S7 x) = T7 x (fun x => next (S7 x)) (E7 K) := by kernel_rfl
theorem lq7 (st) (K) : L7 st K = vMap (V7 st) (fun x => lp T7 x (E7 K)) := by
 unfold L7
 cases V7 st with
 | none => rfl
 | some x => rw [P.xmss_Candidate_l7_eq]; kernel_rfl
theorem loop7 : LoopOk D (loopAt Tryd.f46 7) := loopOk_lp S7 V7_ok (by kernel_rfl) lq7 round7
theorem body (b : Int) (c : Int) (d : Int) (e : Int) (f : Int) (a : Bool) (g : List Int) (h : List Int) (i : List Int) (j : List Int) (k : Int) (K : AVal → Option R) : bodyA D Tryd.f46 [.sl (.ints .u8 [])] [.agg [.v (.int .i64 b), .v (.int .i64 c), .v (.int .i64 d), .v (.int .i64 e), .v (.int .i64 f), .v (.bool a)], .sl (.ints .u8 g), .sl (.ints .u8 h), .sl (.ints .u8 i), .arr .u8 32 j, .v (.int .u64 k)] K = P.xmss_Candidate b c d e f a g h i j k (fun l => K (.sl (.ints .u8 l))) := by
 rw [P.xmss_Candidate_eq]
 kernel_rfl
theorem loops : loopsOf (Tryd.f46.body.getD .skip) = [loopAt Tryd.f46 7] := by kernel_rfl
noncomputable def spec0 : Abs.Spec := fun args K => match args with
 | [.agg [.v (.int .i64 b), .v (.int .i64 c), .v (.int .i64 d), .v (.int .i64 e), .v (.int .i64 f), .v (.bool a)], .sl (.ints .u8 g), .sl (.ints .u8 h), .sl (.ints .u8 i), .arr .u8 32 j, .v (.int .u64 k)] => P.xmss_Candidate b c d e f a g h i j k (fun l => K (.sl (.ints .u8 l)))
 | _ => none
noncomputable def spec : Abs.Spec := fun args K => spec0 (coerL [.any, .sl (.ints .u8 []), .sl (.ints .u8 []), .sl (.ints .u8 []), .any, .any] args) K
theorem ok0 : Proved Tryd.prog GLO.gx 46 spec0 := by
 refine proved_of (D := D) (fn := Tryd.f46) (c := Tryd.f46.body.getD .skip) [.sl (.ints .u8 [])] (by kernel_rfl) (globsPlain_of (by kernel_rfl)) (by kernel_rfl) (by kernel_rfl) (by kernel_rfl) ⟨wots_Candidate.ok, xmss_Size.ok, xmss_such.ok, xmss_high.ok, xmss_tree_leaf.ok, xmss_tree_over.ok, trivial⟩ trivial ?_ ?_
 · rw [loops]; exact ⟨loop7, trivial⟩
 · intro args K r h
   unfold spec0 at h
   split at h
   · rw [body]; exact h
   · cases h
theorem ok : Proved Tryd.prog GLO.gx 46 spec := proved_coer _ ok0
end xmss_Candidate
end

section
open Go Go.Abs Go.Proofs
set_option maxRecDepth 100000
set_option maxHeartbeats 0
set_option linter.unusedVariables false
namespace wots_Sign
abbrev X6 := (List Int) × Int × Int × (List Int) × (List Int) × Int × Int × Int × Int × Int × Bool × Nat × Int × (List Int) × Int × Bool × Int × Int × (List Int) × (List Int) × Int × Int × Int × (List Int) × (List Int) × Int × (List Int)
def S6 : X6 → ASt := fun (B, y, z, A, o, p, q, r, s, t, u, w, a, b, c, d, e, f, g, h, i, j, k, l, m, n, C) => ⟨[(13, .own 40), (2, .sl (.ints .u8 B)), (9, .ptr 1 0), (11, .ptr 2 0), (41, .own 3), (42, .v (.int .i64 y)), (43, .v (.int .i64 z))], [(40, some ⟨.row 5 (.ints .u8 A), false⟩), (1, some ⟨.box 43 [.arr .u8 32 o], false⟩), (2, some ⟨.box 84 [.v (.int .i64 p), .v (.int .i64 q), .v (.int .i64 r), .v (.int .i64 s), .v (.int .i64 t), .v (.bool u), .alt w (.func 130) [] [.sta [.v (.int .i64 a), .arr .u64 25 b, .v (.int .i64 c), .v (.bool d)], .sta [.v (.int .i64 e)]] (.func 132) [] [.sta [.v (.int .i64 f), .arr .u64 8 g, .sl (.ints .u8 h), .v (.int .u64 i)], .sta [.v (.int .i64 j)], .sta [.v (.int .i64 k), .arr .u64 8 l, .sl (.ints .u8 m), .v (.int .u64 n)]]], false⟩), (3, some ⟨.row 77 (.ints .u32 C), false⟩)], 41, 64⟩
def V6 : ASt → Option X6
 | ⟨[(13, .own 40), (2, .sl (.ints .u8 B)), (9, .ptr 1 0), (11, .ptr 2 0), (41, .own 3), (42, .v (.int .i64 y)), (43, .v (.int .i64 z))], [(40, some ⟨.row 5 (.ints .u8 A), false⟩), (1, some ⟨.box 43 [.arr .u8 32 o], false⟩), (2, some ⟨.box 84 [.v (.int .i64 p), .v (.int .i64 q), .v (.int .i64 r), .v (.int .i64 s), .v (.int .i64 t), .v (.bool u), .alt w (.func 130) [] [.sta [.v (.int .i64 a), .arr .u64 25 b, .v (.int .i64 c), .v (.bool d)], .sta [.v (.int .i64 e)]] (.func 132) [] [.sta [.v (.int .i64 f), .arr .u64 8 g, .sl (.ints .u8 h), .v (.int .u64 i)], .sta [.v (.int .i64 j)], .sta [.v (.int .i64 k), .arr .u64 8 l, .sl (.ints .u8 m), .v (.int .u64 n)]]], false⟩), (3, some ⟨.row 77 (.ints .u32 C), false⟩)], 41, 64⟩ => some (B, y, z, A, o, p, q, r, s, t, u, w, a, b, c, d, e, f, g, h, i, j, k, l, m, n, C)
 | _ => none
theorem V6_ok (st) (x) (h : V6 st = some x) : st = S6 x := by
 unfold V6 at h
 split at h
 · cases h; rfl
 · cases h
abbrev Y6 := X6
noncomputable def T6 : X6 → (X6 → Option R) → (Y6 → Option R) → Option R := fun (A, w, y, z, o, p, q, r, s, t, u, v, a, b, c, d, e, f, g, h, i, j, k, l, m, n, B) next ex => P.wots_Sign_r6 A w y z o p q r s t u v a b c d e f g h i j k l m n B (fun A w y z o p q r s t u v a b c d e f g h i j k l m n B => next (A, w, y, z, o, p, q, r, s, t, u, v, a, b, c, d, e, f, g, h, i, j, k, l, m, n, B)) (fun A w y z o p q r s t u v a b c d e f g h i j k l m n B => ex (A, w, y, z, o, p, q, r, s, t, u, v, a, b, c, d, e, f, g, h, i, j, k, l, m, n, B))
def E6 (K : AExit → ASt → Option R) : Y6 → Option R := (fun x => K (.exit 0) (S6 x))
noncomputable def L6 : LSpec := fun st K => vMap (V6 st) fun (A, w, y, z, o, p, q, r, s, t, u, v, a, b, c, d, e, f, g, h, i, j, k, l, m, n, B) => P.wots_Sign_l6 A w y z o p q r s t u v a b c d e f g h i j k l m n B (fun A w y z o p q r s t u v a b c d e f g h i j k l m n B => K (.exit 0) (S6 (A, w, y, z, o, p, q, r, s, t, u, v, a, b, c, d, e, f, g, h, i, j, k, l, m, n, B)))
noncomputable def D : Ctx := ({ P := Tryd.prog, G := [(27, wots_Put.spec), (30, wots_Digits.spec), (66, wots_began.spec), (69, wots_signer_along.spec), (70, wots_signer_first.spec)], globs := GLO.gx, hints := [(6, ⟨[2, 9, 11, 41, 42, 43], [(13, 5, .ints .u8 [])], [10], [], some (40, [1, 2, 3]), [], []⟩)], loops := [(6, L6)], inl := [] } : Ctx)
theorem round6 (K) (next) (x) : roundA D (loopAt Tryd.f37 6) K next (S6 x) = T6 x (fun x => next (S6 x)) (E6 K) := by kernel_rfl
theorem lq6 (st) (K) : L6 st K = vMap (V6 st) (fun x => lp T6 x (E6 K)) := by
 unfold L6
 cases V6 st with
 | none => rfl
 | some x => rw [P.wots_Sign_l6_eq]; kernel_rfl
theorem loop6 : LoopOk D (loopAt Tryd.f37 6) := loopOk_lp S6 V6_ok (by kernel_rfl) lq6 round6
theorem body (b : Int) (c : Int) (d : Int) (e : Int) (f : Int) (a : Bool) (g : List Int) (h : List Int) (i : List Int) (j : List Int) (K : AVal → Option R) : bodyA D Tryd.f37 [.fr 5 (.ints .u8 [])] [.agg [.v (.int .i64 b), .v (.int .i64 c), .v (.int .i64 d), .v (.int .i64 e), .v (.int .i64 f), .v (.bool a)], .sl (.ints .u8 g), .sl (.ints .u8 h), .sl (.ints .u8 i), .arr .u8 32 j] K = P.wots_Sign b c d e f a g h i j (fun k => K (.fr 5 (.ints .u8 k))) := by
 rw [P.wots_Sign_eq]
 kernel_rfl
theorem loops : loopsOf (Tryd.f37.body.getD .skip) = [loopAt Tryd.f37 6] := by kernel_rfl
noncomputable def spec0 : Abs.Spec := fun args K => match args with
 | [.agg [.v (.int .i64 b), .v (.int .i64 c), .v (.int .i64 d), .v (.int .i64 e), .v (.int .i64 f), .v (.bool a)], .sl (.ints .u8 g), .sl (.ints .u8 h), .sl (.ints .u8 i), .arr .u8 32 j] => P.wots_Sign b c d e f a g h i j (fun k => K (.fr 5 (.ints .u8 k)))
 | _ => none
noncomputable def spec : Abs.Spec := fun args K => spec0 (coerL [.any, .sl (.ints .u8 []), .sl (.ints .u8 []), .sl (.ints .u8 []), .any] args) K
theorem ok0 : Proved Tryd.prog GLO.gx 37 spec0 := by
 refine proved_of (D := D) (fn := Tryd.f37) (c := Tryd.f37.body.getD .skip) [.fr 5 (.ints .u8 [])] (by kernel_rfl) (globsPlain_of (by kernel_rfl)) (by kernel_rfl) (by kernel_rfl) (by kernel_rfl) ⟨wots_Put.ok, wots_Digits.ok, wots_began.ok, wots_signer_along.ok, wots_signer_first.ok, trivial⟩ trivial ?_ ?_
 · rw [loops]; exact ⟨loop6, trivial⟩
 · intro args K r h
   unfold spec0 at h
   split at h
   · rw [body]; exact h
   · cases h
theorem ok : Proved Tryd.prog GLO.gx 37 spec := proved_coer _ ok0
end wots_Sign
end

section
open Go Go.Abs Go.Proofs
set_option maxRecDepth 100000
set_option maxHeartbeats 0
set_option linter.unusedVariables false
namespace xmss_Sign
abbrev X6 := Int × Int × Int × (List Int) × Int × Int × Int × Int × Int × Bool × (List Int) × (List Int) × (List Int)
def S6 : X6 → ASt := fun (m, j, k, l, a, b, c, d, e, f, g, h, i) => ⟨[(14, .own 40), (5, .v (.int .u64 m)), (13, .ptr 3 0), (44, .v (.int .i64 j)), (45, .v (.int .i64 k))], [(40, some ⟨.row 5 (.ints .u8 l), false⟩), (3, some ⟨.box 105 [.v (.int .i64 a), .v (.int .i64 b), .v (.int .i64 c), .v (.int .i64 d), .v (.int .i64 e), .v (.bool f), .sl (.ints .u8 g), .sl (.ints .u8 h), .arr .u8 32 i], false⟩)], 41, 59⟩
def V6 : ASt → Option X6
 | ⟨[(14, .own 40), (5, .v (.int .u64 m)), (13, .ptr 3 0), (44, .v (.int .i64 j)), (45, .v (.int .i64 k))], [(40, some ⟨.row 5 (.ints .u8 l), false⟩), (3, some ⟨.box 105 [.v (.int .i64 a), .v (.int .i64 b), .v (.int .i64 c), .v (.int .i64 d), .v (.int .i64 e), .v (.bool f), .sl (.ints .u8 g), .sl (.ints .u8 h), .arr .u8 32 i], false⟩)], 41, 59⟩ => some (m, j, k, l, a, b, c, d, e, f, g, h, i)
 | _ => none
theorem V6_ok (st) (x) (h : V6 st = some x) : st = S6 x := by
 unfold V6 at h
 split at h
 · cases h; rfl
 · cases h
abbrev Y6 := X6
noncomputable def T6 : X6 → (X6 → Option R) → (Y6 → Option R) → Option R := fun (m, j, k, l, a, b, c, d, e, f, g, h, i) next ex => P.xmss_Sign_r6 m j k l a b c d e f g h i (fun m j k l a b c d e f g h i => next (m, j, k, l, a, b, c, d, e, f, g, h, i)) (fun m j k l a b c d e f g h i => ex (m, j, k, l, a, b, c, d, e, f, g, h, i))
def E6 (K : AExit → ASt → Option R) : Y6 → Option R := (fun x => K (.exit 0) (S6 x))
noncomputable def L6 : LSpec := fun st K => vMap (V6 st) fun (m, j, k, l, a, b, c, d, e, f, g, h, i) => P.xmss_Sign_l6 m j k l a b c d e f g h i (fun m j k l a b c d e f g h i => K (.exit 0) (S6 (m, j, k, l, a, b, c, d, e, f, g, h, i)))
noncomputable def D : Ctx := ({ P := Tryd.prog, G := [(37, wots_Sign.spec), (78, xmss_such.spec), (79, xmss_high.spec), (80, xmss_tree_leaf.spec), (81, xmss_tree_knot.spec)], globs := GLO.gx, hints := [(6, ⟨[5, 13, 44, 45], [(14, 5, .ints .u8 [])], [12], [], some (40, [3]), [], []⟩)], loops := [(6, L6)], inl := [] } : Ctx)
theorem round6 (K) (next) (x) : roundA D (loopAt Tryd.f44 6) K next (S6 x) = T6 x (fun x => next (S6 x)) (E6 K) := by kernel_rfl
theorem lq6 (st) (K) : L6 st K = vMap (V6 st) (fun x => lp T6 x (E6 K)) := by
 unfold L6
 cases V6 st with
 | none => rfl
 | some x => rw [P.xmss_Sign_l6_eq]; kernel_rfl
theorem loop6 : LoopOk D (loopAt Tryd.f44 6) := loopOk_lp S6 V6_ok (by kernel_rfl) lq6 round6
theorem body (b : Int) (c : Int) (d : Int) (e : Int) (f : Int) (a : Bool) (g : List Int) (h : List Int) (i : List Int) (j : List Int) (k : Int) (K : AVal → Option R) : bodyA D Tryd.f44 [.fr 5 (.ints .u8 [])] [.agg [.v (.int .i64 b), .v (.int .i64 c), .v (.int .i64 d), .v (.int .i64 e), .v (.int .i64 f), .v (.bool a)], .sl (.ints .u8 g), .sl (.ints .u8 h), .sl (.ints .u8 i), .arr .u8 32 j, .v (.int .u64 k)] K = P.xmss_Sign b c d e f a g h i j k (fun l => K (.fr 5 (.ints .u8 l))) := by
 rw [P.xmss_Sign_eq]
 kernel_rfl
theorem loops : loopsOf (Tryd.f44.body.getD .skip) = [loopAt Tryd.f44 6] := by kernel_rfl
noncomputable def spec0 : Abs.Spec := fun args K => match args with
 | [.agg [.v (.int .i64 b), .v (.int .i64 c), .v (.int .i64 d), .v (.int .i64 e), .v (.int .i64 f), .v (.bool a)], .sl (.ints .u8 g), .sl (.ints .u8 h), .sl (.ints .u8 i), .arr .u8 32 j, .v (.int .u64 k)] => P.xmss_Sign b c d e f a g h i j k (fun l => K (.fr 5 (.ints .u8 l)))
 | _ => none
noncomputable def spec : Abs.Spec := fun args K => spec0 (coerL [.any, .sl (.ints .u8 []), .sl (.ints .u8 []), .sl (.ints .u8 []), .any, .any] args) K
theorem ok0 : Proved Tryd.prog GLO.gx 44 spec0 := by
 refine proved_of (D := D) (fn := Tryd.f44) (c := Tryd.f44.body.getD .skip) [.fr 5 (.ints .u8 [])] (by kernel_rfl) (globsPlain_of (by kernel_rfl)) (by kernel_rfl) (by kernel_rfl) (by kernel_rfl) ⟨wots_Sign.ok, xmss_such.ok, xmss_high.ok, xmss_tree_leaf.ok, xmss_tree_knot.ok, trivial⟩ trivial ?_ ?_
 · rw [loops]; exact ⟨loop6, trivial⟩
 · intro args K r h
   unfold spec0 at h
   split at h
   · rw [body]; exact h
   · cases h
theorem ok : Proved Tryd.prog GLO.gx 44 spec := proved_coer _ ok0
end xmss_Sign
end
