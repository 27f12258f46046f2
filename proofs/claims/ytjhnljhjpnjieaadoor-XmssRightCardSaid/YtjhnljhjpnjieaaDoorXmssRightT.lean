/-
  XmssRight, part 20: an interpreter of my own over abstract values, the pure functions, the walks and the plain law.
-/

import Derived.Test.YtjhnljhjpnjieaaDoorXmssRightJ
import Derived.Test.YtjhnljhjpnjieaaDoorXmssRightH
import Derived.Test.YtjhnljhjpnjieaaDoorProg
import Derived.Test.YtjhnljhjpnjieaaDoorXmssRightI
import Derived.Test.YtjhnljhjpnjieaaDoorXmssRightK
import Derived.KernelRfl
import Derived.Test.YtjhnljhjpnjieaaDoorXmssRightM
import Derived.Test.YtjhnljhjpnjieaaDoorXmssRightS
import Derived.Test.YtjhnljhjpnjieaaDoorXmssRightR

section
open Go Go.Abs Go.Proofs
set_option maxRecDepth 100000
set_option maxHeartbeats 0
set_option linter.unusedVariables false
namespace xmss_placed
noncomputable def D : Ctx := ({ P := Tryd.prog, G := [(79, xmss_high.spec)], globs := GLO.gx, hints := [], loops := [], inl := [] } : Ctx)
theorem body (b : Int) (c : Int) (d : Int) (e : Int) (f : Int) (a : Bool) (g : Int) (h : Int) (K : AVal → Option R) : bodyA D Tryd.f83 [.any] [.agg [.v (.int .i64 b), .v (.int .i64 c), .v (.int .i64 d), .v (.int .i64 e), .v (.int .i64 f), .v (.bool a)], .v (.int .u64 g), .v (.int .u64 h)] K = P.xmss_placed b c d e f a g h (fun i => K (.v (.bool i))) := by
 rw [P.xmss_placed_eq]
 kernel_rfl
theorem loops : loopsOf (Tryd.f83.body.getD .skip) = [] := by kernel_rfl
noncomputable def spec0 : Abs.Spec := fun args K => match args with
 | [.agg [.v (.int .i64 b), .v (.int .i64 c), .v (.int .i64 d), .v (.int .i64 e), .v (.int .i64 f), .v (.bool a)], .v (.int .u64 g), .v (.int .u64 h)] => P.xmss_placed b c d e f a g h (fun i => K (.v (.bool i)))
 | _ => none
noncomputable def spec : Abs.Spec := spec0
theorem ok0 : Proved Tryd.prog GLO.gx 83 spec0 := by
 refine proved_of (D := D) (fn := Tryd.f83) (c := Tryd.f83.body.getD .skip) [.any] (by kernel_rfl) (globsPlain_of (by kernel_rfl)) (by kernel_rfl) (by kernel_rfl) (by kernel_rfl) ⟨xmss_high.ok, trivial⟩ trivial ?_ ?_
 · rw [loops]; exact trivial
 · intro args K r h
   unfold spec0 at h
   split at h
   · rw [body]; exact h
   · cases h
theorem ok : Proved Tryd.prog GLO.gx 83 spec := ok0
end xmss_placed
end

section
open Go Go.Abs Go.Proofs
set_option maxRecDepth 100000
set_option maxHeartbeats 0
set_option linter.unusedVariables false
namespace xmss_Hyper
abbrev X2_1 := Int × Int × (List Int) × Int × Int × Int × Int × Int × Bool × (List Int) × (List Int) × (List Int) × Int × Int × Int × Int × Int × Bool × Int × Int
def S2_1 : X2_1 → ASt := fun (s, t, a, b, c, d, e, f, g, h, i, j, k, l, m, n, o, p, q, r) => ⟨[(0, .yld 9 [6, 7, 8, 9, 13] [.ptr 0 0, .ptr 1 0, .ptr 2 0, .ptr 3 0, .ptr 5 0]), (1, .ptr 6 0), (2, .ptr 7 0), (3, .ptr 8 0), (8, .v (.int .i64 s)), (9, .v (.int .i64 t))], [(840, some ⟨.row 5 (.ints .u8 a), false⟩), (0, some ⟨.box 41 [.v (.int .i64 b), .v (.int .i64 c), .v (.int .i64 d), .v (.int .i64 e), .v (.int .i64 f), .v (.bool g)], false⟩), (1, some ⟨.box 22 [.sl (.ints .u8 h)], false⟩), (2, some ⟨.box 22 [.sl (.ints .u8 i)], false⟩), (3, some ⟨.box 22 [.sl (.ints .u8 j)], false⟩), (5, some ⟨.box 22 [.own 840], false⟩), (6, some ⟨.box 41 [.v (.int .i64 k), .v (.int .i64 l), .v (.int .i64 m), .v (.int .i64 n), .v (.int .i64 o), .v (.bool p)], false⟩), (7, some ⟨.box 44 [.v (.int .u64 q)], false⟩), (8, some ⟨.box 44 [.v (.int .u64 r)], false⟩)], 841, 35⟩
def V2_1 : ASt → Option X2_1
 | ⟨[(0, .yld 9 [6, 7, 8, 9, 13] [.ptr 0 0, .ptr 1 0, .ptr 2 0, .ptr 3 0, .ptr 5 0]), (1, .ptr 6 0), (2, .ptr 7 0), (3, .ptr 8 0), (8, .v (.int .i64 s)), (9, .v (.int .i64 t))], [(840, some ⟨.row 5 (.ints .u8 a), false⟩), (0, some ⟨.box 41 [.v (.int .i64 b), .v (.int .i64 c), .v (.int .i64 d), .v (.int .i64 e), .v (.int .i64 f), .v (.bool g)], false⟩), (1, some ⟨.box 22 [.sl (.ints .u8 h)], false⟩), (2, some ⟨.box 22 [.sl (.ints .u8 i)], false⟩), (3, some ⟨.box 22 [.sl (.ints .u8 j)], false⟩), (5, some ⟨.box 22 [.own 840], false⟩), (6, some ⟨.box 41 [.v (.int .i64 k), .v (.int .i64 l), .v (.int .i64 m), .v (.int .i64 n), .v (.int .i64 o), .v (.bool p)], false⟩), (7, some ⟨.box 44 [.v (.int .u64 q)], false⟩), (8, some ⟨.box 44 [.v (.int .u64 r)], false⟩)], 841, 35⟩ => some (s, t, a, b, c, d, e, f, g, h, i, j, k, l, m, n, o, p, q, r)
 | _ => none
theorem V2_1_ok (st) (x) (h : V2_1 st = some x) : st = S2_1 x := by
 unfold V2_1 at h
 split at h
 · cases h; rfl
 · cases h
abbrev Y2_1 := X2_1
noncomputable def T2_1 : X2_1 → (X2_1 → Option R) → (Y2_1 → Option R) → Option R := fun (s, t, a, b, c, d, e, f, g, h, i, j, k, l, m, n, o, p, q, r) next ex => P.xmss_Hyper_r2_1 s t a b c d e f g h i j k l m n o p q r (fun s t a b c d e f g h i j k l m n o p q r => next (s, t, a, b, c, d, e, f, g, h, i, j, k, l, m, n, o, p, q, r)) (fun s t a b c d e f g h i j k l m n o p q r => ex (s, t, a, b, c, d, e, f, g, h, i, j, k, l, m, n, o, p, q, r))
def E2_1 (K : AExit → ASt → Option R) : Y2_1 → Option R := (fun x => K (.exit 0) (S2_1 x))
noncomputable def L2_1 : LSpec := fun st K => vMap (V2_1 st) fun (s, t, a, b, c, d, e, f, g, h, i, j, k, l, m, n, o, p, q, r) => P.xmss_Hyper_l2_1 s t a b c d e f g h i j k l m n o p q r (fun s t a b c d e f g h i j k l m n o p q r => K (.exit 0) (S2_1 (s, t, a, b, c, d, e, f, g, h, i, j, k, l, m, n, o, p, q, r)))
noncomputable def D3 : Ctx := ({ P := Tryd.prog, G := [(27, wots_Put.spec), (44, xmss_Sign.spec), (46, xmss_Candidate.spec), (78, xmss_such.spec), (79, xmss_high.spec), (83, xmss_placed.spec)], globs := GLO.gx, hints := [], loops := [], inl := [], y := some (ycOf (rngAt Tryd.f48 6) 57 false) } : Ctx)
noncomputable def D2 : Ctx := ({ P := Tryd.prog, G := [(27, wots_Put.spec), (44, xmss_Sign.spec), (46, xmss_Candidate.spec), (78, xmss_such.spec), (79, xmss_high.spec), (83, xmss_placed.spec)], globs := GLO.gx, hints := [(1, ⟨[0, 1, 2, 3, 8, 9], [(1000005, 5, .ints .u8 [])], [], [], some (840, [0, 1, 2, 3, 5, 6, 7, 8]), [0, 1, 2, 3, 6, 7, 8], []⟩)], loops := [(1, L2_1)], inl := [], y := some (ycOf (rngAt Tryd.f48 6) 57 true), ys := some (roundY D3 (ycOf (rngAt Tryd.f48 6) 57 true)) } : Ctx)
noncomputable def D1 : Ctx := ({ P := Tryd.prog, G := [(27, wots_Put.spec), (44, xmss_Sign.spec), (46, xmss_Candidate.spec), (78, xmss_such.spec), (79, xmss_high.spec), (83, xmss_placed.spec)], globs := GLO.gx, hints := [], loops := [], inl := [] } : Ctx)
noncomputable def D : Ctx := ({ P := Tryd.prog, G := [(27, wots_Put.spec), (44, xmss_Sign.spec), (46, xmss_Candidate.spec), (78, xmss_such.spec), (79, xmss_high.spec), (83, xmss_placed.spec)], globs := GLO.gx, hints := [], loops := [], inl := [(84, bodyIn D1 Tryd.f84)], top := true, rng := [(6, ⟨114, 57, [6, 7, 8, 9, 13], bodyIn D2 Tryd.f114⟩)] } : Ctx)
theorem round2_1 (K) (next) (x) : roundA D2 (loopAt Tryd.f114 1) K next (S2_1 x) = T2_1 x (fun x => next (S2_1 x)) (E2_1 K) := by kernel_rfl
theorem lq2_1 (st) (K) : L2_1 st K = vMap (V2_1 st) (fun x => lp T2_1 x (E2_1 K)) := by
 unfold L2_1
 cases V2_1 st with
 | none => rfl
 | some x => rw [P.xmss_Hyper_l2_1_eq]; kernel_rfl
theorem loop2_1 : LoopOk D2 (loopAt Tryd.f114 1) := loopOk_lp S2_1 V2_1_ok (by kernel_rfl) lq2_1 round2_1
theorem body (b : Int) (c : Int) (d : Int) (e : Int) (f : Int) (a : Bool) (g : List Int) (h : List Int) (i : List Int) (j : Int) (k : Int) (K : AVal → Option R) : bodyA D Tryd.f48 [.fr 5 (.ints .u8 [])] [.agg [.v (.int .i64 b), .v (.int .i64 c), .v (.int .i64 d), .v (.int .i64 e), .v (.int .i64 f), .v (.bool a)], .sl (.ints .u8 g), .sl (.ints .u8 h), .sl (.ints .u8 i), .v (.int .u64 j), .v (.int .u64 k)] K = P.xmss_Hyper b c d e f a g h i j k (fun l => K (.fr 5 (.ints .u8 l))) := by
 rw [P.xmss_Hyper_eq]
 kernel_rfl
theorem loops : loopsOf (Tryd.f48.body.getD .skip) = [] := by kernel_rfl
theorem loops1 : loopsOf (Tryd.f84.body.getD .skip) = [] := by kernel_rfl
theorem loops2 : loopsOf (Tryd.f114.body.getD .skip) = [loopAt Tryd.f114 1] := by kernel_rfl
theorem loops3 : loopsOf (rbOf (rngAt Tryd.f48 6)) = [] := by kernel_rfl
theorem ranges : rangesOf (Tryd.f48.body.getD .skip) = [rngAt Tryd.f48 6] := by kernel_rfl
theorem round_y3 : RoundOk D2 (roundY D3 (ycOf (rngAt Tryd.f48 6) 57 true)) := roundY_ok (Y := ycOf (rngAt Tryd.f48 6) 57 true) (gok_of (D := D3) ⟨wots_Put.ok, xmss_Sign.ok, xmss_Candidate.ok, xmss_such.ok, xmss_high.ok, xmss_placed.ok, trivial⟩) (globsPlain_of (by kernel_rfl)) (inl_of (D := D3) trivial (noYield rfl)) (by kernel_rfl) rfl rfl (by kernel_rfl) (by kernel_rfl) rfl rfl rfl (allLoops _ (by rw [show loopsOf (ycOf (rngAt Tryd.f48 6) 57 true).assign = [] from by kernel_rfl]; exact trivial)) (allLoops _ (by rw [show loopsOf (ycOf (rngAt Tryd.f48 6) 57 true).body = loopsOf (rbOf (rngAt Tryd.f48 6)) from by kernel_rfl, loops3]; exact trivial))
noncomputable def spec0 : Abs.Spec := fun args K => match args with
 | [.agg [.v (.int .i64 b), .v (.int .i64 c), .v (.int .i64 d), .v (.int .i64 e), .v (.int .i64 f), .v (.bool a)], .sl (.ints .u8 g), .sl (.ints .u8 h), .sl (.ints .u8 i), .v (.int .u64 j), .v (.int .u64 k)] => P.xmss_Hyper b c d e f a g h i j k (fun l => K (.fr 5 (.ints .u8 l)))
 | _ => none
noncomputable def spec : Abs.Spec := fun args K => spec0 (coerL [.any, .sl (.ints .u8 []), .sl (.ints .u8 []), .sl (.ints .u8 []), .any, .any] args) K
theorem ok0 : Proved Tryd.prog GLO.gx 48 spec0 := by
 refine proved_of (D := D) (fn := Tryd.f48) (c := Tryd.f48.body.getD .skip) [.fr 5 (.ints .u8 [])] (by kernel_rfl) (globsPlain_of (by kernel_rfl)) (by kernel_rfl) (by kernel_rfl) (by kernel_rfl) ⟨wots_Put.ok, xmss_Sign.ok, xmss_Candidate.ok, xmss_such.ok, xmss_high.ok, xmss_placed.ok, trivial⟩ ⟨run_of (D := D1) (D' := D) (fn := Tryd.f84) (c := Tryd.f84.body.getD .skip) rfl rfl (by kernel_rfl) (globsPlain_of (by kernel_rfl)) (by kernel_rfl) (by kernel_rfl) (by kernel_rfl) ⟨wots_Put.ok, xmss_Sign.ok, xmss_Candidate.ok, xmss_such.ok, xmss_high.ok, xmss_placed.ok, trivial⟩ trivial (by rw [loops1]; exact trivial) (fun _ _ _ _ _ h => h), trivial⟩ ?_ ?_ (hRg := by rw [ranges]; exact ⟨rangeOk_of (D := D) (Di := D2) (e := ⟨114, 57, [6, 7, 8, 9, 13], bodyIn D2 Tryd.f114⟩) (by kernel_rfl) rfl rfl (by kernel_rfl) (run_of (D := D2) (D' := D2) (fn := Tryd.f114) (c := Tryd.f114.body.getD .skip) rfl rfl (by kernel_rfl) (globsPlain_of (by kernel_rfl)) (by kernel_rfl) (by kernel_rfl) (by kernel_rfl) ⟨wots_Put.ok, xmss_Sign.ok, xmss_Candidate.ok, xmss_such.ok, xmss_high.ok, xmss_placed.ok, trivial⟩ trivial (by rw [loops2]; exact ⟨loop2_1, trivial⟩) (fun _ _ _ _ _ h => h) rfl rfl (noRanges rfl _) (fun s hs => by have hs : some (roundY D3 (ycOf (rngAt Tryd.f48 6) 57 true)) = some s := hs; cases hs; exact round_y3)), trivial⟩)
 · rw [loops]; exact trivial
 · intro args K r h
   unfold spec0 at h
   split at h
   · rw [body]; exact h
   · cases h
theorem ok : Proved Tryd.prog GLO.gx 48 spec := proved_coer _ ok0
end xmss_Hyper
end

section
open Go Go.Abs Go.Proofs
set_option maxRecDepth 100000
set_option maxHeartbeats 0
set_option linter.unusedVariables false
namespace bits_Same
abbrev X5 := (List Int) × (List Int) × Int × Int × Int
def S5 : X5 → ASt := fun (c, d, e, a, b) => ⟨[(0, .sl (.ints .u8 c)), (1, .sl (.ints .u8 d)), (5, .v (.int .u8 e)), (13, .v (.int .i64 a)), (14, .v (.int .i64 b))], [], 0, 31⟩
def V5 : ASt → Option X5
 | ⟨[(0, .sl (.ints .u8 c)), (1, .sl (.ints .u8 d)), (5, .v (.int .u8 e)), (13, .v (.int .i64 a)), (14, .v (.int .i64 b))], [], 0, 31⟩ => some (c, d, e, a, b)
 | _ => none
theorem V5_ok (st) (x) (h : V5 st = some x) : st = S5 x := by
 unfold V5 at h
 split at h
 · cases h; rfl
 · cases h
abbrev Y5 := X5
noncomputable def T5 : X5 → (X5 → Option R) → (Y5 → Option R) → Option R := fun (c, d, e, a, b) next ex => P.bits_Same_r5 c d e a b (fun c d e a b => next (c, d, e, a, b)) (fun c d e a b => ex (c, d, e, a, b))
def E5 (K : AExit → ASt → Option R) : Y5 → Option R := (fun x => K (.exit 0) (S5 x))
noncomputable def L5 : LSpec := fun st K => vMap (V5 st) fun (c, d, e, a, b) => P.bits_Same_l5 c d e a b (fun c d e a b => K (.exit 0) (S5 (c, d, e, a, b)))
noncomputable def D : Ctx := ({ P := Tryd.prog, G := [], globs := GLO.gx, hints := [(5, ⟨[0, 1, 5, 13, 14], [], [4], [], none, [], []⟩)], loops := [(5, L5)], inl := [] } : Ctx)
theorem round5 (K) (next) (x) : roundA D (loopAt Tryd.f85 5) K next (S5 x) = T5 x (fun x => next (S5 x)) (E5 K) := by kernel_rfl
theorem lq5 (st) (K) : L5 st K = vMap (V5 st) (fun x => lp T5 x (E5 K)) := by
 unfold L5
 cases V5 st with
 | none => rfl
 | some x => rw [P.bits_Same_l5_eq]; kernel_rfl
theorem loop5 : LoopOk D (loopAt Tryd.f85 5) := loopOk_lp S5 V5_ok (by kernel_rfl) lq5 round5
theorem body (a : List Int) (b : List Int) (K : AVal → Option R) : bodyA D Tryd.f85 [.any] [.sl (.ints .u8 a), .sl (.ints .u8 b)] K = P.bits_Same a b (fun c => K (.v (.bool c))) := by
 rw [P.bits_Same_eq]
 kernel_rfl
theorem loops : loopsOf (Tryd.f85.body.getD .skip) = [loopAt Tryd.f85 5] := by kernel_rfl
noncomputable def spec0 : Abs.Spec := fun args K => match args with
 | [.sl (.ints .u8 a), .sl (.ints .u8 b)] => P.bits_Same a b (fun c => K (.v (.bool c)))
 | _ => none
noncomputable def spec : Abs.Spec := fun args K => spec0 (coerL [.sl (.ints .u8 []), .sl (.ints .u8 [])] args) K
theorem ok0 : Proved Tryd.prog GLO.gx 85 spec0 := by
 refine proved_of (D := D) (fn := Tryd.f85) (c := Tryd.f85.body.getD .skip) [.any] (by kernel_rfl) (globsPlain_of (by kernel_rfl)) (by kernel_rfl) (by kernel_rfl) (by kernel_rfl) trivial trivial ?_ ?_
 · rw [loops]; exact ⟨loop5, trivial⟩
 · intro args K r h
   unfold spec0 at h
   split at h
   · rw [body]; exact h
   · cases h
theorem ok : Proved Tryd.prog GLO.gx 85 spec := proved_coer _ ok0
end bits_Same
end

section
open Go Go.Abs Go.Proofs
set_option maxRecDepth 100000
set_option maxHeartbeats 0
set_option linter.unusedVariables false
namespace xmss_Verify
abbrev X2_1 := (List Int) × Int × Int × Int × Int × Int × Int × Int × Bool × (List Int) × (List Int) × (List Int) × Int × Int × Int × Int × Int × Bool × Int × Int
def S2_1 : X2_1 → ASt := fun (a, s, t, b, c, d, e, f, g, h, i, j, k, l, m, n, o, p, q, r) => ⟨[(0, .yld 8 [4, 7, 8, 9, 10] [.sl (.ints .u8 a), .ptr 0 0, .ptr 1 0, .ptr 2 0, .ptr 3 0]), (1, .ptr 5 0), (2, .ptr 6 0), (3, .ptr 7 0), (8, .v (.int .i64 s)), (9, .v (.int .i64 t))], [(0, some ⟨.box 41 [.v (.int .i64 b), .v (.int .i64 c), .v (.int .i64 d), .v (.int .i64 e), .v (.int .i64 f), .v (.bool g)], false⟩), (1, some ⟨.box 22 [.sl (.ints .u8 h)], false⟩), (2, some ⟨.box 22 [.sl (.ints .u8 i)], false⟩), (3, some ⟨.box 22 [.sl (.ints .u8 j)], false⟩), (5, some ⟨.box 41 [.v (.int .i64 k), .v (.int .i64 l), .v (.int .i64 m), .v (.int .i64 n), .v (.int .i64 o), .v (.bool p)], false⟩), (6, some ⟨.box 44 [.v (.int .u64 q)], false⟩), (7, some ⟨.box 44 [.v (.int .u64 r)], false⟩)], 840, 35⟩
def V2_1 : ASt → Option X2_1
 | ⟨[(0, .yld 8 [4, 7, 8, 9, 10] [.sl (.ints .u8 a), .ptr 0 0, .ptr 1 0, .ptr 2 0, .ptr 3 0]), (1, .ptr 5 0), (2, .ptr 6 0), (3, .ptr 7 0), (8, .v (.int .i64 s)), (9, .v (.int .i64 t))], [(0, some ⟨.box 41 [.v (.int .i64 b), .v (.int .i64 c), .v (.int .i64 d), .v (.int .i64 e), .v (.int .i64 f), .v (.bool g)], false⟩), (1, some ⟨.box 22 [.sl (.ints .u8 h)], false⟩), (2, some ⟨.box 22 [.sl (.ints .u8 i)], false⟩), (3, some ⟨.box 22 [.sl (.ints .u8 j)], false⟩), (5, some ⟨.box 41 [.v (.int .i64 k), .v (.int .i64 l), .v (.int .i64 m), .v (.int .i64 n), .v (.int .i64 o), .v (.bool p)], false⟩), (6, some ⟨.box 44 [.v (.int .u64 q)], false⟩), (7, some ⟨.box 44 [.v (.int .u64 r)], false⟩)], 840, 35⟩ => some (a, s, t, b, c, d, e, f, g, h, i, j, k, l, m, n, o, p, q, r)
 | _ => none
theorem V2_1_ok (st) (x) (h : V2_1 st = some x) : st = S2_1 x := by
 unfold V2_1 at h
 split at h
 · cases h; rfl
 · cases h
abbrev Y2_1 := X2_1
noncomputable def T2_1 : X2_1 → (X2_1 → Option R) → (Y2_1 → Option R) → Option R := fun (a, s, t, b, c, d, e, f, g, h, i, j, k, l, m, n, o, p, q, r) next ex => P.xmss_Verify_r2_1 a s t b c d e f g h i j k l m n o p q r (fun a s t b c d e f g h i j k l m n o p q r => next (a, s, t, b, c, d, e, f, g, h, i, j, k, l, m, n, o, p, q, r)) (fun a s t b c d e f g h i j k l m n o p q r => ex (a, s, t, b, c, d, e, f, g, h, i, j, k, l, m, n, o, p, q, r))
def E2_1 (K : AExit → ASt → Option R) : Y2_1 → Option R := (fun x => K (.exit 0) (S2_1 x))
noncomputable def L2_1 : LSpec := fun st K => vMap (V2_1 st) fun (a, s, t, b, c, d, e, f, g, h, i, j, k, l, m, n, o, p, q, r) => P.xmss_Verify_l2_1 a s t b c d e f g h i j k l m n o p q r (fun a s t b c d e f g h i j k l m n o p q r => K (.exit 0) (S2_1 (a, s, t, b, c, d, e, f, g, h, i, j, k, l, m, n, o, p, q, r)))
noncomputable def D3 : Ctx := ({ P := Tryd.prog, G := [(27, wots_Put.spec), (45, xmss_Size.spec), (46, xmss_Candidate.spec), (78, xmss_such.spec), (79, xmss_high.spec), (83, xmss_placed.spec), (85, bits_Same.spec)], globs := GLO.gx, hints := [], loops := [], inl := [], y := some (ycOf (rngAt Tryd.f49 5) 64 false) } : Ctx)
noncomputable def D2 : Ctx := ({ P := Tryd.prog, G := [(27, wots_Put.spec), (45, xmss_Size.spec), (46, xmss_Candidate.spec), (78, xmss_such.spec), (79, xmss_high.spec), (83, xmss_placed.spec), (85, bits_Same.spec)], globs := GLO.gx, hints := [(1, ⟨[0, 1, 2, 3, 8, 9], [], [], [], some (840, [0, 1, 2, 3, 5, 6, 7]), [0, 1, 2, 3, 5, 6, 7], []⟩)], loops := [(1, L2_1)], inl := [], y := some (ycOf (rngAt Tryd.f49 5) 64 true), ys := some (roundY D3 (ycOf (rngAt Tryd.f49 5) 64 true)) } : Ctx)
noncomputable def D1 : Ctx := ({ P := Tryd.prog, G := [(27, wots_Put.spec), (45, xmss_Size.spec), (46, xmss_Candidate.spec), (78, xmss_such.spec), (79, xmss_high.spec), (83, xmss_placed.spec), (85, bits_Same.spec)], globs := GLO.gx, hints := [], loops := [], inl := [] } : Ctx)
noncomputable def D : Ctx := ({ P := Tryd.prog, G := [(27, wots_Put.spec), (45, xmss_Size.spec), (46, xmss_Candidate.spec), (78, xmss_such.spec), (79, xmss_high.spec), (83, xmss_placed.spec), (85, bits_Same.spec)], globs := GLO.gx, hints := [], loops := [], inl := [(84, bodyIn D1 Tryd.f84)], top := true, rng := [(5, ⟨114, 64, [4, 7, 8, 9, 10], bodyIn D2 Tryd.f114⟩)] } : Ctx)
theorem round2_1 (K) (next) (x) : roundA D2 (loopAt Tryd.f114 1) K next (S2_1 x) = T2_1 x (fun x => next (S2_1 x)) (E2_1 K) := by kernel_rfl
theorem lq2_1 (st) (K) : L2_1 st K = vMap (V2_1 st) (fun x => lp T2_1 x (E2_1 K)) := by
 unfold L2_1
 cases V2_1 st with
 | none => rfl
 | some x => rw [P.xmss_Verify_l2_1_eq]; kernel_rfl
theorem loop2_1 : LoopOk D2 (loopAt Tryd.f114 1) := loopOk_lp S2_1 V2_1_ok (by kernel_rfl) lq2_1 round2_1
theorem body (b : Int) (c : Int) (d : Int) (e : Int) (f : Int) (a : Bool) (g : List Int) (h : List Int) (i : List Int) (j : List Int) (k : Int) (l : Int) (K : AVal → Option R) : bodyA D Tryd.f49 [.any] [.agg [.v (.int .i64 b), .v (.int .i64 c), .v (.int .i64 d), .v (.int .i64 e), .v (.int .i64 f), .v (.bool a)], .sl (.ints .u8 g), .sl (.ints .u8 h), .sl (.ints .u8 i), .sl (.ints .u8 j), .v (.int .u64 k), .v (.int .u64 l)] K = P.xmss_Verify b c d e f a g h i j k l (fun m => K (.v (.bool m))) := by
 rw [P.xmss_Verify_eq]
 kernel_rfl
theorem loops : loopsOf (Tryd.f49.body.getD .skip) = [] := by kernel_rfl
theorem loops1 : loopsOf (Tryd.f84.body.getD .skip) = [] := by kernel_rfl
theorem loops2 : loopsOf (Tryd.f114.body.getD .skip) = [loopAt Tryd.f114 1] := by kernel_rfl
theorem loops3 : loopsOf (rbOf (rngAt Tryd.f49 5)) = [] := by kernel_rfl
theorem ranges : rangesOf (Tryd.f49.body.getD .skip) = [rngAt Tryd.f49 5] := by kernel_rfl
theorem round_y3 : RoundOk D2 (roundY D3 (ycOf (rngAt Tryd.f49 5) 64 true)) := roundY_ok (Y := ycOf (rngAt Tryd.f49 5) 64 true) (gok_of (D := D3) ⟨wots_Put.ok, xmss_Size.ok, xmss_Candidate.ok, xmss_such.ok, xmss_high.ok, xmss_placed.ok, bits_Same.ok, trivial⟩) (globsPlain_of (by kernel_rfl)) (inl_of (D := D3) trivial (noYield rfl)) (by kernel_rfl) rfl rfl (by kernel_rfl) (by kernel_rfl) rfl rfl rfl (allLoops _ (by rw [show loopsOf (ycOf (rngAt Tryd.f49 5) 64 true).assign = [] from by kernel_rfl]; exact trivial)) (allLoops _ (by rw [show loopsOf (ycOf (rngAt Tryd.f49 5) 64 true).body = loopsOf (rbOf (rngAt Tryd.f49 5)) from by kernel_rfl, loops3]; exact trivial))
noncomputable def spec0 : Abs.Spec := fun args K => match args with
 | [.agg [.v (.int .i64 b), .v (.int .i64 c), .v (.int .i64 d), .v (.int .i64 e), .v (.int .i64 f), .v (.bool a)], .sl (.ints .u8 g), .sl (.ints .u8 h), .sl (.ints .u8 i), .sl (.ints .u8 j), .v (.int .u64 k), .v (.int .u64 l)] => P.xmss_Verify b c d e f a g h i j k l (fun m => K (.v (.bool m)))
 | _ => none
noncomputable def spec : Abs.Spec := fun args K => spec0 (coerL [.any, .sl (.ints .u8 []), .sl (.ints .u8 []), .sl (.ints .u8 []), .sl (.ints .u8 []), .any, .any] args) K
theorem ok0 : Proved Tryd.prog GLO.gx 49 spec0 := by
 refine proved_of (D := D) (fn := Tryd.f49) (c := Tryd.f49.body.getD .skip) [.any] (by kernel_rfl) (globsPlain_of (by kernel_rfl)) (by kernel_rfl) (by kernel_rfl) (by kernel_rfl) ⟨wots_Put.ok, xmss_Size.ok, xmss_Candidate.ok, xmss_such.ok, xmss_high.ok, xmss_placed.ok, bits_Same.ok, trivial⟩ ⟨run_of (D := D1) (D' := D) (fn := Tryd.f84) (c := Tryd.f84.body.getD .skip) rfl rfl (by kernel_rfl) (globsPlain_of (by kernel_rfl)) (by kernel_rfl) (by kernel_rfl) (by kernel_rfl) ⟨wots_Put.ok, xmss_Size.ok, xmss_Candidate.ok, xmss_such.ok, xmss_high.ok, xmss_placed.ok, bits_Same.ok, trivial⟩ trivial (by rw [loops1]; exact trivial) (fun _ _ _ _ _ h => h), trivial⟩ ?_ ?_ (hRg := by rw [ranges]; exact ⟨rangeOk_of (D := D) (Di := D2) (e := ⟨114, 64, [4, 7, 8, 9, 10], bodyIn D2 Tryd.f114⟩) (by kernel_rfl) rfl rfl (by kernel_rfl) (run_of (D := D2) (D' := D2) (fn := Tryd.f114) (c := Tryd.f114.body.getD .skip) rfl rfl (by kernel_rfl) (globsPlain_of (by kernel_rfl)) (by kernel_rfl) (by kernel_rfl) (by kernel_rfl) ⟨wots_Put.ok, xmss_Size.ok, xmss_Candidate.ok, xmss_such.ok, xmss_high.ok, xmss_placed.ok, bits_Same.ok, trivial⟩ trivial (by rw [loops2]; exact ⟨loop2_1, trivial⟩) (fun _ _ _ _ _ h => h) rfl rfl (noRanges rfl _) (fun s hs => by have hs : some (roundY D3 (ycOf (rngAt Tryd.f49 5) 64 true)) = some s := hs; cases hs; exact round_y3)), trivial⟩)
 · rw [loops]; exact trivial
 · intro args K r h
   unfold spec0 at h
   split at h
   · rw [body]; exact h
   · cases h
theorem ok : Proved Tryd.prog GLO.gx 49 spec := proved_coer _ ok0
end xmss_Verify
end

section
open Go Go.Abs Go.Proofs
set_option maxRecDepth 100000
set_option maxHeartbeats 0
set_option linter.unusedVariables false
namespace L18_XmssRight
noncomputable def D : Ctx := ({ P := Tryd.prog, G := [(18, R01_Same.spec), (44, xmss_Sign.spec), (45, xmss_Size.spec), (46, xmss_Candidate.spec), (47, xmss_Node.spec), (48, xmss_Hyper.spec), (49, xmss_Verify.spec), (50, L18_awake.spec)], globs := GLO.gx, hints := [], loops := [], inl := [] } : Ctx)
theorem body (a : Int) (b : Bool) (c : Bool) (d : List Int) (e : List Int) (f : List Int) (g : List Int) (h : Int) (K : AVal → Option R) : bodyA D Tryd.f9 [.any] [.v (.int .u8 a), .v (.bool b), .v (.bool c), .arr .u8 32 d, .arr .u8 32 e, .arr .u8 32 f, .arr .u8 32 g, .v (.int .u64 h)] K = P.L18_XmssRight a b c d e f g h (fun i => K (.v (.bool i))) := by
 rw [P.L18_XmssRight_eq]
 kernel_rfl
theorem loops : loopsOf (Tryd.f9.body.getD .skip) = [] := by kernel_rfl
noncomputable def spec0 : Abs.Spec := fun args K => match args with
 | [.v (.int .u8 a), .v (.bool b), .v (.bool c), .arr .u8 32 d, .arr .u8 32 e, .arr .u8 32 f, .arr .u8 32 g, .v (.int .u64 h)] => P.L18_XmssRight a b c d e f g h (fun i => K (.v (.bool i)))
 | _ => none
noncomputable def spec : Abs.Spec := spec0
theorem ok0 : Proved Tryd.prog GLO.gx 9 spec0 := by
 refine proved_of (D := D) (fn := Tryd.f9) (c := Tryd.f9.body.getD .skip) [.any] (by kernel_rfl) (globsPlain_of (by kernel_rfl)) (by kernel_rfl) (by kernel_rfl) (by kernel_rfl) ⟨R01_Same.ok, xmss_Sign.ok, xmss_Size.ok, xmss_Candidate.ok, xmss_Node.ok, xmss_Hyper.ok, xmss_Verify.ok, L18_awake.ok, trivial⟩ trivial ?_ ?_
 · rw [loops]; exact trivial
 · intro args K r h
   unfold spec0 at h
   split at h
   · rw [body]; exact h
   · cases h
theorem ok : Proved Tryd.prog GLO.gx 9 spec := ok0
end L18_XmssRight
end
