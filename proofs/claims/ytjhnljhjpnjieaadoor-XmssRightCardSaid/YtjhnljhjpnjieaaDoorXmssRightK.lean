/-
  XmssRight, part 11: an interpreter of my own over abstract values, the pure functions, the walks and the plain law.
-/

import Derived.Test.YtjhnljhjpnjieaaDoorXmssRightJ
import Derived.Test.YtjhnljhjpnjieaaDoorXmssRightH
import Derived.Test.YtjhnljhjpnjieaaDoorProg
import Derived.Test.YtjhnljhjpnjieaaDoorXmssRightI
import Derived.KernelRfl

section
open Go Go.Abs Go.Proofs
set_option maxRecDepth 100000
set_option maxHeartbeats 0
set_option linter.unusedVariables false
namespace xmss_high
noncomputable def D : Ctx := ({ P := Tryd.prog, G := [], globs := GLO.gx, hints := [], loops := [], inl := [] } : Ctx)
theorem body (b : Int) (c : Int) (d : Int) (e : Int) (f : Int) (a : Bool) (K : AVal → Option R) : bodyA D Tryd.f79 [.any] [.agg [.v (.int .i64 b), .v (.int .i64 c), .v (.int .i64 d), .v (.int .i64 e), .v (.int .i64 f), .v (.bool a)]] K = P.xmss_high b c d e f a (fun g => K (.v (.int .i64 g))) := by
 rw [P.xmss_high_eq]
 kernel_rfl
theorem loops : loopsOf (Tryd.f79.body.getD .skip) = [] := by kernel_rfl
noncomputable def spec0 : Abs.Spec := fun args K => match args with
 | [.agg [.v (.int .i64 b), .v (.int .i64 c), .v (.int .i64 d), .v (.int .i64 e), .v (.int .i64 f), .v (.bool a)]] => P.xmss_high b c d e f a (fun g => K (.v (.int .i64 g)))
 | _ => none
noncomputable def spec : Abs.Spec := spec0
theorem ok0 : Proved Tryd.prog GLO.gx 79 spec0 := by
 refine proved_of (D := D) (fn := Tryd.f79) (c := Tryd.f79.body.getD .skip) [.any] (by kernel_rfl) (globsPlain_of (by kernel_rfl)) (by kernel_rfl) (by kernel_rfl) (by kernel_rfl) trivial trivial ?_ ?_
 · rw [loops]; exact trivial
 · intro args K r h
   unfold spec0 at h
   split at h
   · rw [body]; exact h
   · cases h
theorem ok : Proved Tryd.prog GLO.gx 79 spec := ok0
end xmss_high
end

section
open Go Go.Abs Go.Proofs
set_option maxRecDepth 100000
set_option maxHeartbeats 0
set_option linter.unusedVariables false
namespace wots_Fit
noncomputable def D : Ctx := ({ P := Tryd.prog, G := [], globs := GLO.gx, hints := [], loops := [], inl := [] } : Ctx)
theorem body (b : Int) (c : Int) (d : Int) (e : Int) (f : Int) (a : Bool) (K : AVal → Option R) : bodyA D Tryd.f25 [.any] [.agg [.v (.int .i64 b), .v (.int .i64 c), .v (.int .i64 d), .v (.int .i64 e), .v (.int .i64 f), .v (.bool a)]] K = P.wots_Fit b c d e f a (fun g => K (.v (.bool g))) := by
 rw [P.wots_Fit_eq]
 kernel_rfl
theorem loops : loopsOf (Tryd.f25.body.getD .skip) = [] := by kernel_rfl
noncomputable def spec0 : Abs.Spec := fun args K => match args with
 | [.agg [.v (.int .i64 b), .v (.int .i64 c), .v (.int .i64 d), .v (.int .i64 e), .v (.int .i64 f), .v (.bool a)]] => P.wots_Fit b c d e f a (fun g => K (.v (.bool g)))
 | _ => none
noncomputable def spec : Abs.Spec := spec0
theorem ok0 : Proved Tryd.prog GLO.gx 25 spec0 := by
 refine proved_of (D := D) (fn := Tryd.f25) (c := Tryd.f25.body.getD .skip) [.any] (by kernel_rfl) (globsPlain_of (by kernel_rfl)) (by kernel_rfl) (by kernel_rfl) (by kernel_rfl) trivial trivial ?_ ?_
 · rw [loops]; exact trivial
 · intro args K r h
   unfold spec0 at h
   split at h
   · rw [body]; exact h
   · cases h
theorem ok : Proved Tryd.prog GLO.gx 25 spec := ok0
end wots_Fit
end

section
open Go Go.Abs Go.Proofs
set_option maxRecDepth 100000
set_option maxHeartbeats 0
set_option linter.unusedVariables false
namespace xmss_such
abbrev X2 := (List (List Int)) × Int × Int × Int × Int × Int × Int × Int × Bool
def S2 : X2 → ASt := fun (g, h, i, a, b, c, d, e, f) => ⟨[(2, .ptr 0 0), (7, .sl (.rows .u8 g)), (8, .v (.int .i64 h)), (9, .v (.int .i64 i))], [(0, some ⟨.box 41 [.v (.int .i64 a), .v (.int .i64 b), .v (.int .i64 c), .v (.int .i64 d), .v (.int .i64 e), .v (.bool f)], false⟩)], 1, 21⟩
def V2 : ASt → Option X2
 | ⟨[(2, .ptr 0 0), (7, .sl (.rows .u8 g)), (8, .v (.int .i64 h)), (9, .v (.int .i64 i))], [(0, some ⟨.box 41 [.v (.int .i64 a), .v (.int .i64 b), .v (.int .i64 c), .v (.int .i64 d), .v (.int .i64 e), .v (.bool f)], false⟩)], 1, 21⟩ => some (g, h, i, a, b, c, d, e, f)
 | _ => none
theorem V2_ok (st) (x) (h : V2 st = some x) : st = S2 x := by
 unfold V2 at h
 split at h
 · cases h; rfl
 · cases h
abbrev Y2 := X2 ⊕ (Bool × Int × Int × Int × Int × Int × Bool)
noncomputable def T2 : X2 → (X2 → Option R) → (Y2 → Option R) → Option R := fun (g, h, i, a, b, c, d, e, f) next ex => P.xmss_such_r2 g h i a b c d e f (fun g h i a b c d e f => next (g, h, i, a, b, c, d, e, f)) (fun g h i a b c d e f => ex (.inl (g, h, i, a, b, c, d, e, f))) (fun j a b c d e f => ex (.inr (j, a, b, c, d, e, f)))
def E2 (K : AExit → ASt → Option R) : Y2 → Option R := (Sum.elim (fun x => K (.exit 0) (S2 x)) (fun (g, a, b, c, d, e, f) => K .ret ⟨[(4, .v (.bool g))], [(0, some ⟨.box 41 [.v (.int .i64 a), .v (.int .i64 b), .v (.int .i64 c), .v (.int .i64 d), .v (.int .i64 e), .v (.bool f)], false⟩)], 1, 21⟩))
noncomputable def L2 : LSpec := fun st K => vMap (V2 st) fun (g, h, i, a, b, c, d, e, f) => P.xmss_such_l2 g h i a b c d e f (fun g h i a b c d e f => K (.exit 0) (S2 (g, h, i, a, b, c, d, e, f))) (fun j a b c d e f => K .ret ⟨[(4, .v (.bool j))], [(0, some ⟨.box 41 [.v (.int .i64 a), .v (.int .i64 b), .v (.int .i64 c), .v (.int .i64 d), .v (.int .i64 e), .v (.bool f)], false⟩)], 1, 21⟩)
noncomputable def D : Ctx := ({ P := Tryd.prog, G := [(25, wots_Fit.spec)], globs := GLO.gx, hints := [(2, ⟨[2, 7, 8, 9], [], [4], [], none, [], []⟩)], loops := [(2, L2)], inl := [] } : Ctx)
theorem round2 (K) (next) (x) : roundA D (loopAt Tryd.f78 2) K next (S2 x) = T2 x (fun x => next (S2 x)) (E2 K) := by kernel_rfl
theorem lq2 (st) (K) : L2 st K = vMap (V2 st) (fun x => lp T2 x (E2 K)) := by
 unfold L2
 cases V2 st with
 | none => rfl
 | some x => rw [P.xmss_such_l2_eq]; kernel_rfl
theorem loop2 : LoopOk D (loopAt Tryd.f78 2) := loopOk_lp S2 V2_ok (by kernel_rfl) lq2 round2
theorem body (b : Int) (c : Int) (d : Int) (e : Int) (f : Int) (a : Bool) (g : List (List Int)) (K : AVal → Option R) : bodyA D Tryd.f78 [.any] [.agg [.v (.int .i64 b), .v (.int .i64 c), .v (.int .i64 d), .v (.int .i64 e), .v (.int .i64 f), .v (.bool a)], .sl (.rows .u8 g)] K = P.xmss_such b c d e f a g (fun h => K (.v (.bool h))) := by
 rw [P.xmss_such_eq]
 kernel_rfl
theorem loops : loopsOf (Tryd.f78.body.getD .skip) = [loopAt Tryd.f78 2] := by kernel_rfl
noncomputable def spec0 : Abs.Spec := fun args K => match args with
 | [.agg [.v (.int .i64 b), .v (.int .i64 c), .v (.int .i64 d), .v (.int .i64 e), .v (.int .i64 f), .v (.bool a)], .sl (.rows .u8 g)] => P.xmss_such b c d e f a g (fun h => K (.v (.bool h)))
 | _ => none
noncomputable def spec : Abs.Spec := fun args K => spec0 (coerL [.any, .sl (.rows .u8 [])] args) K
theorem ok0 : Proved Tryd.prog GLO.gx 78 spec0 := by
 refine proved_of (D := D) (fn := Tryd.f78) (c := Tryd.f78.body.getD .skip) [.any] (by kernel_rfl) (globsPlain_of (by kernel_rfl)) (by kernel_rfl) (by kernel_rfl) (by kernel_rfl) ⟨wots_Fit.ok, trivial⟩ trivial ?_ ?_
 · rw [loops]; exact ⟨loop2, trivial⟩
 · intro args K r h
   unfold spec0 at h
   split at h
   · rw [body]; exact h
   · cases h
theorem ok : Proved Tryd.prog GLO.gx 78 spec := proved_coer _ ok0
end xmss_such
end

section
open Go Go.Abs Go.Proofs
set_option maxRecDepth 100000
set_option maxHeartbeats 0
set_option linter.unusedVariables false
namespace bits_Le
abbrev X5 := Int × Int × Int × (List Int)
def S5 : X5 → ASt := fun (c, a, b, d) => ⟨[(0, .v (.int .u64 c)), (5, .own 0), (16, .v (.int .i64 a)), (17, .v (.int .i64 b))], [(0, some ⟨.row 5 (.ints .u8 d), false⟩)], 1, 30⟩
def V5 : ASt → Option X5
 | ⟨[(0, .v (.int .u64 c)), (5, .own 0), (16, .v (.int .i64 a)), (17, .v (.int .i64 b))], [(0, some ⟨.row 5 (.ints .u8 d), false⟩)], 1, 30⟩ => some (c, a, b, d)
 | _ => none
theorem V5_ok (st) (x) (h : V5 st = some x) : st = S5 x := by
 unfold V5 at h
 split at h
 · cases h; rfl
 · cases h
abbrev Y5 := X5
noncomputable def T5 : X5 → (X5 → Option R) → (Y5 → Option R) → Option R := fun (c, a, b, d) next ex => P.bits_Le_r5 c a b d (fun c a b d => next (c, a, b, d)) (fun c a b d => ex (c, a, b, d))
def E5 (K : AExit → ASt → Option R) : Y5 → Option R := (fun x => K (.exit 0) (S5 x))
noncomputable def L5 : LSpec := fun st K => vMap (V5 st) fun (c, a, b, d) => P.bits_Le_l5 c a b d (fun c a b d => K (.exit 0) (S5 (c, a, b, d)))
noncomputable def D : Ctx := ({ P := Tryd.prog, G := [], globs := GLO.gx, hints := [(5, ⟨[0, 5, 16, 17], [], [4], [], none, [], []⟩)], loops := [(5, L5)], inl := [] } : Ctx)
theorem round5 (K) (next) (x) : roundA D (loopAt Tryd.f103 5) K next (S5 x) = T5 x (fun x => next (S5 x)) (E5 K) := by kernel_rfl
theorem lq5 (st) (K) : L5 st K = vMap (V5 st) (fun x => lp T5 x (E5 K)) := by
 unfold L5
 cases V5 st with
 | none => rfl
 | some x => rw [P.bits_Le_l5_eq]; kernel_rfl
theorem loop5 : LoopOk D (loopAt Tryd.f103 5) := loopOk_lp S5 V5_ok (by kernel_rfl) lq5 round5
theorem body (a : Int) (b : Int) (K : AVal → Option R) : bodyA D Tryd.f103 [.fr 5 (.ints .u8 [])] [.v (.int .u64 a), .v (.int .i64 b)] K = P.bits_Le a b (fun c => K (.fr 5 (.ints .u8 c))) := by
 rw [P.bits_Le_eq]
 kernel_rfl
theorem loops : loopsOf (Tryd.f103.body.getD .skip) = [loopAt Tryd.f103 5] := by kernel_rfl
noncomputable def spec0 : Abs.Spec := fun args K => match args with
 | [.v (.int .u64 a), .v (.int .i64 b)] => P.bits_Le a b (fun c => K (.fr 5 (.ints .u8 c)))
 | _ => none
noncomputable def spec : Abs.Spec := spec0
theorem ok0 : Proved Tryd.prog GLO.gx 103 spec0 := by
 refine proved_of (D := D) (fn := Tryd.f103) (c := Tryd.f103.body.getD .skip) [.fr 5 (.ints .u8 [])] (by kernel_rfl) (globsPlain_of (by kernel_rfl)) (by kernel_rfl) (by kernel_rfl) (by kernel_rfl) trivial trivial ?_ ?_
 · rw [loops]; exact ⟨loop5, trivial⟩
 · intro args K r h
   unfold spec0 at h
   split at h
   · rw [body]; exact h
   · cases h
theorem ok : Proved Tryd.prog GLO.gx 103 spec := ok0
end bits_Le
end

section
open Go Go.Abs Go.Proofs
set_option maxRecDepth 100000
set_option maxHeartbeats 0
set_option linter.unusedVariables false
namespace bits_Be
abbrev X1_1 := Int × Int × (List Int)
def S1_1 : X1_1 → ASt := fun (a, b, c) => ⟨[(0, .own 0), (2, .v (.int .i64 a)), (3, .v (.int .i64 b))], [(0, some ⟨.row 5 (.ints .u8 c), false⟩)], 1, 28⟩
def V1_1 : ASt → Option X1_1
 | ⟨[(0, .own 0), (2, .v (.int .i64 a)), (3, .v (.int .i64 b))], [(0, some ⟨.row 5 (.ints .u8 c), false⟩)], 1, 28⟩ => some (a, b, c)
 | _ => none
theorem V1_1_ok (st) (x) (h : V1_1 st = some x) : st = S1_1 x := by
 unfold V1_1 at h
 split at h
 · cases h; rfl
 · cases h
abbrev Y1_1 := X1_1
noncomputable def T1_1 : X1_1 → (X1_1 → Option R) → (Y1_1 → Option R) → Option R := fun (a, b, c) next ex => P.bits_Be_r1_1 a b c (fun a b c => next (a, b, c)) (fun a b c => ex (a, b, c))
def E1_1 (K : AExit → ASt → Option R) : Y1_1 → Option R := (fun x => K (.exit 0) (S1_1 x))
noncomputable def L1_1 : LSpec := fun st K => vMap (V1_1 st) fun (a, b, c) => P.bits_Be_l1_1 a b c (fun a b c => K (.exit 0) (S1_1 (a, b, c)))
noncomputable def D1 : Ctx := ({ P := Tryd.prog, G := [(103, bits_Le.spec)], globs := GLO.gx, hints := [(1, ⟨[0, 2, 3], [], [], [], none, [], []⟩)], loops := [(1, L1_1)], inl := [] } : Ctx)
noncomputable def D : Ctx := ({ P := Tryd.prog, G := [(103, bits_Le.spec)], globs := GLO.gx, hints := [], loops := [], inl := [(104, bodyIn D1 Tryd.f104)] } : Ctx)
theorem round1_1 (K) (next) (x) : roundA D1 (loopAt Tryd.f104 1) K next (S1_1 x) = T1_1 x (fun x => next (S1_1 x)) (E1_1 K) := by kernel_rfl
theorem lq1_1 (st) (K) : L1_1 st K = vMap (V1_1 st) (fun x => lp T1_1 x (E1_1 K)) := by
 unfold L1_1
 cases V1_1 st with
 | none => rfl
 | some x => rw [P.bits_Be_l1_1_eq]; kernel_rfl
theorem loop1_1 : LoopOk D1 (loopAt Tryd.f104 1) := loopOk_lp S1_1 V1_1_ok (by kernel_rfl) lq1_1 round1_1
theorem body (a : Int) (b : Int) (K : AVal → Option R) : bodyA D Tryd.f60 [.fr 5 (.ints .u8 [])] [.v (.int .u64 a), .v (.int .i64 b)] K = P.bits_Be a b (fun c => K (.fr 5 (.ints .u8 c))) := by
 rw [P.bits_Be_eq]
 kernel_rfl
theorem loops : loopsOf (Tryd.f60.body.getD .skip) = [] := by kernel_rfl
theorem loops1 : loopsOf (Tryd.f104.body.getD .skip) = [loopAt Tryd.f104 1] := by kernel_rfl
noncomputable def spec0 : Abs.Spec := fun args K => match args with
 | [.v (.int .u64 a), .v (.int .i64 b)] => P.bits_Be a b (fun c => K (.fr 5 (.ints .u8 c)))
 | _ => none
noncomputable def spec : Abs.Spec := spec0
theorem ok0 : Proved Tryd.prog GLO.gx 60 spec0 := by
 refine proved_of (D := D) (fn := Tryd.f60) (c := Tryd.f60.body.getD .skip) [.fr 5 (.ints .u8 [])] (by kernel_rfl) (globsPlain_of (by kernel_rfl)) (by kernel_rfl) (by kernel_rfl) (by kernel_rfl) ⟨bits_Le.ok, trivial⟩ ⟨run_of (D := D1) (D' := D) (fn := Tryd.f104) (c := Tryd.f104.body.getD .skip) rfl rfl (by kernel_rfl) (globsPlain_of (by kernel_rfl)) (by kernel_rfl) (by kernel_rfl) (by kernel_rfl) ⟨bits_Le.ok, trivial⟩ trivial (by rw [loops1]; exact ⟨loop1_1, trivial⟩) (fun _ _ _ _ _ h => h), trivial⟩ ?_ ?_
 · rw [loops]; exact trivial
 · intro args K r h
   unfold spec0 at h
   split at h
   · rw [body]; exact h
   · cases h
theorem ok : Proved Tryd.prog GLO.gx 60 spec := ok0
end bits_Be
end
