/-
  XmssGrows, part 19: an interpreter of my own over abstract values, the pure functions, the walks and the plain law.
-/

import Derived.Test.YtjhnljhjpnjieaaGreatDoorXmssGrowsI
import Derived.Test.YtjhnljhjpnjieaaGreatDoorXmssGrowsG
import Derived.Test.YtjhnljhjpnjieaaGreatDoorProg
import Derived.Test.YtjhnljhjpnjieaaGreatDoorXmssGrowsH
import Derived.Test.YtjhnljhjpnjieaaGreatDoorXmssGrowsQ
import Derived.KernelRfl
import Derived.Test.YtjhnljhjpnjieaaGreatDoorXmssGrowsR
import Derived.Test.YtjhnljhjpnjieaaGreatDoorXmssGrowsP
import Derived.Test.YtjhnljhjpnjieaaGreatDoorXmssGrowsJ

section
open Go Go.Abs Go.Proofs
set_option maxRecDepth 100000
set_option maxHeartbeats 0
set_option linter.unusedVariables false

namespace aar
noncomputable def D : Ctx := ({ P := Tryz.prog, G := [(44, l5.spec)], globs := GLO.gx, hints := [], loops := [], inl := [] } : Ctx)
theorem loops : d9 (Tryz.f71.body.getD .skip) = [] := by kernel_rfl
noncomputable def bn : Abs.Spec := fun args K => match args with
 | [.arr .u8 32 a] => P.aar a (fun b => K (.fr 5 (.ints .u8 b)))
 | _ => none
noncomputable def spec : Abs.Spec := bn
theorem ok0 : Proved Tryz.prog GLO.gx 71 bn := by
 refine dw (D := D) (fn := Tryz.f71) (c := Tryz.f71.body.getD .skip) [.fr 5 (.ints .u8 [])] (by kernel_rfl) (bf (by kernel_rfl)) (by kernel_rfl) (by kernel_rfl) (by kernel_rfl) ⟨l5.ok, trivial⟩ trivial ?_ ?_
 · rw [loops]; exact trivial
 · intro args K r h
   unfold bn at h
   split at h
   · rw [P.auu] at h; exact Eq.trans (by kernel_rfl) h
   · cases h
theorem ok : Proved Tryz.prog GLO.gx 71 spec := ok0
end aar

namespace zl
noncomputable def D : Ctx := ({ P := Tryz.prog, G := [(37, mh.spec), (44, l5.spec), (69, aip.spec), (70, aew.spec), (71, aar.spec)], globs := GLO.gx, hints := [], loops := [], inl := [] } : Ctx)
theorem loops : d9 (Tryz.f41.body.getD .skip) = [] := by kernel_rfl
noncomputable def bn : Abs.Spec := fun args K => match args with
 | [.agg [.v (.int .i64 b), .v (.int .i64 c), .v (.int .i64 d), .v (.int .i64 e), .v (.int .i64 f), .v (.bool a)], .sl (.ints .u8 g), .arr .u8 32 h, .sl (.ints .u8 i)] => P.zl b c d e f a g h i (fun j => K (.sl (.ints .u8 j)))
 | _ => none
noncomputable def spec : Abs.Spec := fun args K => bn (oh [.any, .sl (.ints .u8 []), .any, .sl (.ints .u8 [])] args) K
theorem ok0 : Proved Tryz.prog GLO.gx 41 bn := by
 refine dw (D := D) (fn := Tryz.f41) (c := Tryz.f41.body.getD .skip) [.sl (.ints .u8 [])] (by kernel_rfl) (bf (by kernel_rfl)) (by kernel_rfl) (by kernel_rfl) (by kernel_rfl) ⟨mh.ok, l5.ok, aip.ok, aew.ok, aar.ok, trivial⟩ trivial ?_ ?_
 · rw [loops]; exact trivial
 · intro args K r h
   unfold bn at h
   split at h
   · rw [P.bag] at h; exact Eq.trans (by kernel_rfl) h
   · cases h
theorem ok : Proved Tryz.prog GLO.gx 41 spec := eu _ ok0
end zl

namespace qx
abbrev X2 := P.bv7
def S2 : X2 → ASt := fun (i, j, k, h, a, b, c, d, e, f, g) => ⟨[(1, .sl (.ints .u8 i)), (3, .v (.int .u32 j)), (4, .sl (.ints .u8 k)), (6, .ptr 0 0), (11, .ptr 1 0), (13, .v (.int .u32 h))], [(0, some ⟨.box 23 [.v (.int .i64 a), .v (.int .i64 b), .v (.int .i64 c), .v (.int .i64 d), .v (.int .i64 e), .v (.bool f)], false⟩), (1, some ⟨.box 25 [.arr .u8 32 g], false⟩)], 2, 29⟩
def V2 : ASt → Option X2
 | ⟨[(1, .sl (.ints .u8 i)), (3, .v (.int .u32 j)), (4, .sl (.ints .u8 k)), (6, .ptr 0 0), (11, .ptr 1 0), (13, .v (.int .u32 h))], [(0, some ⟨.box 23 [.v (.int .i64 a), .v (.int .i64 b), .v (.int .i64 c), .v (.int .i64 d), .v (.int .i64 e), .v (.bool f)], false⟩), (1, some ⟨.box 25 [.arr .u8 32 g], false⟩)], 2, 29⟩ => some (i, j, k, h, a, b, c, d, e, f, g)
 | _ => none
theorem axu (st) (x) (h : V2 st = some x) : st = S2 x := by
 unfold V2 at h
 split at h
 · cases h; rfl
 · cases h
abbrev Y2 := P.b4m
def E2 (K : AExit → ASt → Option R) : Y2 → Option R := (fun x => K (.exit 0) (S2 x))
noncomputable def L2 : p8 := fun st K => acg (V2 st) fun x => P.b3b x (E2 K)
noncomputable def D : Ctx := ({ P := Tryz.prog, G := [(41, zl.spec), (72, jm.spec)], globs := GLO.gx, hints := [(2, ⟨[1, 3, 4, 6, 11, 13], [], [12], [(1, .sl (.ints .u8 []))], none, [], []⟩)], loops := [(2, L2)], inl := [] } : Ctx)
theorem ame (K) (next) (x) : jq D (dz Tryz.f84 2) K next (S2 x) = P.buo x (fun x => next (S2 x)) (E2 K) := by kernel_rfl
theorem avz : ji D (dz Tryz.f84 2) := gy S2 axu (by kernel_rfl) P.b9q ame
theorem loops : d9 (Tryz.f84.body.getD .skip) = [dz Tryz.f84 2] := by kernel_rfl
noncomputable def bn : Abs.Spec := fun args K => match args with
 | [.agg [.v (.int .i64 b), .v (.int .i64 c), .v (.int .i64 d), .v (.int .i64 e), .v (.int .i64 f), .v (.bool a)], .sl (.ints .u8 g), .v (.int .u32 h), .v (.int .u32 i), .sl (.ints .u8 j), .arr .u8 32 k] => P.qx b c d e f a g h i j k (fun l => K (.sl (.ints .u8 l)))
 | _ => none
noncomputable def spec : Abs.Spec := fun args K => bn (oh [.any, .sl (.ints .u8 []), .any, .any, .sl (.ints .u8 []), .any] args) K
theorem ok0 : Proved Tryz.prog GLO.gx 84 bn := by
 refine dw (D := D) (fn := Tryz.f84) (c := Tryz.f84.body.getD .skip) [.sl (.ints .u8 [])] (by kernel_rfl) (bf (by kernel_rfl)) (by kernel_rfl) (by kernel_rfl) (by kernel_rfl) ⟨zl.ok, jm.ok, trivial⟩ trivial ?_ ?_
 · rw [loops]; exact ⟨avz, trivial⟩
 · intro args K r h
   unfold bn at h
   split at h
   · rw [P.aui] at h; exact Eq.trans (by kernel_rfl) h
   · cases h
theorem ok : Proved Tryz.prog GLO.gx 84 spec := eu _ ok0
end qx

namespace abl
noncomputable def D : Ctx := ({ P := Tryz.prog, G := [(105, ad2.spec)], globs := GLO.gx, hints := [], loops := [], inl := [] } : Ctx)
theorem loops : d9 (Tryz.f109.body.getD .skip) = [] := by kernel_rfl
noncomputable def bn : Abs.Spec := fun args K => match args with
 | [.arr .u8 32 a] => P.abl a (fun b => K (.v (.int .u64 b)))
 | _ => none
noncomputable def spec : Abs.Spec := bn
theorem ok0 : Proved Tryz.prog GLO.gx 109 bn := by
 refine dw (D := D) (fn := Tryz.f109) (c := Tryz.f109.body.getD .skip) [.any] (by kernel_rfl) (bf (by kernel_rfl)) (by kernel_rfl) (by kernel_rfl) (by kernel_rfl) ⟨ad2.ok, trivial⟩ trivial ?_ ?_
 · rw [loops]; exact trivial
 · intro args K r h
   unfold bn at h
   split at h
   · rw [P.axm] at h; exact Eq.trans (by kernel_rfl) h
   · cases h
theorem ok : Proved Tryz.prog GLO.gx 109 spec := ok0
end abl

namespace aeb
noncomputable def D : Ctx := ({ P := Tryz.prog, G := [(41, zl.spec), (44, l5.spec), (72, jm.spec), (109, abl.spec)], globs := GLO.gx, hints := [], loops := [], inl := [] } : Ctx)
theorem loops : d9 (Tryz.f86.body.getD .skip) = [] := by kernel_rfl
noncomputable def bn : Abs.Spec := fun args K => match args with
 | [.agg [.v (.int .i64 b), .v (.int .i64 c), .v (.int .i64 d), .v (.int .i64 e), .v (.int .i64 f), .v (.bool a)], .sl (.rows .u8 g), .sl (.ints .u8 h), .arr .u8 32 i] => P.aeb b c d e f a g h i (fun j => K (.sl (.ints .u8 j)))
 | _ => none
noncomputable def spec : Abs.Spec := fun args K => bn (oh [.any, .sl (.rows .u8 []), .sl (.ints .u8 []), .any] args) K
theorem ok0 : Proved Tryz.prog GLO.gx 86 bn := by
 refine dw (D := D) (fn := Tryz.f86) (c := Tryz.f86.body.getD .skip) [.sl (.ints .u8 [])] (by kernel_rfl) (bf (by kernel_rfl)) (by kernel_rfl) (by kernel_rfl) (by kernel_rfl) ⟨zl.ok, l5.ok, jm.ok, abl.ok, trivial⟩ trivial ?_ ?_
 · rw [loops]; exact trivial
 · intro args K r h
   unfold bn at h
   split at h
   · rw [P.aza] at h; exact Eq.trans (by kernel_rfl) h
   · cases h
theorem ok : Proved Tryz.prog GLO.gx 86 spec := eu _ ok0
end aeb

namespace uz
noncomputable def D : Ctx := ({ P := Tryz.prog, G := [(37, mh.spec)], globs := GLO.gx, hints := [], loops := [], inl := [] } : Ctx)
theorem loops : d9 (Tryz.f83.body.getD .skip) = [] := by kernel_rfl
noncomputable def bn : Abs.Spec := fun args K => match args with
 | [.agg [.v (.int .i64 b), .v (.int .i64 c), .v (.int .i64 d), .v (.int .i64 e), .v (.int .i64 f), .v (.bool a)], .sl (.ints .u8 g), .sl (.ints .u8 h)] => P.uz b c d e f a g h (fun i => K (.v (.bool i)))
 | _ => none
noncomputable def spec : Abs.Spec := fun args K => bn (oh [.any, .sl (.ints .u8 []), .sl (.ints .u8 [])] args) K
theorem ok0 : Proved Tryz.prog GLO.gx 83 bn := by
 refine dw (D := D) (fn := Tryz.f83) (c := Tryz.f83.body.getD .skip) [.any] (by kernel_rfl) (bf (by kernel_rfl)) (by kernel_rfl) (by kernel_rfl) (by kernel_rfl) ⟨mh.ok, trivial⟩ trivial ?_ ?_
 · rw [loops]; exact trivial
 · intro args K r h
   unfold bn at h
   split at h
   · rw [P.aua] at h; exact Eq.trans (by kernel_rfl) h
   · cases h
theorem ok : Proved Tryz.prog GLO.gx 83 spec := eu _ ok0
end uz

namespace uh
abbrev X6 := P.byn
def S6 : X6 → ASt := fun (i, j, h, k, a, b, c, d, e, f, g, l) => ⟨[(12, .own 3), (1, .sl (.ints .u8 i)), (3, .sl (.ints .u8 j)), (5, .ptr 0 0), (9, .ptr 1 0), (11, .own 2), (13, .v (.int .i64 h))], [(3, some ⟨.row 26 (.rows .u8 k), false⟩), (0, some ⟨.box 23 [.v (.int .i64 a), .v (.int .i64 b), .v (.int .i64 c), .v (.int .i64 d), .v (.int .i64 e), .v (.bool f)], false⟩), (1, some ⟨.box 25 [.arr .u8 32 g], false⟩), (2, some ⟨.row 64 (.ints .u32 l), false⟩)], 4, 72⟩
def V6 : ASt → Option X6
 | ⟨[(12, .own 3), (1, .sl (.ints .u8 i)), (3, .sl (.ints .u8 j)), (5, .ptr 0 0), (9, .ptr 1 0), (11, .own 2), (13, .v (.int .i64 h))], [(3, some ⟨.row 26 (.rows .u8 k), false⟩), (0, some ⟨.box 23 [.v (.int .i64 a), .v (.int .i64 b), .v (.int .i64 c), .v (.int .i64 d), .v (.int .i64 e), .v (.bool f)], false⟩), (1, some ⟨.box 25 [.arr .u8 32 g], false⟩), (2, some ⟨.row 64 (.ints .u32 l), false⟩)], 4, 72⟩ => some (i, j, h, k, a, b, c, d, e, f, g, l)
 | _ => none
theorem ah4 (st) (x) (h : V6 st = some x) : st = S6 x := by
 unfold V6 at h
 split at h
 · cases h; rfl
 · cases h
abbrev Y6 := P.b4l
def E6 (K : AExit → ASt → Option R) : Y6 → Option R := (fun x => K (.exit 0) (S6 x))
noncomputable def L6 : p8 := fun st K => acg (V6 st) fun x => P.b0u x (E6 K)
noncomputable def D : Ctx := ({ P := Tryz.prog, G := [(72, jm.spec), (83, uz.spec), (84, qx.spec), (86, aeb.spec), (91, xk.spec)], globs := GLO.gx, hints := [(6, ⟨[1, 3, 5, 9, 11, 13], [(12, 26, .rows .u8 [])], [10], [], none, [], []⟩)], loops := [(6, L6)], inl := [] } : Ctx)
theorem ac4 (K) (next) (x) : jq D (dz Tryz.f62 6) K next (S6 x) = P.bxf x (fun x => next (S6 x)) (E6 K) := by kernel_rfl
theorem aiw : ji D (dz Tryz.f62 6) := gy S6 ah4 (by kernel_rfl) P.b93 ac4
theorem loops : d9 (Tryz.f62.body.getD .skip) = [dz Tryz.f62 6] := by kernel_rfl
noncomputable def bn : Abs.Spec := fun args K => match args with
 | [.agg [.v (.int .i64 b), .v (.int .i64 c), .v (.int .i64 d), .v (.int .i64 e), .v (.int .i64 f), .v (.bool a)], .sl (.ints .u8 g), .sl (.ints .u8 h), .sl (.ints .u8 i), .arr .u8 32 j] => P.uh b c d e f a g h i j (fun k => K (.sl (.ints .u8 k)))
 | _ => none
noncomputable def spec : Abs.Spec := fun args K => bn (oh [.any, .sl (.ints .u8 []), .sl (.ints .u8 []), .sl (.ints .u8 []), .any] args) K
theorem ok0 : Proved Tryz.prog GLO.gx 62 bn := by
 refine dw (D := D) (fn := Tryz.f62) (c := Tryz.f62.body.getD .skip) [.sl (.ints .u8 [])] (by kernel_rfl) (bf (by kernel_rfl)) (by kernel_rfl) (by kernel_rfl) (by kernel_rfl) ⟨jm.ok, uz.ok, qx.ok, aeb.ok, xk.ok, trivial⟩ trivial ?_ ?_
 · rw [loops]; exact ⟨aiw, trivial⟩
 · intro args K r h
   unfold bn at h
   split at h
   · rw [P.al3] at h; exact Eq.trans (by kernel_rfl) h
   · cases h
theorem ok : Proved Tryz.prog GLO.gx 62 spec := eu _ ok0
end uh

namespace aau
noncomputable def D : Ctx := ({ P := Tryz.prog, G := [(37, mh.spec)], globs := GLO.gx, hints := [], loops := [], inl := [] } : Ctx)
theorem loops : d9 (Tryz.f25.body.getD .skip) = [] := by kernel_rfl
noncomputable def bn : Abs.Spec := fun args K => match args with
 | [.agg [.v (.int .i64 b), .v (.int .i64 c), .v (.int .i64 d), .v (.int .i64 e), .v (.int .i64 f), .v (.bool a)]] => P.aau b c d e f a (fun g => K (.v (.int .i64 g)))
 | _ => none
noncomputable def spec : Abs.Spec := bn
theorem ok0 : Proved Tryz.prog GLO.gx 25 bn := by
 refine dw (D := D) (fn := Tryz.f25) (c := Tryz.f25.body.getD .skip) [.any] (by kernel_rfl) (bf (by kernel_rfl)) (by kernel_rfl) (by kernel_rfl) (by kernel_rfl) ⟨mh.ok, trivial⟩ trivial ?_ ?_
 · rw [loops]; exact trivial
 · intro args K r h
   unfold bn at h
   split at h
   · rw [P.av4] at h; exact Eq.trans (by kernel_rfl) h
   · cases h
theorem ok : Proved Tryz.prog GLO.gx 25 spec := ok0
end aau

namespace aat
noncomputable def D : Ctx := ({ P := Tryz.prog, G := [(41, zl.spec), (44, l5.spec), (72, jm.spec)], globs := GLO.gx, hints := [], loops := [], inl := [] } : Ctx)
theorem loops : d9 (Tryz.f56.body.getD .skip) = [] := by kernel_rfl
noncomputable def bn : Abs.Spec := fun args K => match args with
 | [.agg [.v (.int .i64 b), .v (.int .i64 c), .v (.int .i64 d), .v (.int .i64 e), .v (.int .i64 f), .v (.bool a)], .sl (.ints .u8 g), .arr .u8 32 h, .v (.int .i64 i), .v (.int .u64 j), .sl (.ints .u8 k), .sl (.ints .u8 l)] => P.aat b c d e f a g h i j k l (fun m => K (.sl (.ints .u8 m)))
 | _ => none
noncomputable def spec : Abs.Spec := fun args K => bn (oh [.any, .sl (.ints .u8 []), .any, .any, .any, .sl (.ints .u8 []), .sl (.ints .u8 [])] args) K
theorem ok0 : Proved Tryz.prog GLO.gx 56 bn := by
 refine dw (D := D) (fn := Tryz.f56) (c := Tryz.f56.body.getD .skip) [.sl (.ints .u8 [])] (by kernel_rfl) (bf (by kernel_rfl)) (by kernel_rfl) (by kernel_rfl) (by kernel_rfl) ⟨zl.ok, l5.ok, jm.ok, trivial⟩ trivial ?_ ?_
 · rw [loops]; exact trivial
 · intro args K r h
   unfold bn at h
   split at h
   · rw [P.axg] at h; exact Eq.trans (by kernel_rfl) h
   · cases h
theorem ok : Proved Tryz.prog GLO.gx 56 spec := eu _ ok0
end aat

namespace za
noncomputable def D : Ctx := ({ P := Tryz.prog, G := [(72, jm.spec)], globs := GLO.gx, hints := [], loops := [], inl := [] } : Ctx)
theorem loops : d9 (Tryz.f55.body.getD .skip) = [] := by kernel_rfl
noncomputable def bn : Abs.Spec := fun args K => match args with
 | [.arr .u8 32 a, .v (.int .u64 b)] => P.za a b (fun c => K (.arr .u8 32 c))
 | _ => none
noncomputable def spec : Abs.Spec := bn
theorem ok0 : Proved Tryz.prog GLO.gx 55 bn := by
 refine dw (D := D) (fn := Tryz.f55) (c := Tryz.f55.body.getD .skip) [.any] (by kernel_rfl) (bf (by kernel_rfl)) (by kernel_rfl) (by kernel_rfl) (by kernel_rfl) ⟨jm.ok, trivial⟩ trivial ?_ ?_
 · rw [loops]; exact trivial
 · intro args K r h
   unfold bn at h
   split at h
   · rw [P.aw6] at h; exact Eq.trans (by kernel_rfl) h
   · cases h
theorem ok : Proved Tryz.prog GLO.gx 55 spec := ok0
end za

namespace sj
abbrev X6 := P.bwv
def S6 : X6 → ASt := fun (k, l, m, h, i, j, a, b, c, d, e, f, g) => ⟨[(1, .sl (.ints .u8 k)), (3, .sl (.ints .u8 l)), (5, .v (.int .u64 m)), (6, .ptr 0 0), (10, .ptr 1 0), (13, .v (.int .i64 h)), (14, .sl (.ints .u8 i)), (15, .v (.int .i64 j))], [(0, some ⟨.box 23 [.v (.int .i64 a), .v (.int .i64 b), .v (.int .i64 c), .v (.int .i64 d), .v (.int .i64 e), .v (.bool f)], false⟩), (1, some ⟨.box 25 [.arr .u8 32 g], false⟩)], 2, 124⟩
def V6 : ASt → Option X6
 | ⟨[(1, .sl (.ints .u8 k)), (3, .sl (.ints .u8 l)), (5, .v (.int .u64 m)), (6, .ptr 0 0), (10, .ptr 1 0), (13, .v (.int .i64 h)), (14, .sl (.ints .u8 i)), (15, .v (.int .i64 j))], [(0, some ⟨.box 23 [.v (.int .i64 a), .v (.int .i64 b), .v (.int .i64 c), .v (.int .i64 d), .v (.int .i64 e), .v (.bool f)], false⟩), (1, some ⟨.box 25 [.arr .u8 32 g], false⟩)], 2, 124⟩ => some (k, l, m, h, i, j, a, b, c, d, e, f, g)
 | _ => none
theorem ah4 (st) (x) (h : V6 st = some x) : st = S6 x := by
 unfold V6 at h
 split at h
 · cases h; rfl
 · cases h
abbrev Y6 := P.b3z
def E6 (K : AExit → ASt → Option R) : Y6 → Option R := (fun x => K (.exit 0) (S6 x))
noncomputable def L6 : p8 := fun st K => acg (V6 st) fun x => P.b7k x (E6 K)
noncomputable def D : Ctx := ({ P := Tryz.prog, G := [(25, aau.spec), (37, mh.spec), (55, za.spec), (56, aat.spec), (62, uh.spec)], globs := GLO.gx, hints := [(6, ⟨[1, 3, 5, 6, 10, 13, 14, 15], [], [12], [(14, .sl (.ints .u8 []))], none, [], []⟩)], loops := [(6, L6)], inl := [] } : Ctx)
theorem ac4 (K) (next) (x) : jq D (dz Tryz.f31 6) K next (S6 x) = P.bu7 x (fun x => next (S6 x)) (E6 K) := by kernel_rfl
theorem aiw : ji D (dz Tryz.f31 6) := gy S6 ah4 (by kernel_rfl) P.b9x ac4
theorem loops : d9 (Tryz.f31.body.getD .skip) = [dz Tryz.f31 6] := by kernel_rfl
noncomputable def bn : Abs.Spec := fun args K => match args with
 | [.agg [.v (.int .i64 b), .v (.int .i64 c), .v (.int .i64 d), .v (.int .i64 e), .v (.int .i64 f), .v (.bool a)], .sl (.ints .u8 g), .sl (.ints .u8 h), .sl (.ints .u8 i), .arr .u8 32 j, .v (.int .u64 k)] => P.sj b c d e f a g h i j k (fun l => K (.sl (.ints .u8 l)))
 | _ => none
noncomputable def spec : Abs.Spec := fun args K => bn (oh [.any, .sl (.ints .u8 []), .sl (.ints .u8 []), .sl (.ints .u8 []), .any, .any] args) K
theorem ok0 : Proved Tryz.prog GLO.gx 31 bn := by
 refine dw (D := D) (fn := Tryz.f31) (c := Tryz.f31.body.getD .skip) [.sl (.ints .u8 [])] (by kernel_rfl) (bf (by kernel_rfl)) (by kernel_rfl) (by kernel_rfl) (by kernel_rfl) ⟨aau.ok, mh.ok, za.ok, aat.ok, uh.ok, trivial⟩ trivial ?_ ?_
 · rw [loops]; exact ⟨aiw, trivial⟩
 · intro args K r h
   unfold bn at h
   split at h
   · rw [P.aaq] at h; exact Eq.trans (by kernel_rfl) h
   · cases h
theorem ok : Proved Tryz.prog GLO.gx 31 spec := eu _ ok0
end sj

namespace ai4
noncomputable def D : Ctx := ({ P := Tryz.prog, G := [(41, zl.spec)], globs := GLO.gx, hints := [], loops := [], inl := [] } : Ctx)
theorem loops : d9 (Tryz.f74.body.getD .skip) = [] := by kernel_rfl
noncomputable def bn : Abs.Spec := fun args K => match args with
 | [.agg [.v (.int .i64 b), .v (.int .i64 c), .v (.int .i64 d), .v (.int .i64 e), .v (.int .i64 f), .v (.bool a)], .sl (.ints .u8 g), .sl (.ints .u8 h), .arr .u8 32 i] => P.ai4 b c d e f a g h i (fun j => K (.sl (.ints .u8 j)))
 | _ => none
noncomputable def spec : Abs.Spec := fun args K => bn (oh [.any, .sl (.ints .u8 []), .sl (.ints .u8 []), .any] args) K
theorem ok0 : Proved Tryz.prog GLO.gx 74 bn := by
 refine dw (D := D) (fn := Tryz.f74) (c := Tryz.f74.body.getD .skip) [.sl (.ints .u8 [])] (by kernel_rfl) (bf (by kernel_rfl)) (by kernel_rfl) (by kernel_rfl) (by kernel_rfl) ⟨zl.ok, trivial⟩ trivial ?_ ?_
 · rw [loops]; exact trivial
 · intro args K r h
   unfold bn at h
   split at h
   · rw [P.ax6] at h; exact Eq.trans (by kernel_rfl) h
   · cases h
theorem ok : Proved Tryz.prog GLO.gx 74 spec := eu _ ok0
end ai4

namespace zy
noncomputable def D : Ctx := ({ P := Tryz.prog, G := [(72, jm.spec), (74, ai4.spec), (109, abl.spec)], globs := GLO.gx, hints := [], loops := [], inl := [] } : Ctx)
theorem loops : d9 (Tryz.f85.body.getD .skip) = [] := by kernel_rfl
noncomputable def bn : Abs.Spec := fun args K => match args with
 | [.agg [.v (.int .i64 b), .v (.int .i64 c), .v (.int .i64 d), .v (.int .i64 e), .v (.int .i64 f), .v (.bool a)], .sl (.ints .u8 g), .sl (.ints .u8 h), .arr .u8 32 i, .v (.int .i64 j)] => P.zy b c d e f a g h i j (fun k => K (.sl (.ints .u8 k)))
 | _ => none
noncomputable def spec : Abs.Spec := fun args K => bn (oh [.any, .sl (.ints .u8 []), .sl (.ints .u8 []), .any, .any] args) K
theorem ok0 : Proved Tryz.prog GLO.gx 85 bn := by
 refine dw (D := D) (fn := Tryz.f85) (c := Tryz.f85.body.getD .skip) [.sl (.ints .u8 [])] (by kernel_rfl) (bf (by kernel_rfl)) (by kernel_rfl) (by kernel_rfl) (by kernel_rfl) ⟨jm.ok, ai4.ok, abl.ok, trivial⟩ trivial ?_ ?_
 · rw [loops]; exact trivial
 · intro args K r h
   unfold bn at h
   split at h
   · rw [P.aub] at h; exact Eq.trans (by kernel_rfl) h
   · cases h
theorem ok : Proved Tryz.prog GLO.gx 85 spec := eu _ ok0
end zy

namespace aa6
abbrev X5 := P.buw
def S5 : X5 → ASt := fun (i, j, h, k, a, b, c, d, e, f, g) => ⟨[(9, .own 2), (1, .sl (.ints .u8 i)), (2, .sl (.ints .u8 j)), (4, .ptr 0 0), (7, .ptr 1 0), (10, .v (.int .i64 h))], [(2, some ⟨.row 26 (.rows .u8 k), false⟩), (0, some ⟨.box 23 [.v (.int .i64 a), .v (.int .i64 b), .v (.int .i64 c), .v (.int .i64 d), .v (.int .i64 e), .v (.bool f)], false⟩), (1, some ⟨.box 25 [.arr .u8 32 g], false⟩)], 3, 44⟩
def V5 : ASt → Option X5
 | ⟨[(9, .own 2), (1, .sl (.ints .u8 i)), (2, .sl (.ints .u8 j)), (4, .ptr 0 0), (7, .ptr 1 0), (10, .v (.int .i64 h))], [(2, some ⟨.row 26 (.rows .u8 k), false⟩), (0, some ⟨.box 23 [.v (.int .i64 a), .v (.int .i64 b), .v (.int .i64 c), .v (.int .i64 d), .v (.int .i64 e), .v (.bool f)], false⟩), (1, some ⟨.box 25 [.arr .u8 32 g], false⟩)], 3, 44⟩ => some (i, j, h, k, a, b, c, d, e, f, g)
 | _ => none
theorem atn (st) (x) (h : V5 st = some x) : st = S5 x := by
 unfold V5 at h
 split at h
 · cases h; rfl
 · cases h
abbrev Y5 := P.b4i
def E5 (K : AExit → ASt → Option R) : Y5 → Option R := (fun x => K (.exit 0) (S5 x))
noncomputable def L5 : p8 := fun st K => acg (V5 st) fun x => P.b1l x (E5 K)
noncomputable def D : Ctx := ({ P := Tryz.prog, G := [(72, jm.spec), (83, uz.spec), (84, qx.spec), (85, zy.spec), (86, aeb.spec)], globs := GLO.gx, hints := [(5, ⟨[1, 2, 4, 7, 10], [(9, 26, .rows .u8 [])], [8], [], none, [], []⟩)], loops := [(5, L5)], inl := [] } : Ctx)
theorem akf (K) (next) (x) : jq D (dz Tryz.f54 5) K next (S5 x) = P.bt8 x (fun x => next (S5 x)) (E5 K) := by kernel_rfl
theorem atq : ji D (dz Tryz.f54 5) := gy S5 atn (by kernel_rfl) P.b8p akf
theorem loops : d9 (Tryz.f54.body.getD .skip) = [dz Tryz.f54 5] := by kernel_rfl
noncomputable def bn : Abs.Spec := fun args K => match args with
 | [.agg [.v (.int .i64 b), .v (.int .i64 c), .v (.int .i64 d), .v (.int .i64 e), .v (.int .i64 f), .v (.bool a)], .sl (.ints .u8 g), .sl (.ints .u8 h), .arr .u8 32 i] => P.aa6 b c d e f a g h i (fun j => K (.sl (.ints .u8 j)))
 | _ => none
noncomputable def spec : Abs.Spec := fun args K => bn (oh [.any, .sl (.ints .u8 []), .sl (.ints .u8 []), .any] args) K
theorem ok0 : Proved Tryz.prog GLO.gx 54 bn := by
 refine dw (D := D) (fn := Tryz.f54) (c := Tryz.f54.body.getD .skip) [.sl (.ints .u8 [])] (by kernel_rfl) (bf (by kernel_rfl)) (by kernel_rfl) (by kernel_rfl) (by kernel_rfl) ⟨jm.ok, uz.ok, qx.ok, zy.ok, aeb.ok, trivial⟩ trivial ?_ ?_
 · rw [loops]; exact ⟨atq, trivial⟩
 · intro args K r h
   unfold bn at h
   split at h
   · rw [P.aq7] at h; exact Eq.trans (by kernel_rfl) h
   · cases h
theorem ok : Proved Tryz.prog GLO.gx 54 spec := eu _ ok0
end aa6

end
