/-
  XmssHypers, part 19: an interpreter of my own over abstract values, the pure functions, the walks and the plain law.
-/

import Derived.Test.YtjhnljhjpnjieaaGreatDoorXmssHypersI
import Derived.Test.YtjhnljhjpnjieaaGreatDoorXmssHypersG
import Derived.Test.YtjhnljhjpnjieaaGreatDoorProg
import Derived.Test.YtjhnljhjpnjieaaGreatDoorXmssHypersH
import Derived.Test.YtjhnljhjpnjieaaGreatDoorXmssHypersP
import Derived.KernelRfl
import Derived.Test.YtjhnljhjpnjieaaGreatDoorXmssHypersR
import Derived.Test.YtjhnljhjpnjieaaGreatDoorXmssHypersQ
import Derived.Test.YtjhnljhjpnjieaaGreatDoorXmssHypersJ

section
open Go Go.Abs Go.Proofs
set_option maxRecDepth 100000
set_option maxHeartbeats 0
set_option linter.unusedVariables false

namespace aau
noncomputable def D : Ctx := ({ P := Tryz.prog, G := [(44, ko.spec)], globs := GLO.gx, hints := [], loops := [], inl := [] } : Ctx)
theorem loops : d9 (Tryz.f71.body.getD .skip) = [] := by kernel_rfl
noncomputable def bn : Abs.Spec := fun args K => match args with
 | [.arr .u8 32 a] => P.aau a (fun b => K (.fr 5 (.ints .u8 b)))
 | _ => none
noncomputable def spec : Abs.Spec := bn
theorem ok0 : Proved Tryz.prog GLO.gx 71 bn := by
 refine dh (D := D) (fn := Tryz.f71) (c := Tryz.f71.body.getD .skip) [.fr 5 (.ints .u8 [])] (by kernel_rfl) (bf (by kernel_rfl)) (by kernel_rfl) (by kernel_rfl) (by kernel_rfl) ⟨ko.ok, trivial⟩ trivial ?_ ?_
 · rw [loops]; exact trivial
 · intro args K r h
   unfold bn at h
   split at h
   · rw [P.awc] at h; exact Eq.trans (by kernel_rfl) h
   · cases h
theorem ok : Proved Tryz.prog GLO.gx 71 spec := ok0
end aau

namespace aah
noncomputable def D : Ctx := ({ P := Tryz.prog, G := [(37, p8.spec), (44, ko.spec), (69, ai6.spec), (70, afl.spec), (71, aau.spec)], globs := GLO.gx, hints := [], loops := [], inl := [] } : Ctx)
theorem loops : d9 (Tryz.f41.body.getD .skip) = [] := by kernel_rfl
noncomputable def bn : Abs.Spec := fun args K => match args with
 | [.agg [.v (.int .i64 b), .v (.int .i64 c), .v (.int .i64 d), .v (.int .i64 e), .v (.int .i64 f), .v (.bool a)], .sl (.ints .u8 g), .arr .u8 32 h, .sl (.ints .u8 i)] => P.aah b c d e f a g h i (fun j => K (.sl (.ints .u8 j)))
 | _ => none
noncomputable def spec : Abs.Spec := fun args K => bn (og [.any, .sl (.ints .u8 []), .any, .sl (.ints .u8 [])] args) K
theorem ok0 : Proved Tryz.prog GLO.gx 41 bn := by
 refine dh (D := D) (fn := Tryz.f41) (c := Tryz.f41.body.getD .skip) [.sl (.ints .u8 [])] (by kernel_rfl) (bf (by kernel_rfl)) (by kernel_rfl) (by kernel_rfl) (by kernel_rfl) ⟨p8.ok, ko.ok, ai6.ok, afl.ok, aau.ok, trivial⟩ trivial ?_ ?_
 · rw [loops]; exact trivial
 · intro args K r h
   unfold bn at h
   split at h
   · rw [P.bcv] at h; exact Eq.trans (by kernel_rfl) h
   · cases h
theorem ok : Proved Tryz.prog GLO.gx 41 spec := eu _ ok0
end aah

namespace sw
abbrev X2 := P.bvs
def S2 : X2 → ASt := fun (i, j, k, h, a, b, c, d, e, f, g) => ⟨[(1, .sl (.ints .u8 i)), (3, .v (.int .u32 j)), (4, .sl (.ints .u8 k)), (6, .ptr 0 0), (11, .ptr 1 0), (13, .v (.int .u32 h))], [(0, some ⟨.box 23 [.v (.int .i64 a), .v (.int .i64 b), .v (.int .i64 c), .v (.int .i64 d), .v (.int .i64 e), .v (.bool f)], false⟩), (1, some ⟨.box 25 [.arr .u8 32 g], false⟩)], 2, 29⟩
def V2 : ASt → Option X2
 | ⟨[(1, .sl (.ints .u8 i)), (3, .v (.int .u32 j)), (4, .sl (.ints .u8 k)), (6, .ptr 0 0), (11, .ptr 1 0), (13, .v (.int .u32 h))], [(0, some ⟨.box 23 [.v (.int .i64 a), .v (.int .i64 b), .v (.int .i64 c), .v (.int .i64 d), .v (.int .i64 e), .v (.bool f)], false⟩), (1, some ⟨.box 25 [.arr .u8 32 g], false⟩)], 2, 29⟩ => some (i, j, k, h, a, b, c, d, e, f, g)
 | _ => none
theorem axf (st) (x) (h : V2 st = some x) : st = S2 x := by
 unfold V2 at h
 split at h
 · cases h; rfl
 · cases h
abbrev Y2 := P.b6r
def E2 (K : AExit → ASt → Option R) : Y2 → Option R := (fun x => K (.exit 0) (S2 x))
noncomputable def L2 : oz := fun st K => abx (V2 st) fun x => P.b98 x (E2 K)
noncomputable def D : Ctx := ({ P := Tryz.prog, G := [(41, aah.spec), (72, ji.spec)], globs := GLO.gx, hints := [(2, ⟨[1, 3, 4, 6, 11, 13], [], [12], [(1, .sl (.ints .u8 []))], none, [], []⟩)], loops := [(2, L2)], inl := [] } : Ctx)
theorem anm (K) (next) (x) : jo D (dz Tryz.f84 2) K next (S2 x) = P.bwz x (fun x => next (S2 x)) (E2 K) := by kernel_rfl
theorem azp : jl D (dz Tryz.f84 2) := gq S2 axf (by kernel_rfl) P.cb3 anm
theorem loops : d9 (Tryz.f84.body.getD .skip) = [dz Tryz.f84 2] := by kernel_rfl
noncomputable def bn : Abs.Spec := fun args K => match args with
 | [.agg [.v (.int .i64 b), .v (.int .i64 c), .v (.int .i64 d), .v (.int .i64 e), .v (.int .i64 f), .v (.bool a)], .sl (.ints .u8 g), .v (.int .u32 h), .v (.int .u32 i), .sl (.ints .u8 j), .arr .u8 32 k] => P.sw b c d e f a g h i j k (fun l => K (.sl (.ints .u8 l)))
 | _ => none
noncomputable def spec : Abs.Spec := fun args K => bn (og [.any, .sl (.ints .u8 []), .any, .any, .sl (.ints .u8 []), .any] args) K
theorem ok0 : Proved Tryz.prog GLO.gx 84 bn := by
 refine dh (D := D) (fn := Tryz.f84) (c := Tryz.f84.body.getD .skip) [.sl (.ints .u8 [])] (by kernel_rfl) (bf (by kernel_rfl)) (by kernel_rfl) (by kernel_rfl) (by kernel_rfl) ⟨aah.ok, ji.ok, trivial⟩ trivial ?_ ?_
 · rw [loops]; exact ⟨azp, trivial⟩
 · intro args K r h
   unfold bn at h
   split at h
   · rw [P.avf] at h; exact Eq.trans (by kernel_rfl) h
   · cases h
theorem ok : Proved Tryz.prog GLO.gx 84 spec := eu _ ok0
end sw

namespace abm
noncomputable def D : Ctx := ({ P := Tryz.prog, G := [(105, ad5.spec)], globs := GLO.gx, hints := [], loops := [], inl := [] } : Ctx)
theorem loops : d9 (Tryz.f109.body.getD .skip) = [] := by kernel_rfl
noncomputable def bn : Abs.Spec := fun args K => match args with
 | [.arr .u8 32 a] => P.abm a (fun b => K (.v (.int .u64 b)))
 | _ => none
noncomputable def spec : Abs.Spec := bn
theorem ok0 : Proved Tryz.prog GLO.gx 109 bn := by
 refine dh (D := D) (fn := Tryz.f109) (c := Tryz.f109.body.getD .skip) [.any] (by kernel_rfl) (bf (by kernel_rfl)) (by kernel_rfl) (by kernel_rfl) (by kernel_rfl) ⟨ad5.ok, trivial⟩ trivial ?_ ?_
 · rw [loops]; exact trivial
 · intro args K r h
   unfold bn at h
   split at h
   · rw [P.ays] at h; exact Eq.trans (by kernel_rfl) h
   · cases h
theorem ok : Proved Tryz.prog GLO.gx 109 spec := ok0
end abm

namespace aed
noncomputable def D : Ctx := ({ P := Tryz.prog, G := [(41, aah.spec), (44, ko.spec), (72, ji.spec), (109, abm.spec)], globs := GLO.gx, hints := [], loops := [], inl := [] } : Ctx)
theorem loops : d9 (Tryz.f86.body.getD .skip) = [] := by kernel_rfl
noncomputable def bn : Abs.Spec := fun args K => match args with
 | [.agg [.v (.int .i64 b), .v (.int .i64 c), .v (.int .i64 d), .v (.int .i64 e), .v (.int .i64 f), .v (.bool a)], .sl (.rows .u8 g), .sl (.ints .u8 h), .arr .u8 32 i] => P.aed b c d e f a g h i (fun j => K (.sl (.ints .u8 j)))
 | _ => none
noncomputable def spec : Abs.Spec := fun args K => bn (og [.any, .sl (.rows .u8 []), .sl (.ints .u8 []), .any] args) K
theorem ok0 : Proved Tryz.prog GLO.gx 86 bn := by
 refine dh (D := D) (fn := Tryz.f86) (c := Tryz.f86.body.getD .skip) [.sl (.ints .u8 [])] (by kernel_rfl) (bf (by kernel_rfl)) (by kernel_rfl) (by kernel_rfl) (by kernel_rfl) ⟨aah.ok, ko.ok, ji.ok, abm.ok, trivial⟩ trivial ?_ ?_
 · rw [loops]; exact trivial
 · intro args K r h
   unfold bn at h
   split at h
   · rw [P.bch] at h; exact Eq.trans (by kernel_rfl) h
   · cases h
theorem ok : Proved Tryz.prog GLO.gx 86 spec := eu _ ok0
end aed

namespace u7
noncomputable def D : Ctx := ({ P := Tryz.prog, G := [(37, p8.spec)], globs := GLO.gx, hints := [], loops := [], inl := [] } : Ctx)
theorem loops : d9 (Tryz.f83.body.getD .skip) = [] := by kernel_rfl
noncomputable def bn : Abs.Spec := fun args K => match args with
 | [.agg [.v (.int .i64 b), .v (.int .i64 c), .v (.int .i64 d), .v (.int .i64 e), .v (.int .i64 f), .v (.bool a)], .sl (.ints .u8 g), .sl (.ints .u8 h)] => P.u7 b c d e f a g h (fun i => K (.v (.bool i)))
 | _ => none
noncomputable def spec : Abs.Spec := fun args K => bn (og [.any, .sl (.ints .u8 []), .sl (.ints .u8 [])] args) K
theorem ok0 : Proved Tryz.prog GLO.gx 83 bn := by
 refine dh (D := D) (fn := Tryz.f83) (c := Tryz.f83.body.getD .skip) [.any] (by kernel_rfl) (bf (by kernel_rfl)) (by kernel_rfl) (by kernel_rfl) (by kernel_rfl) ⟨p8.ok, trivial⟩ trivial ?_ ?_
 · rw [loops]; exact trivial
 · intro args K r h
   unfold bn at h
   split at h
   · rw [P.avk] at h; exact Eq.trans (by kernel_rfl) h
   · cases h
theorem ok : Proved Tryz.prog GLO.gx 83 spec := eu _ ok0
end u7

namespace uy
abbrev X6 := P.bzz
def S6 : X6 → ASt := fun (i, j, h, k, a, b, c, d, e, f, g, l) => ⟨[(12, .own 3), (1, .sl (.ints .u8 i)), (3, .sl (.ints .u8 j)), (5, .ptr 0 0), (9, .ptr 1 0), (11, .own 2), (13, .v (.int .i64 h))], [(3, some ⟨.row 26 (.rows .u8 k), false⟩), (0, some ⟨.box 23 [.v (.int .i64 a), .v (.int .i64 b), .v (.int .i64 c), .v (.int .i64 d), .v (.int .i64 e), .v (.bool f)], false⟩), (1, some ⟨.box 25 [.arr .u8 32 g], false⟩), (2, some ⟨.row 64 (.ints .u32 l), false⟩)], 4, 72⟩
def V6 : ASt → Option X6
 | ⟨[(12, .own 3), (1, .sl (.ints .u8 i)), (3, .sl (.ints .u8 j)), (5, .ptr 0 0), (9, .ptr 1 0), (11, .own 2), (13, .v (.int .i64 h))], [(3, some ⟨.row 26 (.rows .u8 k), false⟩), (0, some ⟨.box 23 [.v (.int .i64 a), .v (.int .i64 b), .v (.int .i64 c), .v (.int .i64 d), .v (.int .i64 e), .v (.bool f)], false⟩), (1, some ⟨.box 25 [.arr .u8 32 g], false⟩), (2, some ⟨.row 64 (.ints .u32 l), false⟩)], 4, 72⟩ => some (i, j, h, k, a, b, c, d, e, f, g, l)
 | _ => none
theorem ail (st) (x) (h : V6 st = some x) : st = S6 x := by
 unfold V6 at h
 split at h
 · cases h; rfl
 · cases h
abbrev Y6 := P.car
def E6 (K : AExit → ASt → Option R) : Y6 → Option R := (fun x => K (.exit 0) (S6 x))
noncomputable def L6 : oz := fun st K => abx (V6 st) fun x => P.cau x (E6 K)
noncomputable def D : Ctx := ({ P := Tryz.prog, G := [(72, ji.spec), (83, u7.spec), (84, sw.spec), (86, aed.spec), (91, xk.spec)], globs := GLO.gx, hints := [(6, ⟨[1, 3, 5, 9, 11, 13], [(12, 26, .rows .u8 [])], [10], [], none, [], []⟩)], loops := [(6, L6)], inl := [] } : Ctx)
theorem adf (K) (next) (x) : jo D (dz Tryz.f62 6) K next (S6 x) = P.bwa x (fun x => next (S6 x)) (E6 K) := by kernel_rfl
theorem aif : jl D (dz Tryz.f62 6) := gq S6 ail (by kernel_rfl) P.cda adf
theorem loops : d9 (Tryz.f62.body.getD .skip) = [dz Tryz.f62 6] := by kernel_rfl
noncomputable def bn : Abs.Spec := fun args K => match args with
 | [.agg [.v (.int .i64 b), .v (.int .i64 c), .v (.int .i64 d), .v (.int .i64 e), .v (.int .i64 f), .v (.bool a)], .sl (.ints .u8 g), .sl (.ints .u8 h), .sl (.ints .u8 i), .arr .u8 32 j] => P.uy b c d e f a g h i j (fun k => K (.sl (.ints .u8 k)))
 | _ => none
noncomputable def spec : Abs.Spec := fun args K => bn (og [.any, .sl (.ints .u8 []), .sl (.ints .u8 []), .sl (.ints .u8 []), .any] args) K
theorem ok0 : Proved Tryz.prog GLO.gx 62 bn := by
 refine dh (D := D) (fn := Tryz.f62) (c := Tryz.f62.body.getD .skip) [.sl (.ints .u8 [])] (by kernel_rfl) (bf (by kernel_rfl)) (by kernel_rfl) (by kernel_rfl) (by kernel_rfl) ⟨ji.ok, u7.ok, sw.ok, aed.ok, xk.ok, trivial⟩ trivial ?_ ?_
 · rw [loops]; exact ⟨aif, trivial⟩
 · intro args K r h
   unfold bn at h
   split at h
   · rw [P.am0] at h; exact Eq.trans (by kernel_rfl) h
   · cases h
theorem ok : Proved Tryz.prog GLO.gx 62 spec := eu _ ok0
end uy

namespace aam
noncomputable def D : Ctx := ({ P := Tryz.prog, G := [(37, p8.spec)], globs := GLO.gx, hints := [], loops := [], inl := [] } : Ctx)
theorem loops : d9 (Tryz.f25.body.getD .skip) = [] := by kernel_rfl
noncomputable def bn : Abs.Spec := fun args K => match args with
 | [.agg [.v (.int .i64 b), .v (.int .i64 c), .v (.int .i64 d), .v (.int .i64 e), .v (.int .i64 f), .v (.bool a)]] => P.aam b c d e f a (fun g => K (.v (.int .i64 g)))
 | _ => none
noncomputable def spec : Abs.Spec := bn
theorem ok0 : Proved Tryz.prog GLO.gx 25 bn := by
 refine dh (D := D) (fn := Tryz.f25) (c := Tryz.f25.body.getD .skip) [.any] (by kernel_rfl) (bf (by kernel_rfl)) (by kernel_rfl) (by kernel_rfl) (by kernel_rfl) ⟨p8.ok, trivial⟩ trivial ?_ ?_
 · rw [loops]; exact trivial
 · intro args K r h
   unfold bn at h
   split at h
   · rw [P.ax3] at h; exact Eq.trans (by kernel_rfl) h
   · cases h
theorem ok : Proved Tryz.prog GLO.gx 25 spec := ok0
end aam

namespace aaw
noncomputable def D : Ctx := ({ P := Tryz.prog, G := [(41, aah.spec), (44, ko.spec), (72, ji.spec)], globs := GLO.gx, hints := [], loops := [], inl := [] } : Ctx)
theorem loops : d9 (Tryz.f56.body.getD .skip) = [] := by kernel_rfl
noncomputable def bn : Abs.Spec := fun args K => match args with
 | [.agg [.v (.int .i64 b), .v (.int .i64 c), .v (.int .i64 d), .v (.int .i64 e), .v (.int .i64 f), .v (.bool a)], .sl (.ints .u8 g), .arr .u8 32 h, .v (.int .i64 i), .v (.int .u64 j), .sl (.ints .u8 k), .sl (.ints .u8 l)] => P.aaw b c d e f a g h i j k l (fun m => K (.sl (.ints .u8 m)))
 | _ => none
noncomputable def spec : Abs.Spec := fun args K => bn (og [.any, .sl (.ints .u8 []), .any, .any, .any, .sl (.ints .u8 []), .sl (.ints .u8 [])] args) K
theorem ok0 : Proved Tryz.prog GLO.gx 56 bn := by
 refine dh (D := D) (fn := Tryz.f56) (c := Tryz.f56.body.getD .skip) [.sl (.ints .u8 [])] (by kernel_rfl) (bf (by kernel_rfl)) (by kernel_rfl) (by kernel_rfl) (by kernel_rfl) ⟨aah.ok, ko.ok, ji.ok, trivial⟩ trivial ?_ ?_
 · rw [loops]; exact trivial
 · intro args K r h
   unfold bn at h
   split at h
   · rw [P.azb] at h; exact Eq.trans (by kernel_rfl) h
   · cases h
theorem ok : Proved Tryz.prog GLO.gx 56 spec := eu _ ok0
end aaw

namespace zh
noncomputable def D : Ctx := ({ P := Tryz.prog, G := [(72, ji.spec)], globs := GLO.gx, hints := [], loops := [], inl := [] } : Ctx)
theorem loops : d9 (Tryz.f55.body.getD .skip) = [] := by kernel_rfl
noncomputable def bn : Abs.Spec := fun args K => match args with
 | [.arr .u8 32 a, .v (.int .u64 b)] => P.zh a b (fun c => K (.arr .u8 32 c))
 | _ => none
noncomputable def spec : Abs.Spec := bn
theorem ok0 : Proved Tryz.prog GLO.gx 55 bn := by
 refine dh (D := D) (fn := Tryz.f55) (c := Tryz.f55.body.getD .skip) [.any] (by kernel_rfl) (bf (by kernel_rfl)) (by kernel_rfl) (by kernel_rfl) (by kernel_rfl) ⟨ji.ok, trivial⟩ trivial ?_ ?_
 · rw [loops]; exact trivial
 · intro args K r h
   unfold bn at h
   split at h
   · rw [P.axp] at h; exact Eq.trans (by kernel_rfl) h
   · cases h
theorem ok : Proved Tryz.prog GLO.gx 55 spec := ok0
end zh

namespace pz
abbrev X6 := P.bxq
def S6 : X6 → ASt := fun (k, l, m, h, i, j, a, b, c, d, e, f, g) => ⟨[(1, .sl (.ints .u8 k)), (3, .sl (.ints .u8 l)), (5, .v (.int .u64 m)), (6, .ptr 0 0), (10, .ptr 1 0), (13, .v (.int .i64 h)), (14, .sl (.ints .u8 i)), (15, .v (.int .i64 j))], [(0, some ⟨.box 23 [.v (.int .i64 a), .v (.int .i64 b), .v (.int .i64 c), .v (.int .i64 d), .v (.int .i64 e), .v (.bool f)], false⟩), (1, some ⟨.box 25 [.arr .u8 32 g], false⟩)], 2, 124⟩
def V6 : ASt → Option X6
 | ⟨[(1, .sl (.ints .u8 k)), (3, .sl (.ints .u8 l)), (5, .v (.int .u64 m)), (6, .ptr 0 0), (10, .ptr 1 0), (13, .v (.int .i64 h)), (14, .sl (.ints .u8 i)), (15, .v (.int .i64 j))], [(0, some ⟨.box 23 [.v (.int .i64 a), .v (.int .i64 b), .v (.int .i64 c), .v (.int .i64 d), .v (.int .i64 e), .v (.bool f)], false⟩), (1, some ⟨.box 25 [.arr .u8 32 g], false⟩)], 2, 124⟩ => some (k, l, m, h, i, j, a, b, c, d, e, f, g)
 | _ => none
theorem ail (st) (x) (h : V6 st = some x) : st = S6 x := by
 unfold V6 at h
 split at h
 · cases h; rfl
 · cases h
abbrev Y6 := P.b6j
def E6 (K : AExit → ASt → Option R) : Y6 → Option R := (fun x => K (.exit 0) (S6 x))
noncomputable def L6 : oz := fun st K => abx (V6 st) fun x => P.b37 x (E6 K)
noncomputable def D : Ctx := ({ P := Tryz.prog, G := [(25, aam.spec), (37, p8.spec), (55, zh.spec), (56, aaw.spec), (62, uy.spec)], globs := GLO.gx, hints := [(6, ⟨[1, 3, 5, 6, 10, 13, 14, 15], [], [12], [(14, .sl (.ints .u8 []))], none, [], []⟩)], loops := [(6, L6)], inl := [] } : Ctx)
theorem adf (K) (next) (x) : jo D (dz Tryz.f31 6) K next (S6 x) = P.bx8 x (fun x => next (S6 x)) (E6 K) := by kernel_rfl
theorem aif : jl D (dz Tryz.f31 6) := gq S6 ail (by kernel_rfl) P.cd3 adf
theorem loops : d9 (Tryz.f31.body.getD .skip) = [dz Tryz.f31 6] := by kernel_rfl
noncomputable def bn : Abs.Spec := fun args K => match args with
 | [.agg [.v (.int .i64 b), .v (.int .i64 c), .v (.int .i64 d), .v (.int .i64 e), .v (.int .i64 f), .v (.bool a)], .sl (.ints .u8 g), .sl (.ints .u8 h), .sl (.ints .u8 i), .arr .u8 32 j, .v (.int .u64 k)] => P.pz b c d e f a g h i j k (fun l => K (.sl (.ints .u8 l)))
 | _ => none
noncomputable def spec : Abs.Spec := fun args K => bn (og [.any, .sl (.ints .u8 []), .sl (.ints .u8 []), .sl (.ints .u8 []), .any, .any] args) K
theorem ok0 : Proved Tryz.prog GLO.gx 31 bn := by
 refine dh (D := D) (fn := Tryz.f31) (c := Tryz.f31.body.getD .skip) [.sl (.ints .u8 [])] (by kernel_rfl) (bf (by kernel_rfl)) (by kernel_rfl) (by kernel_rfl) (by kernel_rfl) ⟨aam.ok, p8.ok, zh.ok, aaw.ok, uy.ok, trivial⟩ trivial ?_ ?_
 · rw [loops]; exact ⟨aif, trivial⟩
 · intro args K r h
   unfold bn at h
   split at h
   · rw [P.amz] at h; exact Eq.trans (by kernel_rfl) h
   · cases h
theorem ok : Proved Tryz.prog GLO.gx 31 spec := eu _ ok0
end pz

namespace ajh
noncomputable def D : Ctx := ({ P := Tryz.prog, G := [(41, aah.spec)], globs := GLO.gx, hints := [], loops := [], inl := [] } : Ctx)
theorem loops : d9 (Tryz.f74.body.getD .skip) = [] := by kernel_rfl
noncomputable def bn : Abs.Spec := fun args K => match args with
 | [.agg [.v (.int .i64 b), .v (.int .i64 c), .v (.int .i64 d), .v (.int .i64 e), .v (.int .i64 f), .v (.bool a)], .sl (.ints .u8 g), .sl (.ints .u8 h), .arr .u8 32 i] => P.ajh b c d e f a g h i (fun j => K (.sl (.ints .u8 j)))
 | _ => none
noncomputable def spec : Abs.Spec := fun args K => bn (og [.any, .sl (.ints .u8 []), .sl (.ints .u8 []), .any] args) K
theorem ok0 : Proved Tryz.prog GLO.gx 74 bn := by
 refine dh (D := D) (fn := Tryz.f74) (c := Tryz.f74.body.getD .skip) [.sl (.ints .u8 [])] (by kernel_rfl) (bf (by kernel_rfl)) (by kernel_rfl) (by kernel_rfl) (by kernel_rfl) ⟨aah.ok, trivial⟩ trivial ?_ ?_
 · rw [loops]; exact trivial
 · intro args K r h
   unfold bn at h
   split at h
   · rw [P.ayo] at h; exact Eq.trans (by kernel_rfl) h
   · cases h
theorem ok : Proved Tryz.prog GLO.gx 74 spec := eu _ ok0
end ajh

namespace aad
noncomputable def D : Ctx := ({ P := Tryz.prog, G := [(72, ji.spec), (74, ajh.spec), (109, abm.spec)], globs := GLO.gx, hints := [], loops := [], inl := [] } : Ctx)
theorem loops : d9 (Tryz.f85.body.getD .skip) = [] := by kernel_rfl
noncomputable def bn : Abs.Spec := fun args K => match args with
 | [.agg [.v (.int .i64 b), .v (.int .i64 c), .v (.int .i64 d), .v (.int .i64 e), .v (.int .i64 f), .v (.bool a)], .sl (.ints .u8 g), .sl (.ints .u8 h), .arr .u8 32 i, .v (.int .i64 j)] => P.aad b c d e f a g h i j (fun k => K (.sl (.ints .u8 k)))
 | _ => none
noncomputable def spec : Abs.Spec := fun args K => bn (og [.any, .sl (.ints .u8 []), .sl (.ints .u8 []), .any, .any] args) K
theorem ok0 : Proved Tryz.prog GLO.gx 85 bn := by
 refine dh (D := D) (fn := Tryz.f85) (c := Tryz.f85.body.getD .skip) [.sl (.ints .u8 [])] (by kernel_rfl) (bf (by kernel_rfl)) (by kernel_rfl) (by kernel_rfl) (by kernel_rfl) ⟨ji.ok, ajh.ok, abm.ok, trivial⟩ trivial ?_ ?_
 · rw [loops]; exact trivial
 · intro args K r h
   unfold bn at h
   split at h
   · rw [P.awj] at h; exact Eq.trans (by kernel_rfl) h
   · cases h
theorem ok : Proved Tryz.prog GLO.gx 85 spec := eu _ ok0
end aad

namespace aeu
abbrev X6 := P.bvr
def S6 : X6 → ASt := fun (i, j, h, k, a, b, c, d, e, f, g, l) => ⟨[(12, .own 3), (2, .sl (.ints .u8 i)), (3, .sl (.ints .u8 j)), (5, .ptr 0 0), (9, .ptr 1 0), (11, .own 2), (13, .v (.int .i64 h))], [(3, some ⟨.row 26 (.rows .u8 k), false⟩), (0, some ⟨.box 23 [.v (.int .i64 a), .v (.int .i64 b), .v (.int .i64 c), .v (.int .i64 d), .v (.int .i64 e), .v (.bool f)], false⟩), (1, some ⟨.box 25 [.arr .u8 32 g], false⟩), (2, some ⟨.row 64 (.ints .u32 l), false⟩)], 4, 57⟩
def V6 : ASt → Option X6
 | ⟨[(12, .own 3), (2, .sl (.ints .u8 i)), (3, .sl (.ints .u8 j)), (5, .ptr 0 0), (9, .ptr 1 0), (11, .own 2), (13, .v (.int .i64 h))], [(3, some ⟨.row 26 (.rows .u8 k), false⟩), (0, some ⟨.box 23 [.v (.int .i64 a), .v (.int .i64 b), .v (.int .i64 c), .v (.int .i64 d), .v (.int .i64 e), .v (.bool f)], false⟩), (1, some ⟨.box 25 [.arr .u8 32 g], false⟩), (2, some ⟨.row 64 (.ints .u32 l), false⟩)], 4, 57⟩ => some (i, j, h, k, a, b, c, d, e, f, g, l)
 | _ => none
theorem ail (st) (x) (h : V6 st = some x) : st = S6 x := by
 unfold V6 at h
 split at h
 · cases h; rfl
 · cases h
abbrev Y6 := P.b9m
def E6 (K : AExit → ASt → Option R) : Y6 → Option R := (fun x => K (.exit 0) (S6 x))
noncomputable def L6 : oz := fun st K => abx (V6 st) fun x => P.b8r x (E6 K)
noncomputable def D : Ctx := ({ P := Tryz.prog, G := [(44, ko.spec), (72, ji.spec), (83, u7.spec), (84, sw.spec), (85, aad.spec), (91, xk.spec)], globs := GLO.gx, hints := [(6, ⟨[2, 3, 5, 9, 11, 13], [(12, 26, .rows .u8 [])], [10], [], none, [], []⟩)], loops := [(6, L6)], inl := [] } : Ctx)
theorem adf (K) (next) (x) : jo D (dz Tryz.f59 6) K next (S6 x) = P.bzb x (fun x => next (S6 x)) (E6 K) := by kernel_rfl
theorem aif : jl D (dz Tryz.f59 6) := gq S6 ail (by kernel_rfl) P.cc3 adf
theorem loops : d9 (Tryz.f59.body.getD .skip) = [dz Tryz.f59 6] := by kernel_rfl
noncomputable def bn : Abs.Spec := fun args K => match args with
 | [.agg [.v (.int .i64 b), .v (.int .i64 c), .v (.int .i64 d), .v (.int .i64 e), .v (.int .i64 f), .v (.bool a)], .sl (.ints .u8 g), .sl (.ints .u8 h), .sl (.ints .u8 i), .arr .u8 32 j] => P.aeu b c d e f a g h i j (fun k => K (.fr 5 (.ints .u8 k)))
 | _ => none
noncomputable def spec : Abs.Spec := fun args K => bn (og [.any, .sl (.ints .u8 []), .sl (.ints .u8 []), .sl (.ints .u8 []), .any] args) K
theorem ok0 : Proved Tryz.prog GLO.gx 59 bn := by
 refine dh (D := D) (fn := Tryz.f59) (c := Tryz.f59.body.getD .skip) [.fr 5 (.ints .u8 [])] (by kernel_rfl) (bf (by kernel_rfl)) (by kernel_rfl) (by kernel_rfl) (by kernel_rfl) ⟨ko.ok, ji.ok, u7.ok, sw.ok, aad.ok, xk.ok, trivial⟩ trivial ?_ ?_
 · rw [loops]; exact ⟨aif, trivial⟩
 · intro args K r h
   unfold bn at h
   split at h
   · rw [P.az0] at h; exact Eq.trans (by kernel_rfl) h
   · cases h
theorem ok : Proved Tryz.prog GLO.gx 59 spec := eu _ ok0
end aeu

namespace aa7
abbrev X5 := P.bzv
def S5 : X5 → ASt := fun (i, j, h, k, a, b, c, d, e, f, g) => ⟨[(9, .own 2), (1, .sl (.ints .u8 i)), (2, .sl (.ints .u8 j)), (4, .ptr 0 0), (7, .ptr 1 0), (10, .v (.int .i64 h))], [(2, some ⟨.row 26 (.rows .u8 k), false⟩), (0, some ⟨.box 23 [.v (.int .i64 a), .v (.int .i64 b), .v (.int .i64 c), .v (.int .i64 d), .v (.int .i64 e), .v (.bool f)], false⟩), (1, some ⟨.box 25 [.arr .u8 32 g], false⟩)], 3, 44⟩
def V5 : ASt → Option X5
 | ⟨[(9, .own 2), (1, .sl (.ints .u8 i)), (2, .sl (.ints .u8 j)), (4, .ptr 0 0), (7, .ptr 1 0), (10, .v (.int .i64 h))], [(2, some ⟨.row 26 (.rows .u8 k), false⟩), (0, some ⟨.box 23 [.v (.int .i64 a), .v (.int .i64 b), .v (.int .i64 c), .v (.int .i64 d), .v (.int .i64 e), .v (.bool f)], false⟩), (1, some ⟨.box 25 [.arr .u8 32 g], false⟩)], 3, 44⟩ => some (i, j, h, k, a, b, c, d, e, f, g)
 | _ => none
theorem al9 (st) (x) (h : V5 st = some x) : st = S5 x := by
 unfold V5 at h
 split at h
 · cases h; rfl
 · cases h
abbrev Y5 := P.b5p
def E5 (K : AExit → ASt → Option R) : Y5 → Option R := (fun x => K (.exit 0) (S5 x))
noncomputable def L5 : oz := fun st K => abx (V5 st) fun x => P.b4q x (E5 K)
noncomputable def D : Ctx := ({ P := Tryz.prog, G := [(72, ji.spec), (83, u7.spec), (84, sw.spec), (85, aad.spec), (86, aed.spec)], globs := GLO.gx, hints := [(5, ⟨[1, 2, 4, 7, 10], [(9, 26, .rows .u8 [])], [8], [], none, [], []⟩)], loops := [(5, L5)], inl := [] } : Ctx)
theorem aey (K) (next) (x) : jo D (dz Tryz.f54 5) K next (S5 x) = P.byq x (fun x => next (S5 x)) (E5 K) := by kernel_rfl
theorem al6 : jl D (dz Tryz.f54 5) := gq S5 al9 (by kernel_rfl) P.ccj aey
theorem loops : d9 (Tryz.f54.body.getD .skip) = [dz Tryz.f54 5] := by kernel_rfl
noncomputable def bn : Abs.Spec := fun args K => match args with
 | [.agg [.v (.int .i64 b), .v (.int .i64 c), .v (.int .i64 d), .v (.int .i64 e), .v (.int .i64 f), .v (.bool a)], .sl (.ints .u8 g), .sl (.ints .u8 h), .arr .u8 32 i] => P.aa7 b c d e f a g h i (fun j => K (.sl (.ints .u8 j)))
 | _ => none
noncomputable def spec : Abs.Spec := fun args K => bn (og [.any, .sl (.ints .u8 []), .sl (.ints .u8 []), .any] args) K
theorem ok0 : Proved Tryz.prog GLO.gx 54 bn := by
 refine dh (D := D) (fn := Tryz.f54) (c := Tryz.f54.body.getD .skip) [.sl (.ints .u8 [])] (by kernel_rfl) (bf (by kernel_rfl)) (by kernel_rfl) (by kernel_rfl) (by kernel_rfl) ⟨ji.ok, u7.ok, sw.ok, aad.ok, aed.ok, trivial⟩ trivial ?_ ?_
 · rw [loops]; exact ⟨al6, trivial⟩
 · intro args K r h
   unfold bn at h
   split at h
   · rw [P.asu] at h; exact Eq.trans (by kernel_rfl) h
   · cases h
theorem ok : Proved Tryz.prog GLO.gx 54 spec := eu _ ok0
end aa7

end
