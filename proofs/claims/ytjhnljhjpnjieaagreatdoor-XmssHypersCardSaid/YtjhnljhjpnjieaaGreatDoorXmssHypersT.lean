/-
  XmssHypers, part 20: an interpreter of my own over abstract values, the pure functions, the walks and the plain law.
-/

import Derived.Test.YtjhnljhjpnjieaaGreatDoorXmssHypersI
import Derived.Test.YtjhnljhjpnjieaaGreatDoorXmssHypersG
import Derived.Test.YtjhnljhjpnjieaaGreatDoorProg
import Derived.Test.YtjhnljhjpnjieaaGreatDoorXmssHypersH
import Derived.Test.YtjhnljhjpnjieaaGreatDoorXmssHypersP
import Derived.Test.YtjhnljhjpnjieaaGreatDoorXmssHypersS
import Derived.KernelRfl
import Derived.Test.YtjhnljhjpnjieaaGreatDoorXmssHypersJ
import Derived.Test.YtjhnljhjpnjieaaGreatDoorXmssHypersQ
import Derived.Test.YtjhnljhjpnjieaaGreatDoorXmssHypersM
import Derived.Test.YtjhnljhjpnjieaaGreatDoorXmssHypersO

section
open Go Go.Abs Go.Proofs
set_option maxRecDepth 100000
set_option maxHeartbeats 0
set_option linter.unusedVariables false

namespace afj
abbrev X5 := P.bw3
def S5 : X5 → ASt := fun (i, j, k, l, h, m, a, b, c, d, e, f, g) => ⟨[(13, .own 2), (1, .sl (.ints .u8 i)), (2, .sl (.ints .u8 j)), (4, .v (.int .i64 k)), (5, .v (.int .u64 l)), (6, .ptr 0 0), (9, .ptr 1 0), (14, .v (.int .u64 h))], [(2, some ⟨.row 26 (.rows .u8 m), false⟩), (0, some ⟨.box 23 [.v (.int .i64 a), .v (.int .i64 b), .v (.int .i64 c), .v (.int .i64 d), .v (.int .i64 e), .v (.bool f)], false⟩), (1, some ⟨.box 25 [.arr .u8 32 g], false⟩)], 3, 123⟩
def V5 : ASt → Option X5
 | ⟨[(13, .own 2), (1, .sl (.ints .u8 i)), (2, .sl (.ints .u8 j)), (4, .v (.int .i64 k)), (5, .v (.int .u64 l)), (6, .ptr 0 0), (9, .ptr 1 0), (14, .v (.int .u64 h))], [(2, some ⟨.row 26 (.rows .u8 m), false⟩), (0, some ⟨.box 23 [.v (.int .i64 a), .v (.int .i64 b), .v (.int .i64 c), .v (.int .i64 d), .v (.int .i64 e), .v (.bool f)], false⟩), (1, some ⟨.box 25 [.arr .u8 32 g], false⟩)], 3, 123⟩ => some (i, j, k, l, h, m, a, b, c, d, e, f, g)
 | _ => none
theorem al9 (st) (x) (h : V5 st = some x) : st = S5 x := by
 unfold V5 at h
 split at h
 · cases h; rfl
 · cases h
abbrev Y5 := P.b7j
abbrev X13 := P.b0x
def S13 : X13 → ASt := fun (l, m, n, h, i, j, k, a, b, c, d, e, f, g) => ⟨[(16, .own 80), (2, .sl (.ints .u8 l)), (4, .v (.int .i64 m)), (5, .v (.int .u64 n)), (6, .ptr 0 0), (9, .ptr 1 0), (13, .sl (.rows .u8 h)), (15, .v (.int .i64 i)), (17, .v (.int .i64 j))], [(80, some ⟨.row 26 (.rows .u8 k), false⟩), (1, some ⟨.box 25 [.arr .u8 32 a], false⟩), (0, some ⟨.box 23 [.v (.int .i64 b), .v (.int .i64 c), .v (.int .i64 d), .v (.int .i64 e), .v (.int .i64 f), .v (.bool g)], false⟩)], 81, 123⟩
def V13 : ASt → Option X13
 | ⟨[(16, .own 80), (2, .sl (.ints .u8 l)), (4, .v (.int .i64 m)), (5, .v (.int .u64 n)), (6, .ptr 0 0), (9, .ptr 1 0), (13, .sl (.rows .u8 h)), (15, .v (.int .i64 i)), (17, .v (.int .i64 j))], [(80, some ⟨.row 26 (.rows .u8 k), false⟩), (1, some ⟨.box 25 [.arr .u8 32 a], false⟩), (0, some ⟨.box 23 [.v (.int .i64 b), .v (.int .i64 c), .v (.int .i64 d), .v (.int .i64 e), .v (.int .i64 f), .v (.bool g)], false⟩)], 81, 123⟩ => some (l, m, n, h, i, j, k, a, b, c, d, e, f, g)
 | _ => none
theorem by4 (st) (x) (h : V13 st = some x) : st = S13 x := by
 unfold V13 at h
 split at h
 · cases h; rfl
 · cases h
abbrev Y13 := P.b66
abbrev X9 := P.b0l
def S9 : X9 → ASt := fun (j, k, l, h, i, a, b, c, d, e, f, g) => ⟨[(2, .sl (.ints .u8 j)), (4, .v (.int .i64 k)), (5, .v (.int .u64 l)), (6, .ptr 0 0), (9, .ptr 1 0), (13, .sl (.rows .u8 h)), (15, .v (.int .i64 i))], [(0, some ⟨.box 23 [.v (.int .i64 a), .v (.int .i64 b), .v (.int .i64 c), .v (.int .i64 d), .v (.int .i64 e), .v (.bool f)], false⟩), (1, some ⟨.box 25 [.arr .u8 32 g], false⟩)], 80, 123⟩
def V9 : ASt → Option X9
 | ⟨[(2, .sl (.ints .u8 j)), (4, .v (.int .i64 k)), (5, .v (.int .u64 l)), (6, .ptr 0 0), (9, .ptr 1 0), (13, .sl (.rows .u8 h)), (15, .v (.int .i64 i))], [(0, some ⟨.box 23 [.v (.int .i64 a), .v (.int .i64 b), .v (.int .i64 c), .v (.int .i64 d), .v (.int .i64 e), .v (.bool f)], false⟩), (1, some ⟨.box 25 [.arr .u8 32 g], false⟩)], 80, 123⟩ => some (j, k, l, h, i, a, b, c, d, e, f, g)
 | _ => none
theorem bs1 (st) (x) (h : V9 st = some x) : st = S9 x := by
 unfold V9 at h
 split at h
 · cases h; rfl
 · cases h
abbrev Y9 := P.b9q
def E5 (K : AExit → ASt → Option R) : Y5 → Option R := (fun x => K (.exit 0) (S5 x))
noncomputable def L5 : oz := fun st K => abx (V5 st) fun x => P.b7g x (E5 K)
def E13 (K : AExit → ASt → Option R) : Y13 → Option R := (fun x => K (.exit 4) (S13 x))
noncomputable def L13 : oz := fun st K => abx (V13 st) fun x => P.b5i x (E13 K)
def E9 (K : AExit → ASt → Option R) : Y9 → Option R := (fun x => K (.exit 2) (S9 x))
noncomputable def L9 : oz := fun st K => abx (V9 st) fun x => P.b9i x (E9 K)
noncomputable def D : Ctx := ({ P := Tryz.prog, G := [(37, p8.spec), (54, aa7.spec), (55, zh.spec), (56, aaw.spec)], globs := GLO.gx, hints := [(13, ⟨[2, 4, 5, 6, 9, 13, 15, 17], [(16, 26, .rows .u8 [])], [12], [], none, [], []⟩), (9, ⟨[2, 4, 5, 6, 9, 13, 15], [], [12], [(13, .sl (.rows .u8 []))], some (80, [0, 1]), [], []⟩), (5, ⟨[1, 2, 4, 5, 6, 9, 14], [(13, 26, .rows .u8 [])], [12], [], none, [], []⟩)], loops := [(5, L5), (13, L13), (9, L9)], inl := [] } : Ctx)
theorem aey (K) (next) (x) : jo D (dz Tryz.f27 5) K next (S5 x) = P.b1a x (fun x => next (S5 x)) (E5 K) := by kernel_rfl
theorem al6 : jl D (dz Tryz.f27 5) := gq S5 al9 (by kernel_rfl) P.cc1 aey
theorem bsh (K) (next) (x) : jo D (dz Tryz.f27 13) K next (S13 x) = P.bvu x (fun x => next (S13 x)) (E13 K) := by kernel_rfl
theorem b0e : jl D (dz Tryz.f27 13) := gq S13 by4 (by kernel_rfl) P.cdp bsh
theorem bo0 (K) (next) (x) : jo D (dz Tryz.f27 9) K next (S9 x) = P.bwo x (fun x => next (S9 x)) (E9 K) := by kernel_rfl
theorem btx : jl D (dz Tryz.f27 9) := gq S9 bs1 (by kernel_rfl) P.cdt bo0
theorem loops : d9 (Tryz.f27.body.getD .skip) = [dz Tryz.f27 5, dz Tryz.f27 9, dz Tryz.f27 13] := by kernel_rfl
noncomputable def bn : Abs.Spec := fun args K => match args with
 | [.agg [.v (.int .i64 b), .v (.int .i64 c), .v (.int .i64 d), .v (.int .i64 e), .v (.int .i64 f), .v (.bool a)], .sl (.ints .u8 g), .sl (.ints .u8 h), .arr .u8 32 i, .v (.int .i64 j), .v (.int .u64 k)] => P.afj b c d e f a g h i j k (fun l => K (.sl (.ints .u8 l)))
 | _ => none
noncomputable def spec : Abs.Spec := fun args K => bn (og [.any, .sl (.ints .u8 []), .sl (.ints .u8 []), .any, .any, .any] args) K
theorem ok0 : Proved Tryz.prog GLO.gx 27 bn := by
 refine dh (D := D) (fn := Tryz.f27) (c := Tryz.f27.body.getD .skip) [.sl (.ints .u8 [])] (by kernel_rfl) (bf (by kernel_rfl)) (by kernel_rfl) (by kernel_rfl) (by kernel_rfl) ⟨p8.ok, aa7.ok, zh.ok, aaw.ok, trivial⟩ trivial ?_ ?_
 · rw [loops]; exact ⟨al6, btx, b0e, trivial⟩
 · intro args K r h
   unfold bn at h
   split at h
   · rw [P.azd] at h; exact Eq.trans (by kernel_rfl) h
   · cases h
theorem ok : Proved Tryz.prog GLO.gx 27 spec := eu _ ok0
end afj

namespace ae1
abbrev X5 := P.byn
def S5 : X5 → ASt := fun (j, k, l, h, i, a, b, c, d, e, f, g) => ⟨[(13, .own 40), (2, .sl (.ints .u8 j)), (3, .sl (.ints .u8 k)), (5, .v (.int .u64 l)), (6, .ptr 0 0), (10, .ptr 1 0), (14, .v (.int .i64 h))], [(40, some ⟨.row 26 (.rows .u8 i), false⟩), (0, some ⟨.box 23 [.v (.int .i64 a), .v (.int .i64 b), .v (.int .i64 c), .v (.int .i64 d), .v (.int .i64 e), .v (.bool f)], false⟩), (1, some ⟨.box 25 [.arr .u8 32 g], false⟩)], 41, 82⟩
def V5 : ASt → Option X5
 | ⟨[(13, .own 40), (2, .sl (.ints .u8 j)), (3, .sl (.ints .u8 k)), (5, .v (.int .u64 l)), (6, .ptr 0 0), (10, .ptr 1 0), (14, .v (.int .i64 h))], [(40, some ⟨.row 26 (.rows .u8 i), false⟩), (0, some ⟨.box 23 [.v (.int .i64 a), .v (.int .i64 b), .v (.int .i64 c), .v (.int .i64 d), .v (.int .i64 e), .v (.bool f)], false⟩), (1, some ⟨.box 25 [.arr .u8 32 g], false⟩)], 41, 82⟩ => some (j, k, l, h, i, a, b, c, d, e, f, g)
 | _ => none
theorem al9 (st) (x) (h : V5 st = some x) : st = S5 x := by
 unfold V5 at h
 split at h
 · cases h; rfl
 · cases h
abbrev Y5 := P.b9e
def E5 (K : AExit → ASt → Option R) : Y5 → Option R := (fun x => K (.exit 0) (S5 x))
noncomputable def L5 : oz := fun st K => abx (V5 st) fun x => P.b7y x (E5 K)
noncomputable def D : Ctx := ({ P := Tryz.prog, G := [(27, afj.spec), (37, p8.spec), (44, ko.spec), (55, zh.spec), (59, aeu.spec)], globs := GLO.gx, hints := [(5, ⟨[2, 3, 5, 6, 10, 14], [(13, 26, .rows .u8 [])], [12], [], some (40, [0, 1]), [], []⟩)], loops := [(5, L5)], inl := [] } : Ctx)
theorem aey (K) (next) (x) : jo D (dz Tryz.f29 5) K next (S5 x) = P.bvc x (fun x => next (S5 x)) (E5 K) := by kernel_rfl
theorem al6 : jl D (dz Tryz.f29 5) := gq S5 al9 (by kernel_rfl) P.cck aey
theorem loops : d9 (Tryz.f29.body.getD .skip) = [dz Tryz.f29 5] := by kernel_rfl
noncomputable def bn : Abs.Spec := fun args K => match args with
 | [.agg [.v (.int .i64 b), .v (.int .i64 c), .v (.int .i64 d), .v (.int .i64 e), .v (.int .i64 f), .v (.bool a)], .sl (.ints .u8 g), .sl (.ints .u8 h), .sl (.ints .u8 i), .arr .u8 32 j, .v (.int .u64 k)] => P.ae1 b c d e f a g h i j k (fun l => K (.fr 5 (.ints .u8 l)))
 | _ => none
noncomputable def spec : Abs.Spec := fun args K => bn (og [.any, .sl (.ints .u8 []), .sl (.ints .u8 []), .sl (.ints .u8 []), .any, .any] args) K
theorem ok0 : Proved Tryz.prog GLO.gx 29 bn := by
 refine dh (D := D) (fn := Tryz.f29) (c := Tryz.f29.body.getD .skip) [.fr 5 (.ints .u8 [])] (by kernel_rfl) (bf (by kernel_rfl)) (by kernel_rfl) (by kernel_rfl) (by kernel_rfl) ⟨afj.ok, p8.ok, ko.ok, zh.ok, aeu.ok, trivial⟩ trivial ?_ ?_
 · rw [loops]; exact ⟨al6, trivial⟩
 · intro args K r h
   unfold bn at h
   split at h
   · rw [P.azz] at h; exact Eq.trans (by kernel_rfl) h
   · cases h
theorem ok : Proved Tryz.prog GLO.gx 29 spec := eu _ ok0
end ae1

namespace z8
noncomputable def D : Ctx := ({ P := Tryz.prog, G := [(72, ji.spec)], globs := GLO.gx, hints := [], loops := [], inl := [] } : Ctx)
theorem loops : d9 (Tryz.f66.body.getD .skip) = [] := by kernel_rfl
noncomputable def bn : Abs.Spec := fun args K => match args with
 | [.v (.int .i64 a), .v (.int .u64 b)] => P.z8 a b (fun c => K (.arr .u8 32 c))
 | _ => none
noncomputable def spec : Abs.Spec := bn
theorem ok0 : Proved Tryz.prog GLO.gx 66 bn := by
 refine dh (D := D) (fn := Tryz.f66) (c := Tryz.f66.body.getD .skip) [.any] (by kernel_rfl) (bf (by kernel_rfl)) (by kernel_rfl) (by kernel_rfl) (by kernel_rfl) ⟨ji.ok, trivial⟩ trivial ?_ ?_
 · rw [loops]; exact trivial
 · intro args K r h
   unfold bn at h
   split at h
   · rw [P.avc] at h; exact Eq.trans (by kernel_rfl) h
   · cases h
theorem ok : Proved Tryz.prog GLO.gx 66 spec := ok0
end z8

namespace uh
noncomputable def D : Ctx := ({ P := Tryz.prog, G := [(37, p8.spec)], globs := GLO.gx, hints := [], loops := [], inl := [] } : Ctx)
theorem loops : d9 (Tryz.f65.body.getD .skip) = [] := by kernel_rfl
noncomputable def bn : Abs.Spec := fun args K => match args with
 | [.agg [.v (.int .i64 b), .v (.int .i64 c), .v (.int .i64 d), .v (.int .i64 e), .v (.int .i64 f), .v (.bool a)], .v (.int .u64 g), .v (.int .u64 h)] => P.uh b c d e f a g h (fun i => K (.v (.bool i)))
 | _ => none
noncomputable def spec : Abs.Spec := bn
theorem ok0 : Proved Tryz.prog GLO.gx 65 bn := by
 refine dh (D := D) (fn := Tryz.f65) (c := Tryz.f65.body.getD .skip) [.any] (by kernel_rfl) (bf (by kernel_rfl)) (by kernel_rfl) (by kernel_rfl) (by kernel_rfl) ⟨p8.ok, trivial⟩ trivial ?_ ?_
 · rw [loops]; exact trivial
 · intro args K r h
   unfold bn at h
   split at h
   · rw [P.axu] at h; exact Eq.trans (by kernel_rfl) h
   · cases h
theorem ok : Proved Tryz.prog GLO.gx 65 spec := ok0
end uh

namespace aby
abbrev X5 := P.bxk
def S5 : X5 → ASt := fun (h, i, j, k, l, g, m, a, b, c, d, e, f) => ⟨[(13, .own 1), (1, .sl (.ints .u8 h)), (2, .sl (.ints .u8 i)), (3, .sl (.ints .u8 j)), (4, .v (.int .u64 k)), (5, .v (.int .u64 l)), (6, .ptr 0 0), (14, .v (.int .i64 g))], [(1, some ⟨.row 26 (.rows .u8 m), false⟩), (0, some ⟨.box 23 [.v (.int .i64 a), .v (.int .i64 b), .v (.int .i64 c), .v (.int .i64 d), .v (.int .i64 e), .v (.bool f)], false⟩)], 2, 87⟩
def V5 : ASt → Option X5
 | ⟨[(13, .own 1), (1, .sl (.ints .u8 h)), (2, .sl (.ints .u8 i)), (3, .sl (.ints .u8 j)), (4, .v (.int .u64 k)), (5, .v (.int .u64 l)), (6, .ptr 0 0), (14, .v (.int .i64 g))], [(1, some ⟨.row 26 (.rows .u8 m), false⟩), (0, some ⟨.box 23 [.v (.int .i64 a), .v (.int .i64 b), .v (.int .i64 c), .v (.int .i64 d), .v (.int .i64 e), .v (.bool f)], false⟩)], 2, 87⟩ => some (h, i, j, k, l, g, m, a, b, c, d, e, f)
 | _ => none
theorem al9 (st) (x) (h : V5 st = some x) : st = S5 x := by
 unfold V5 at h
 split at h
 · cases h; rfl
 · cases h
abbrev Y5 := P.b94
def E5 (K : AExit → ASt → Option R) : Y5 → Option R := (fun x => K (.exit 0) (S5 x))
noncomputable def L5 : oz := fun st K => abx (V5 st) fun x => P.b4b x (E5 K)
noncomputable def D : Ctx := ({ P := Tryz.prog, G := [(29, ae1.spec), (31, pz.spec), (44, ko.spec), (65, uh.spec), (66, z8.spec)], globs := GLO.gx, hints := [(5, ⟨[1, 2, 3, 4, 5, 6, 14], [(13, 26, .rows .u8 [])], [12], [(1, .sl (.ints .u8 []))], none, [], []⟩)], loops := [(5, L5)], inl := [] } : Ctx)
theorem aey (K) (next) (x) : jo D (dz Tryz.f33 5) K next (S5 x) = P.b08 x (fun x => next (S5 x)) (E5 K) := by kernel_rfl
theorem al6 : jl D (dz Tryz.f33 5) := gq S5 al9 (by kernel_rfl) P.cdj aey
theorem loops : d9 (Tryz.f33.body.getD .skip) = [dz Tryz.f33 5] := by kernel_rfl
noncomputable def bn : Abs.Spec := fun args K => match args with
 | [.agg [.v (.int .i64 b), .v (.int .i64 c), .v (.int .i64 d), .v (.int .i64 e), .v (.int .i64 f), .v (.bool a)], .sl (.ints .u8 g), .sl (.ints .u8 h), .sl (.ints .u8 i), .v (.int .u64 j), .v (.int .u64 k)] => P.aby b c d e f a g h i j k (fun l => K (.fr 5 (.ints .u8 l)))
 | _ => none
noncomputable def spec : Abs.Spec := fun args K => bn (og [.any, .sl (.ints .u8 []), .sl (.ints .u8 []), .sl (.ints .u8 []), .any, .any] args) K
theorem ok0 : Proved Tryz.prog GLO.gx 33 bn := by
 refine dh (D := D) (fn := Tryz.f33) (c := Tryz.f33.body.getD .skip) [.fr 5 (.ints .u8 [])] (by kernel_rfl) (bf (by kernel_rfl)) (by kernel_rfl) (by kernel_rfl) (by kernel_rfl) ⟨ae1.ok, pz.ok, ko.ok, uh.ok, z8.ok, trivial⟩ trivial ?_ ?_
 · rw [loops]; exact ⟨al6, trivial⟩
 · intro args K r h
   unfold bn at h
   split at h
   · rw [P.aem] at h; exact Eq.trans (by kernel_rfl) h
   · cases h
theorem ok : Proved Tryz.prog GLO.gx 33 spec := eu _ ok0
end aby

namespace aas
abbrev X5 := P.bxh
def S5 : X5 → ASt := fun (i, j, k, l, m, n, g, h, a, b, c, d, e, f) => ⟨[(1, .sl (.ints .u8 i)), (2, .sl (.ints .u8 j)), (3, .sl (.ints .u8 k)), (4, .sl (.ints .u8 l)), (5, .v (.int .u64 m)), (6, .v (.int .u64 n)), (7, .ptr 0 0), (15, .v (.int .i64 g)), (16, .v (.int .i64 h))], [(0, some ⟨.box 23 [.v (.int .i64 a), .v (.int .i64 b), .v (.int .i64 c), .v (.int .i64 d), .v (.int .i64 e), .v (.bool f)], false⟩)], 1, 97⟩
def V5 : ASt → Option X5
 | ⟨[(1, .sl (.ints .u8 i)), (2, .sl (.ints .u8 j)), (3, .sl (.ints .u8 k)), (4, .sl (.ints .u8 l)), (5, .v (.int .u64 m)), (6, .v (.int .u64 n)), (7, .ptr 0 0), (15, .v (.int .i64 g)), (16, .v (.int .i64 h))], [(0, some ⟨.box 23 [.v (.int .i64 a), .v (.int .i64 b), .v (.int .i64 c), .v (.int .i64 d), .v (.int .i64 e), .v (.bool f)], false⟩)], 1, 97⟩ => some (i, j, k, l, m, n, g, h, a, b, c, d, e, f)
 | _ => none
theorem al9 (st) (x) (h : V5 st = some x) : st = S5 x := by
 unfold V5 at h
 split at h
 · cases h; rfl
 · cases h
abbrev Y5 := P.b9l
def E5 (K : AExit → ASt → Option R) : Y5 → Option R := (fun x => K (.exit 0) (S5 x))
noncomputable def L5 : oz := fun st K => abx (V5 st) fun x => P.b40 x (E5 K)
noncomputable def D : Ctx := ({ P := Tryz.prog, G := [(12, abq.spec), (25, aam.spec), (31, pz.spec), (65, uh.spec), (66, z8.spec)], globs := GLO.gx, hints := [(5, ⟨[1, 2, 3, 4, 5, 6, 7, 15, 16], [], [14], [(1, .sl (.ints .u8 []))], none, [], []⟩)], loops := [(5, L5)], inl := [] } : Ctx)
theorem aey (K) (next) (x) : jo D (dz Tryz.f35 5) K next (S5 x) = P.bzp x (fun x => next (S5 x)) (E5 K) := by kernel_rfl
theorem al6 : jl D (dz Tryz.f35 5) := gq S5 al9 (by kernel_rfl) P.ccw aey
theorem loops : d9 (Tryz.f35.body.getD .skip) = [dz Tryz.f35 5] := by kernel_rfl
noncomputable def bn : Abs.Spec := fun args K => match args with
 | [.agg [.v (.int .i64 b), .v (.int .i64 c), .v (.int .i64 d), .v (.int .i64 e), .v (.int .i64 f), .v (.bool a)], .sl (.ints .u8 g), .sl (.ints .u8 h), .sl (.ints .u8 i), .sl (.ints .u8 j), .v (.int .u64 k), .v (.int .u64 l)] => P.aas b c d e f a g h i j k l (fun m => K (.v (.bool m)))
 | _ => none
noncomputable def spec : Abs.Spec := fun args K => bn (og [.any, .sl (.ints .u8 []), .sl (.ints .u8 []), .sl (.ints .u8 []), .sl (.ints .u8 []), .any, .any] args) K
theorem ok0 : Proved Tryz.prog GLO.gx 35 bn := by
 refine dh (D := D) (fn := Tryz.f35) (c := Tryz.f35.body.getD .skip) [.any] (by kernel_rfl) (bf (by kernel_rfl)) (by kernel_rfl) (by kernel_rfl) (by kernel_rfl) ⟨abq.ok, aam.ok, pz.ok, uh.ok, z8.ok, trivial⟩ trivial ?_ ?_
 · rw [loops]; exact ⟨al6, trivial⟩
 · intro args K r h
   unfold bn at h
   split at h
   · rw [P.abv] at h; exact Eq.trans (by kernel_rfl) h
   · cases h
theorem ok : Proved Tryz.prog GLO.gx 35 spec := eu _ ok0
end aas

namespace adg
noncomputable def D : Ctx := ({ P := Tryz.prog, G := [], globs := GLO.gx, hints := [], loops := [], inl := [] } : Ctx)
theorem loops : d9 (Tryz.f107.body.getD .skip) = [] := by kernel_rfl
noncomputable def bn : Abs.Spec := fun args K => match args with
 | [.sl (.ints .u8 a), .v (.int .i64 b), .v (.int .i64 c)] => P.adg a b c (fun d => K (.v (.bool d)))
 | _ => none
noncomputable def spec : Abs.Spec := fun args K => bn (og [.sl (.ints .u8 []), .any, .any] args) K
theorem ok0 : Proved Tryz.prog GLO.gx 107 bn := by
 refine dh (D := D) (fn := Tryz.f107) (c := Tryz.f107.body.getD .skip) [.any] (by kernel_rfl) (bf (by kernel_rfl)) (by kernel_rfl) (by kernel_rfl) (by kernel_rfl) trivial trivial ?_ ?_
 · rw [loops]; exact trivial
 · intro args K r h
   unfold bn at h
   split at h
   · rw [P.awh] at h; exact Eq.trans (by kernel_rfl) h
   · cases h
theorem ok : Proved Tryz.prog GLO.gx 107 spec := eu _ ok0
end adg

namespace vw
abbrev X8 := P.bxj
def S8 : X8 → ASt := fun (d, e, f, g, a, b, c, h) => ⟨[(0, .sl (.ints .u8 d)), (1, .v (.int .i64 e)), (7, .own 0), (8, .v (.int .u64 f)), (9, .v (.int .i64 g)), (10, .v (.int .i64 a)), (19, .v (.int .i64 b)), (20, .v (.int .i64 c))], [(0, some ⟨.row 64 (.ints .u32 h), false⟩)], 1, 53⟩
def V8 : ASt → Option X8
 | ⟨[(0, .sl (.ints .u8 d)), (1, .v (.int .i64 e)), (7, .own 0), (8, .v (.int .u64 f)), (9, .v (.int .i64 g)), (10, .v (.int .i64 a)), (19, .v (.int .i64 b)), (20, .v (.int .i64 c))], [(0, some ⟨.row 64 (.ints .u32 h), false⟩)], 1, 53⟩ => some (d, e, f, g, a, b, c, h)
 | _ => none
theorem bht (st) (x) (h : V8 st = some x) : st = S8 x := by
 unfold V8 at h
 split at h
 · cases h; rfl
 · cases h
abbrev Y8 := P.b4t
abbrev X6 := P.by2
def S6 : X6 → ASt := fun (c, d, e, f, a, b, g) => ⟨[(0, .sl (.ints .u8 c)), (1, .v (.int .i64 d)), (7, .own 0), (8, .v (.int .u64 e)), (9, .v (.int .i64 f)), (19, .v (.int .i64 a)), (20, .v (.int .i64 b))], [(0, some ⟨.row 64 (.ints .u32 g), false⟩)], 1, 53⟩
def V6 : ASt → Option X6
 | ⟨[(0, .sl (.ints .u8 c)), (1, .v (.int .i64 d)), (7, .own 0), (8, .v (.int .u64 e)), (9, .v (.int .i64 f)), (19, .v (.int .i64 a)), (20, .v (.int .i64 b))], [(0, some ⟨.row 64 (.ints .u32 g), false⟩)], 1, 53⟩ => some (c, d, e, f, a, b, g)
 | _ => none
theorem ail (st) (x) (h : V6 st = some x) : st = S6 x := by
 unfold V6 at h
 split at h
 · cases h; rfl
 · cases h
abbrev Y6 := P.b4r
def E8 (K : AExit → ASt → Option R) : Y8 → Option R := (fun x => K (.exit 2) (S8 x))
noncomputable def L8 : oz := fun st K => abx (V8 st) fun x => P.b6l x (E8 K)
def E6 (K : AExit → ASt → Option R) : Y6 → Option R := (fun x => K (.exit 0) (S6 x))
noncomputable def L6 : oz := fun st K => abx (V6 st) fun x => P.b69 x (E6 K)
noncomputable def D : Ctx := ({ P := Tryz.prog, G := [(107, adg.spec)], globs := GLO.gx, hints := [(8, ⟨[0, 1, 7, 8, 9, 10, 19, 20], [], [6], [(0, .sl (.ints .u8 []))], none, [], []⟩), (6, ⟨[0, 1, 7, 8, 9, 19, 20], [], [6], [(0, .sl (.ints .u8 []))], none, [], []⟩)], loops := [(8, L8), (6, L6)], inl := [] } : Ctx)
theorem azu (K) (next) (x) : jo D (dz Tryz.f78 8) K next (S8 x) = P.bx7 x (fun x => next (S8 x)) (E8 K) := by kernel_rfl
theorem bhr : jl D (dz Tryz.f78 8) := gq S8 bht (by kernel_rfl) P.cdm azu
theorem adf (K) (next) (x) : jo D (dz Tryz.f78 6) K next (S6 x) = P.bv7 x (fun x => next (S6 x)) (E6 K) := by kernel_rfl
theorem aif : jl D (dz Tryz.f78 6) := gq S6 ail (by kernel_rfl) P.cd7 adf
theorem loops : d9 (Tryz.f78.body.getD .skip) = [dz Tryz.f78 6, dz Tryz.f78 8] := by kernel_rfl
noncomputable def bn : Abs.Spec := fun args K => match args with
 | [.sl (.ints .u8 a), .v (.int .i64 b), .v (.int .i64 c)] => P.vw a b c (fun d => K (.fr 64 (.ints .u32 d)))
 | _ => none
noncomputable def spec : Abs.Spec := fun args K => bn (og [.sl (.ints .u8 []), .any, .any] args) K
theorem ok0 : Proved Tryz.prog GLO.gx 78 bn := by
 refine dh (D := D) (fn := Tryz.f78) (c := Tryz.f78.body.getD .skip) [.fr 64 (.ints .u32 [])] (by kernel_rfl) (bf (by kernel_rfl)) (by kernel_rfl) (by kernel_rfl) (by kernel_rfl) ⟨adg.ok, trivial⟩ trivial ?_ ?_
 · rw [loops]; exact ⟨aif, bhr, trivial⟩
 · intro args K r h
   unfold bn at h
   split at h
   · rw [P.ap8] at h; exact Eq.trans (by kernel_rfl) h
   · cases h
theorem ok : Proved Tryz.prog GLO.gx 78 spec := eu _ ok0
end vw

namespace ug
abbrev X6 := P.bvv
def S6 : X6 → ASt := fun (c, a, b, d) => ⟨[(5, .own 0), (6, .v (.int .u32 c)), (33, .own 0), (34, .v (.int .i64 a)), (35, .v (.int .i64 b))], [(0, some ⟨.row 64 (.ints .u32 d), false⟩)], 1, 53⟩
def V6 : ASt → Option X6
 | ⟨[(5, .own 0), (6, .v (.int .u32 c)), (33, .own 0), (34, .v (.int .i64 a)), (35, .v (.int .i64 b))], [(0, some ⟨.row 64 (.ints .u32 d), false⟩)], 1, 53⟩ => some (c, a, b, d)
 | _ => none
theorem ail (st) (x) (h : V6 st = some x) : st = S6 x := by
 unfold V6 at h
 split at h
 · cases h; rfl
 · cases h
abbrev Y6 := P.b5x
def E6 (K : AExit → ASt → Option R) : Y6 → Option R := (fun x => K (.exit 0) (S6 x))
noncomputable def L6 : oz := fun st K => abx (V6 st) fun x => P.cax x (E6 K)
noncomputable def D : Ctx := ({ P := Tryz.prog, G := [(78, vw.spec)], globs := GLO.gx, hints := [(6, ⟨[5, 6, 33, 34, 35], [], [4], [], none, [], []⟩)], loops := [(6, L6)], inl := [] } : Ctx)
theorem adf (K) (next) (x) : jo D (dz Tryz.f88 6) K next (S6 x) = P.bzw x (fun x => next (S6 x)) (E6 K) := by kernel_rfl
theorem aif : jl D (dz Tryz.f88 6) := gq S6 ail (by kernel_rfl) P.cdu adf
theorem loops : d9 (Tryz.f88.body.getD .skip) = [dz Tryz.f88 6] := by kernel_rfl
noncomputable def bn : Abs.Spec := fun args K => match args with
 | [.v (.int .i64 a), .sl (.ints .u8 b)] => P.ug a b (fun c => K (.fr 64 (.ints .u32 c)))
 | _ => none
noncomputable def spec : Abs.Spec := fun args K => bn (og [.any, .sl (.ints .u8 [])] args) K
theorem ok0 : Proved Tryz.prog GLO.gx 88 bn := by
 refine dh (D := D) (fn := Tryz.f88) (c := Tryz.f88.body.getD .skip) [.fr 64 (.ints .u32 [])] (by kernel_rfl) (bf (by kernel_rfl)) (by kernel_rfl) (by kernel_rfl) (by kernel_rfl) ⟨vw.ok, trivial⟩ trivial ?_ ?_
 · rw [loops]; exact ⟨aif, trivial⟩
 · intro args K r h
   unfold bn at h
   split at h
   · rw [P.apr] at h; exact Eq.trans (by kernel_rfl) h
   · cases h
theorem ok : Proved Tryz.prog GLO.gx 88 spec := eu _ ok0
end ug

namespace sj
abbrev X6 := P.bzn
def S6 : X6 → ASt := fun (I, G, H, J, o, p, q, r, s, t, u, w, y, z, A, B, C, F, a, b, c, d, e, f, g, h, i, j, k, l, m, n, M) => ⟨[(13, .own 4), (1, .sl (.ints .u8 I)), (5, .ptr 0 0), (9, .ptr 1 0), (11, .ptr 2 0), (44, .own 3), (45, .v (.int .i64 G)), (46, .v (.int .i64 H))], [(4, some ⟨.row 5 (.ints .u8 J), false⟩), (0, some ⟨.box 23 [.v (.int .i64 o), .v (.int .i64 p), .v (.int .i64 q), .v (.int .i64 r), .v (.int .i64 s), .v (.bool t)], false⟩), (1, some ⟨.box 25 [.arr .u8 32 u], false⟩), (2, some ⟨.box 97 [.v (.int .i64 w), .v (.int .i64 y), .v (.int .i64 z), .v (.int .i64 A), .v (.int .i64 B), .v (.bool C), .alt F (.func 123) [] [.sta [.v (.int .i64 a), .arr .u64 25 b, .v (.int .i64 c), .v (.bool d)], .sta [.v (.int .i64 e)]] (.func 126) [] [.sta [.v (.int .i64 f), .arr .u64 8 g, .sl (.ints .u8 h), .v (.int .u64 i)], .sta [.v (.int .i64 j)], .sta [.v (.int .i64 k), .arr .u64 8 l, .sl (.ints .u8 m), .v (.int .u64 n)]]], false⟩), (3, some ⟨.row 64 (.ints .u32 M), false⟩)], 5, 73⟩
def V6 : ASt → Option X6
 | ⟨[(13, .own 4), (1, .sl (.ints .u8 I)), (5, .ptr 0 0), (9, .ptr 1 0), (11, .ptr 2 0), (44, .own 3), (45, .v (.int .i64 G)), (46, .v (.int .i64 H))], [(4, some ⟨.row 5 (.ints .u8 J), false⟩), (0, some ⟨.box 23 [.v (.int .i64 o), .v (.int .i64 p), .v (.int .i64 q), .v (.int .i64 r), .v (.int .i64 s), .v (.bool t)], false⟩), (1, some ⟨.box 25 [.arr .u8 32 u], false⟩), (2, some ⟨.box 97 [.v (.int .i64 w), .v (.int .i64 y), .v (.int .i64 z), .v (.int .i64 A), .v (.int .i64 B), .v (.bool C), .alt F (.func 123) [] [.sta [.v (.int .i64 a), .arr .u64 25 b, .v (.int .i64 c), .v (.bool d)], .sta [.v (.int .i64 e)]] (.func 126) [] [.sta [.v (.int .i64 f), .arr .u64 8 g, .sl (.ints .u8 h), .v (.int .u64 i)], .sta [.v (.int .i64 j)], .sta [.v (.int .i64 k), .arr .u64 8 l, .sl (.ints .u8 m), .v (.int .u64 n)]]], false⟩), (3, some ⟨.row 64 (.ints .u32 M), false⟩)], 5, 73⟩ => some (I, G, H, J, o, p, q, r, s, t, u, w, y, z, A, B, C, F, a, b, c, d, e, f, g, h, i, j, k, l, m, n, M)
 | _ => none
theorem ail (st) (x) (h : V6 st = some x) : st = S6 x := by
 unfold V6 at h
 split at h
 · cases h; rfl
 · cases h
abbrev Y6 := P.cbh
def E6 (K : AExit → ASt → Option R) : Y6 → Option R := (fun x => K (.exit 0) (S6 x))
noncomputable def L6 : oz := fun st K => abx (V6 st) fun x => P.b9r x (E6 K)
noncomputable def D : Ctx := ({ P := Tryz.prog, G := [(80, ig.spec), (87, qy.spec), (88, ug.spec), (89, kr.spec), (92, nk.spec), (93, qd.spec)], globs := GLO.gx, hints := [(6, ⟨[1, 5, 9, 11, 44, 45, 46], [(13, 5, .ints .u8 [])], [10], [(1, .sl (.ints .u8 []))], none, [], []⟩)], loops := [(6, L6)], inl := [] } : Ctx)
theorem adf (K) (next) (x) : jo D (dz Tryz.f60 6) K next (S6 x) = P.bzf x (fun x => next (S6 x)) (E6 K) := by kernel_rfl
theorem aif : jl D (dz Tryz.f60 6) := gq S6 ail (by kernel_rfl) P.cc4 adf
theorem loops : d9 (Tryz.f60.body.getD .skip) = [dz Tryz.f60 6] := by kernel_rfl
noncomputable def bn : Abs.Spec := fun args K => match args with
 | [.agg [.v (.int .i64 b), .v (.int .i64 c), .v (.int .i64 d), .v (.int .i64 e), .v (.int .i64 f), .v (.bool a)], .sl (.ints .u8 g), .sl (.ints .u8 h), .sl (.ints .u8 i), .arr .u8 32 j] => P.sj b c d e f a g h i j (fun k => K (.sl (.ints .u8 k)))
 | _ => none
noncomputable def spec : Abs.Spec := fun args K => bn (og [.any, .sl (.ints .u8 []), .sl (.ints .u8 []), .sl (.ints .u8 []), .any] args) K
theorem ok0 : Proved Tryz.prog GLO.gx 60 bn := by
 refine dh (D := D) (fn := Tryz.f60) (c := Tryz.f60.body.getD .skip) [.sl (.ints .u8 [])] (by kernel_rfl) (bf (by kernel_rfl)) (by kernel_rfl) (by kernel_rfl) (by kernel_rfl) ⟨ig.ok, qy.ok, ug.ok, kr.ok, nk.ok, qd.ok, trivial⟩ trivial ?_ ?_
 · rw [loops]; exact ⟨aif, trivial⟩
 · intro args K r h
   unfold bn at h
   split at h
   · rw [P.ak5] at h; exact Eq.trans (by kernel_rfl) h
   · cases h
theorem ok : Proved Tryz.prog GLO.gx 60 spec := eu _ ok0
end sj

end
