/-
  XmssGrows, part 20: an interpreter of my own over abstract values, the pure functions, the walks and the plain law.
-/

import Derived.Test.YtjhnljhjpnjieaaGreatDoorXmssGrowsI
import Derived.Test.YtjhnljhjpnjieaaGreatDoorXmssGrowsG
import Derived.Test.YtjhnljhjpnjieaaGreatDoorProg
import Derived.Test.YtjhnljhjpnjieaaGreatDoorXmssGrowsH
import Derived.Test.YtjhnljhjpnjieaaGreatDoorXmssGrowsP
import Derived.Test.YtjhnljhjpnjieaaGreatDoorXmssGrowsS
import Derived.KernelRfl
import Derived.Test.YtjhnljhjpnjieaaGreatDoorXmssGrowsQ
import Derived.Test.YtjhnljhjpnjieaaGreatDoorXmssGrowsM
import Derived.Test.YtjhnljhjpnjieaaGreatDoorXmssGrowsO
import Derived.Test.YtjhnljhjpnjieaaGreatDoorXmssGrowsK

section
open Go Go.Abs Go.Proofs
set_option maxRecDepth 100000
set_option maxHeartbeats 0
set_option linter.unusedVariables false

namespace aaz
abbrev X5 := P.bxr
def S5 : X5 → ASt := fun (i, j, k, l, h, m, a, b, c, d, e, f, g) => ⟨[(13, .own 2), (1, .sl (.ints .u8 i)), (2, .sl (.ints .u8 j)), (4, .v (.int .i64 k)), (5, .v (.int .u64 l)), (6, .ptr 0 0), (9, .ptr 1 0), (14, .v (.int .u64 h))], [(2, some ⟨.row 26 (.rows .u8 m), false⟩), (0, some ⟨.box 23 [.v (.int .i64 a), .v (.int .i64 b), .v (.int .i64 c), .v (.int .i64 d), .v (.int .i64 e), .v (.bool f)], false⟩), (1, some ⟨.box 25 [.arr .u8 32 g], false⟩)], 3, 123⟩
def V5 : ASt → Option X5
 | ⟨[(13, .own 2), (1, .sl (.ints .u8 i)), (2, .sl (.ints .u8 j)), (4, .v (.int .i64 k)), (5, .v (.int .u64 l)), (6, .ptr 0 0), (9, .ptr 1 0), (14, .v (.int .u64 h))], [(2, some ⟨.row 26 (.rows .u8 m), false⟩), (0, some ⟨.box 23 [.v (.int .i64 a), .v (.int .i64 b), .v (.int .i64 c), .v (.int .i64 d), .v (.int .i64 e), .v (.bool f)], false⟩), (1, some ⟨.box 25 [.arr .u8 32 g], false⟩)], 3, 123⟩ => some (i, j, k, l, h, m, a, b, c, d, e, f, g)
 | _ => none
theorem atn (st) (x) (h : V5 st = some x) : st = S5 x := by
 unfold V5 at h
 split at h
 · cases h; rfl
 · cases h
abbrev Y5 := P.b6e
abbrev X13 := P.bv1
def S13 : X13 → ASt := fun (l, m, n, h, i, j, k, a, b, c, d, e, f, g) => ⟨[(16, .own 80), (2, .sl (.ints .u8 l)), (4, .v (.int .i64 m)), (5, .v (.int .u64 n)), (6, .ptr 0 0), (9, .ptr 1 0), (13, .sl (.rows .u8 h)), (15, .v (.int .i64 i)), (17, .v (.int .i64 j))], [(80, some ⟨.row 26 (.rows .u8 k), false⟩), (1, some ⟨.box 25 [.arr .u8 32 a], false⟩), (0, some ⟨.box 23 [.v (.int .i64 b), .v (.int .i64 c), .v (.int .i64 d), .v (.int .i64 e), .v (.int .i64 f), .v (.bool g)], false⟩)], 81, 123⟩
def V13 : ASt → Option X13
 | ⟨[(16, .own 80), (2, .sl (.ints .u8 l)), (4, .v (.int .i64 m)), (5, .v (.int .u64 n)), (6, .ptr 0 0), (9, .ptr 1 0), (13, .sl (.rows .u8 h)), (15, .v (.int .i64 i)), (17, .v (.int .i64 j))], [(80, some ⟨.row 26 (.rows .u8 k), false⟩), (1, some ⟨.box 25 [.arr .u8 32 a], false⟩), (0, some ⟨.box 23 [.v (.int .i64 b), .v (.int .i64 c), .v (.int .i64 d), .v (.int .i64 e), .v (.int .i64 f), .v (.bool g)], false⟩)], 81, 123⟩ => some (l, m, n, h, i, j, k, a, b, c, d, e, f, g)
 | _ => none
theorem buk (st) (x) (h : V13 st = some x) : st = S13 x := by
 unfold V13 at h
 split at h
 · cases h; rfl
 · cases h
abbrev Y13 := P.b24
abbrev X9 := P.bxg
def S9 : X9 → ASt := fun (j, k, l, h, i, a, b, c, d, e, f, g) => ⟨[(2, .sl (.ints .u8 j)), (4, .v (.int .i64 k)), (5, .v (.int .u64 l)), (6, .ptr 0 0), (9, .ptr 1 0), (13, .sl (.rows .u8 h)), (15, .v (.int .i64 i))], [(0, some ⟨.box 23 [.v (.int .i64 a), .v (.int .i64 b), .v (.int .i64 c), .v (.int .i64 d), .v (.int .i64 e), .v (.bool f)], false⟩), (1, some ⟨.box 25 [.arr .u8 32 g], false⟩)], 80, 123⟩
def V9 : ASt → Option X9
 | ⟨[(2, .sl (.ints .u8 j)), (4, .v (.int .i64 k)), (5, .v (.int .u64 l)), (6, .ptr 0 0), (9, .ptr 1 0), (13, .sl (.rows .u8 h)), (15, .v (.int .i64 i))], [(0, some ⟨.box 23 [.v (.int .i64 a), .v (.int .i64 b), .v (.int .i64 c), .v (.int .i64 d), .v (.int .i64 e), .v (.bool f)], false⟩), (1, some ⟨.box 25 [.arr .u8 32 g], false⟩)], 80, 123⟩ => some (j, k, l, h, i, a, b, c, d, e, f, g)
 | _ => none
theorem bq0 (st) (x) (h : V9 st = some x) : st = S9 x := by
 unfold V9 at h
 split at h
 · cases h; rfl
 · cases h
abbrev Y9 := P.b36
def E5 (K : AExit → ASt → Option R) : Y5 → Option R := (fun x => K (.exit 0) (S5 x))
noncomputable def L5 : p8 := fun st K => acg (V5 st) fun x => P.b4a x (E5 K)
def E13 (K : AExit → ASt → Option R) : Y13 → Option R := (fun x => K (.exit 4) (S13 x))
noncomputable def L13 : p8 := fun st K => acg (V13 st) fun x => P.b5o x (E13 K)
def E9 (K : AExit → ASt → Option R) : Y9 → Option R := (fun x => K (.exit 2) (S9 x))
noncomputable def L9 : p8 := fun st K => acg (V9 st) fun x => P.b7y x (E9 K)
noncomputable def D : Ctx := ({ P := Tryz.prog, G := [(37, mh.spec), (54, aa6.spec), (55, za.spec), (56, aat.spec)], globs := GLO.gx, hints := [(13, ⟨[2, 4, 5, 6, 9, 13, 15, 17], [(16, 26, .rows .u8 [])], [12], [], none, [], []⟩), (9, ⟨[2, 4, 5, 6, 9, 13, 15], [], [12], [(13, .sl (.rows .u8 []))], some (80, [0, 1]), [], []⟩), (5, ⟨[1, 2, 4, 5, 6, 9, 14], [(13, 26, .rows .u8 [])], [12], [], none, [], []⟩)], loops := [(5, L5), (13, L13), (9, L9)], inl := [] } : Ctx)
theorem akf (K) (next) (x) : jq D (dz Tryz.f27 5) K next (S5 x) = P.buz x (fun x => next (S5 x)) (E5 K) := by kernel_rfl
theorem atq : ji D (dz Tryz.f27 5) := gy S5 atn (by kernel_rfl) P.cah akf
theorem bqf (K) (next) (x) : jq D (dz Tryz.f27 13) K next (S13 x) = P.bxw x (fun x => next (S13 x)) (E13 K) := by kernel_rfl
theorem bt6 : ji D (dz Tryz.f27 13) := gy S13 buk (by kernel_rfl) P.b9i bqf
theorem bks (K) (next) (x) : jq D (dz Tryz.f27 9) K next (S9 x) = P.bwx x (fun x => next (S9 x)) (E9 K) := by kernel_rfl
theorem bro : ji D (dz Tryz.f27 9) := gy S9 bq0 (by kernel_rfl) P.b8z bks
theorem loops : d9 (Tryz.f27.body.getD .skip) = [dz Tryz.f27 5, dz Tryz.f27 9, dz Tryz.f27 13] := by kernel_rfl
noncomputable def bn : Abs.Spec := fun args K => match args with
 | [.agg [.v (.int .i64 b), .v (.int .i64 c), .v (.int .i64 d), .v (.int .i64 e), .v (.int .i64 f), .v (.bool a)], .sl (.ints .u8 g), .sl (.ints .u8 h), .arr .u8 32 i, .v (.int .i64 j), .v (.int .u64 k)] => P.aaz b c d e f a g h i j k (fun l => K (.sl (.ints .u8 l)))
 | _ => none
noncomputable def spec : Abs.Spec := fun args K => bn (oh [.any, .sl (.ints .u8 []), .sl (.ints .u8 []), .any, .any, .any] args) K
theorem ok0 : Proved Tryz.prog GLO.gx 27 bn := by
 refine dw (D := D) (fn := Tryz.f27) (c := Tryz.f27.body.getD .skip) [.sl (.ints .u8 [])] (by kernel_rfl) (bf (by kernel_rfl)) (by kernel_rfl) (by kernel_rfl) (by kernel_rfl) ⟨mh.ok, aa6.ok, za.ok, aat.ok, trivial⟩ trivial ?_ ?_
 · rw [loops]; exact ⟨atq, bro, bt6, trivial⟩
 · intro args K r h
   unfold bn at h
   split at h
   · rw [P.ad9] at h; exact Eq.trans (by kernel_rfl) h
   · cases h
theorem ok : Proved Tryz.prog GLO.gx 27 spec := eu _ ok0
end aaz

namespace ae0
abbrev X6 := P.bxd
def S6 : X6 → ASt := fun (i, j, h, k, a, b, c, d, e, f, g, l) => ⟨[(12, .own 3), (2, .sl (.ints .u8 i)), (3, .sl (.ints .u8 j)), (5, .ptr 0 0), (9, .ptr 1 0), (11, .own 2), (13, .v (.int .i64 h))], [(3, some ⟨.row 26 (.rows .u8 k), false⟩), (0, some ⟨.box 23 [.v (.int .i64 a), .v (.int .i64 b), .v (.int .i64 c), .v (.int .i64 d), .v (.int .i64 e), .v (.bool f)], false⟩), (1, some ⟨.box 25 [.arr .u8 32 g], false⟩), (2, some ⟨.row 64 (.ints .u32 l), false⟩)], 4, 57⟩
def V6 : ASt → Option X6
 | ⟨[(12, .own 3), (2, .sl (.ints .u8 i)), (3, .sl (.ints .u8 j)), (5, .ptr 0 0), (9, .ptr 1 0), (11, .own 2), (13, .v (.int .i64 h))], [(3, some ⟨.row 26 (.rows .u8 k), false⟩), (0, some ⟨.box 23 [.v (.int .i64 a), .v (.int .i64 b), .v (.int .i64 c), .v (.int .i64 d), .v (.int .i64 e), .v (.bool f)], false⟩), (1, some ⟨.box 25 [.arr .u8 32 g], false⟩), (2, some ⟨.row 64 (.ints .u32 l), false⟩)], 4, 57⟩ => some (i, j, h, k, a, b, c, d, e, f, g, l)
 | _ => none
theorem ah4 (st) (x) (h : V6 st = some x) : st = S6 x := by
 unfold V6 at h
 split at h
 · cases h; rfl
 · cases h
abbrev Y6 := P.b0h
def E6 (K : AExit → ASt → Option R) : Y6 → Option R := (fun x => K (.exit 0) (S6 x))
noncomputable def L6 : p8 := fun st K => acg (V6 st) fun x => P.b0n x (E6 K)
noncomputable def D : Ctx := ({ P := Tryz.prog, G := [(44, l5.spec), (72, jm.spec), (83, uz.spec), (84, qx.spec), (85, zy.spec), (91, xk.spec)], globs := GLO.gx, hints := [(6, ⟨[2, 3, 5, 9, 11, 13], [(12, 26, .rows .u8 [])], [10], [], none, [], []⟩)], loops := [(6, L6)], inl := [] } : Ctx)
theorem ac4 (K) (next) (x) : jq D (dz Tryz.f59 6) K next (S6 x) = P.bua x (fun x => next (S6 x)) (E6 K) := by kernel_rfl
theorem aiw : ji D (dz Tryz.f59 6) := gy S6 ah4 (by kernel_rfl) P.b9g ac4
theorem loops : d9 (Tryz.f59.body.getD .skip) = [dz Tryz.f59 6] := by kernel_rfl
noncomputable def bn : Abs.Spec := fun args K => match args with
 | [.agg [.v (.int .i64 b), .v (.int .i64 c), .v (.int .i64 d), .v (.int .i64 e), .v (.int .i64 f), .v (.bool a)], .sl (.ints .u8 g), .sl (.ints .u8 h), .sl (.ints .u8 i), .arr .u8 32 j] => P.ae0 b c d e f a g h i j (fun k => K (.fr 5 (.ints .u8 k)))
 | _ => none
noncomputable def spec : Abs.Spec := fun args K => bn (oh [.any, .sl (.ints .u8 []), .sl (.ints .u8 []), .sl (.ints .u8 []), .any] args) K
theorem ok0 : Proved Tryz.prog GLO.gx 59 bn := by
 refine dw (D := D) (fn := Tryz.f59) (c := Tryz.f59.body.getD .skip) [.fr 5 (.ints .u8 [])] (by kernel_rfl) (bf (by kernel_rfl)) (by kernel_rfl) (by kernel_rfl) (by kernel_rfl) ⟨l5.ok, jm.ok, uz.ok, qx.ok, zy.ok, xk.ok, trivial⟩ trivial ?_ ?_
 · rw [loops]; exact ⟨aiw, trivial⟩
 · intro args K r h
   unfold bn at h
   split at h
   · rw [P.axe] at h; exact Eq.trans (by kernel_rfl) h
   · cases h
theorem ok : Proved Tryz.prog GLO.gx 59 spec := eu _ ok0
end ae0

namespace ad8
abbrev X5 := P.bwi
def S5 : X5 → ASt := fun (j, k, l, h, i, a, b, c, d, e, f, g) => ⟨[(13, .own 40), (2, .sl (.ints .u8 j)), (3, .sl (.ints .u8 k)), (5, .v (.int .u64 l)), (6, .ptr 0 0), (10, .ptr 1 0), (14, .v (.int .i64 h))], [(40, some ⟨.row 26 (.rows .u8 i), false⟩), (0, some ⟨.box 23 [.v (.int .i64 a), .v (.int .i64 b), .v (.int .i64 c), .v (.int .i64 d), .v (.int .i64 e), .v (.bool f)], false⟩), (1, some ⟨.box 25 [.arr .u8 32 g], false⟩)], 41, 82⟩
def V5 : ASt → Option X5
 | ⟨[(13, .own 40), (2, .sl (.ints .u8 j)), (3, .sl (.ints .u8 k)), (5, .v (.int .u64 l)), (6, .ptr 0 0), (10, .ptr 1 0), (14, .v (.int .i64 h))], [(40, some ⟨.row 26 (.rows .u8 i), false⟩), (0, some ⟨.box 23 [.v (.int .i64 a), .v (.int .i64 b), .v (.int .i64 c), .v (.int .i64 d), .v (.int .i64 e), .v (.bool f)], false⟩), (1, some ⟨.box 25 [.arr .u8 32 g], false⟩)], 41, 82⟩ => some (j, k, l, h, i, a, b, c, d, e, f, g)
 | _ => none
theorem atn (st) (x) (h : V5 st = some x) : st = S5 x := by
 unfold V5 at h
 split at h
 · cases h; rfl
 · cases h
abbrev Y5 := P.b4d
def E5 (K : AExit → ASt → Option R) : Y5 → Option R := (fun x => K (.exit 0) (S5 x))
noncomputable def L5 : p8 := fun st K => acg (V5 st) fun x => P.b4e x (E5 K)
noncomputable def D : Ctx := ({ P := Tryz.prog, G := [(27, aaz.spec), (37, mh.spec), (44, l5.spec), (55, za.spec), (59, ae0.spec)], globs := GLO.gx, hints := [(5, ⟨[2, 3, 5, 6, 10, 14], [(13, 26, .rows .u8 [])], [12], [], some (40, [0, 1]), [], []⟩)], loops := [(5, L5)], inl := [] } : Ctx)
theorem akf (K) (next) (x) : jq D (dz Tryz.f29 5) K next (S5 x) = P.bxq x (fun x => next (S5 x)) (E5 K) := by kernel_rfl
theorem atq : ji D (dz Tryz.f29 5) := gy S5 atn (by kernel_rfl) P.b9s akf
theorem loops : d9 (Tryz.f29.body.getD .skip) = [dz Tryz.f29 5] := by kernel_rfl
noncomputable def bn : Abs.Spec := fun args K => match args with
 | [.agg [.v (.int .i64 b), .v (.int .i64 c), .v (.int .i64 d), .v (.int .i64 e), .v (.int .i64 f), .v (.bool a)], .sl (.ints .u8 g), .sl (.ints .u8 h), .sl (.ints .u8 i), .arr .u8 32 j, .v (.int .u64 k)] => P.ad8 b c d e f a g h i j k (fun l => K (.fr 5 (.ints .u8 l)))
 | _ => none
noncomputable def spec : Abs.Spec := fun args K => bn (oh [.any, .sl (.ints .u8 []), .sl (.ints .u8 []), .sl (.ints .u8 []), .any, .any] args) K
theorem ok0 : Proved Tryz.prog GLO.gx 29 bn := by
 refine dw (D := D) (fn := Tryz.f29) (c := Tryz.f29.body.getD .skip) [.fr 5 (.ints .u8 [])] (by kernel_rfl) (bf (by kernel_rfl)) (by kernel_rfl) (by kernel_rfl) (by kernel_rfl) ⟨aaz.ok, mh.ok, l5.ok, za.ok, ae0.ok, trivial⟩ trivial ?_ ?_
 · rw [loops]; exact ⟨atq, trivial⟩
 · intro args K r h
   unfold bn at h
   split at h
   · rw [P.af7] at h; exact Eq.trans (by kernel_rfl) h
   · cases h
theorem ok : Proved Tryz.prog GLO.gx 29 spec := eu _ ok0
end ad8

namespace adf
noncomputable def D : Ctx := ({ P := Tryz.prog, G := [], globs := GLO.gx, hints := [], loops := [], inl := [] } : Ctx)
theorem loops : d9 (Tryz.f107.body.getD .skip) = [] := by kernel_rfl
noncomputable def bn : Abs.Spec := fun args K => match args with
 | [.sl (.ints .u8 a), .v (.int .i64 b), .v (.int .i64 c)] => P.adf a b c (fun d => K (.v (.bool d)))
 | _ => none
noncomputable def spec : Abs.Spec := fun args K => bn (oh [.sl (.ints .u8 []), .any, .any] args) K
theorem ok0 : Proved Tryz.prog GLO.gx 107 bn := by
 refine dw (D := D) (fn := Tryz.f107) (c := Tryz.f107.body.getD .skip) [.any] (by kernel_rfl) (bf (by kernel_rfl)) (by kernel_rfl) (by kernel_rfl) (by kernel_rfl) trivial trivial ?_ ?_
 · rw [loops]; exact trivial
 · intro args K r h
   unfold bn at h
   split at h
   · rw [P.au4] at h; exact Eq.trans (by kernel_rfl) h
   · cases h
theorem ok : Proved Tryz.prog GLO.gx 107 spec := eu _ ok0
end adf

namespace uj
abbrev X8 := P.bu0
def S8 : X8 → ASt := fun (d, e, f, g, a, b, c, h) => ⟨[(0, .sl (.ints .u8 d)), (1, .v (.int .i64 e)), (7, .own 0), (8, .v (.int .u64 f)), (9, .v (.int .i64 g)), (10, .v (.int .i64 a)), (19, .v (.int .i64 b)), (20, .v (.int .i64 c))], [(0, some ⟨.row 64 (.ints .u32 h), false⟩)], 1, 53⟩
def V8 : ASt → Option X8
 | ⟨[(0, .sl (.ints .u8 d)), (1, .v (.int .i64 e)), (7, .own 0), (8, .v (.int .u64 f)), (9, .v (.int .i64 g)), (10, .v (.int .i64 a)), (19, .v (.int .i64 b)), (20, .v (.int .i64 c))], [(0, some ⟨.row 64 (.ints .u32 h), false⟩)], 1, 53⟩ => some (d, e, f, g, a, b, c, h)
 | _ => none
theorem bgj (st) (x) (h : V8 st = some x) : st = S8 x := by
 unfold V8 at h
 split at h
 · cases h; rfl
 · cases h
abbrev Y8 := P.b7n
abbrev X6 := P.btt
def S6 : X6 → ASt := fun (c, d, e, f, a, b, g) => ⟨[(0, .sl (.ints .u8 c)), (1, .v (.int .i64 d)), (7, .own 0), (8, .v (.int .u64 e)), (9, .v (.int .i64 f)), (19, .v (.int .i64 a)), (20, .v (.int .i64 b))], [(0, some ⟨.row 64 (.ints .u32 g), false⟩)], 1, 53⟩
def V6 : ASt → Option X6
 | ⟨[(0, .sl (.ints .u8 c)), (1, .v (.int .i64 d)), (7, .own 0), (8, .v (.int .u64 e)), (9, .v (.int .i64 f)), (19, .v (.int .i64 a)), (20, .v (.int .i64 b))], [(0, some ⟨.row 64 (.ints .u32 g), false⟩)], 1, 53⟩ => some (c, d, e, f, a, b, g)
 | _ => none
theorem ah4 (st) (x) (h : V6 st = some x) : st = S6 x := by
 unfold V6 at h
 split at h
 · cases h; rfl
 · cases h
abbrev Y6 := P.b2g
def E8 (K : AExit → ASt → Option R) : Y8 → Option R := (fun x => K (.exit 2) (S8 x))
noncomputable def L8 : p8 := fun st K => acg (V8 st) fun x => P.b7l x (E8 K)
def E6 (K : AExit → ASt → Option R) : Y6 → Option R := (fun x => K (.exit 0) (S6 x))
noncomputable def L6 : p8 := fun st K => acg (V6 st) fun x => P.b1f x (E6 K)
noncomputable def D : Ctx := ({ P := Tryz.prog, G := [(107, adf.spec)], globs := GLO.gx, hints := [(8, ⟨[0, 1, 7, 8, 9, 10, 19, 20], [], [6], [(0, .sl (.ints .u8 []))], none, [], []⟩), (6, ⟨[0, 1, 7, 8, 9, 19, 20], [], [6], [(0, .sl (.ints .u8 []))], none, [], []⟩)], loops := [(8, L8), (6, L6)], inl := [] } : Ctx)
theorem aw4 (K) (next) (x) : jq D (dz Tryz.f78 8) K next (S8 x) = P.btd x (fun x => next (S8 x)) (E8 K) := by kernel_rfl
theorem bgb : ji D (dz Tryz.f78 8) := gy S8 bgj (by kernel_rfl) P.b9e aw4
theorem ac4 (K) (next) (x) : jq D (dz Tryz.f78 6) K next (S6 x) = P.bs9 x (fun x => next (S6 x)) (E6 K) := by kernel_rfl
theorem aiw : ji D (dz Tryz.f78 6) := gy S6 ah4 (by kernel_rfl) P.cae ac4
theorem loops : d9 (Tryz.f78.body.getD .skip) = [dz Tryz.f78 6, dz Tryz.f78 8] := by kernel_rfl
noncomputable def bn : Abs.Spec := fun args K => match args with
 | [.sl (.ints .u8 a), .v (.int .i64 b), .v (.int .i64 c)] => P.uj a b c (fun d => K (.fr 64 (.ints .u32 d)))
 | _ => none
noncomputable def spec : Abs.Spec := fun args K => bn (oh [.sl (.ints .u8 []), .any, .any] args) K
theorem ok0 : Proved Tryz.prog GLO.gx 78 bn := by
 refine dw (D := D) (fn := Tryz.f78) (c := Tryz.f78.body.getD .skip) [.fr 64 (.ints .u32 [])] (by kernel_rfl) (bf (by kernel_rfl)) (by kernel_rfl) (by kernel_rfl) (by kernel_rfl) ⟨adf.ok, trivial⟩ trivial ?_ ?_
 · rw [loops]; exact ⟨aiw, bgb, trivial⟩
 · intro args K r h
   unfold bn at h
   split at h
   · rw [P.aoq] at h; exact Eq.trans (by kernel_rfl) h
   · cases h
theorem ok : Proved Tryz.prog GLO.gx 78 spec := eu _ ok0
end uj

namespace sw
abbrev X6 := P.bx2
def S6 : X6 → ASt := fun (c, a, b, d) => ⟨[(5, .own 0), (6, .v (.int .u32 c)), (33, .own 0), (34, .v (.int .i64 a)), (35, .v (.int .i64 b))], [(0, some ⟨.row 64 (.ints .u32 d), false⟩)], 1, 53⟩
def V6 : ASt → Option X6
 | ⟨[(5, .own 0), (6, .v (.int .u32 c)), (33, .own 0), (34, .v (.int .i64 a)), (35, .v (.int .i64 b))], [(0, some ⟨.row 64 (.ints .u32 d), false⟩)], 1, 53⟩ => some (c, a, b, d)
 | _ => none
theorem ah4 (st) (x) (h : V6 st = some x) : st = S6 x := by
 unfold V6 at h
 split at h
 · cases h; rfl
 · cases h
abbrev Y6 := P.b1n
def E6 (K : AExit → ASt → Option R) : Y6 → Option R := (fun x => K (.exit 0) (S6 x))
noncomputable def L6 : p8 := fun st K => acg (V6 st) fun x => P.b68 x (E6 K)
noncomputable def D : Ctx := ({ P := Tryz.prog, G := [(78, uj.spec)], globs := GLO.gx, hints := [(6, ⟨[5, 6, 33, 34, 35], [], [4], [], none, [], []⟩)], loops := [(6, L6)], inl := [] } : Ctx)
theorem ac4 (K) (next) (x) : jq D (dz Tryz.f88 6) K next (S6 x) = P.bxy x (fun x => next (S6 x)) (E6 K) := by kernel_rfl
theorem aiw : ji D (dz Tryz.f88 6) := gy S6 ah4 (by kernel_rfl) P.b9b ac4
theorem loops : d9 (Tryz.f88.body.getD .skip) = [dz Tryz.f88 6] := by kernel_rfl
noncomputable def bn : Abs.Spec := fun args K => match args with
 | [.v (.int .i64 a), .sl (.ints .u8 b)] => P.sw a b (fun c => K (.fr 64 (.ints .u32 c)))
 | _ => none
noncomputable def spec : Abs.Spec := fun args K => bn (oh [.any, .sl (.ints .u8 [])] args) K
theorem ok0 : Proved Tryz.prog GLO.gx 88 bn := by
 refine dw (D := D) (fn := Tryz.f88) (c := Tryz.f88.body.getD .skip) [.fr 64 (.ints .u32 [])] (by kernel_rfl) (bf (by kernel_rfl)) (by kernel_rfl) (by kernel_rfl) (by kernel_rfl) ⟨uj.ok, trivial⟩ trivial ?_ ?_
 · rw [loops]; exact ⟨aiw, trivial⟩
 · intro args K r h
   unfold bn at h
   split at h
   · rw [P.aok] at h; exact Eq.trans (by kernel_rfl) h
   · cases h
theorem ok : Proved Tryz.prog GLO.gx 88 spec := eu _ ok0
end sw

namespace qw
abbrev X6 := P.bww
def S6 : X6 → ASt := fun (I, G, H, J, o, p, q, r, s, t, u, w, y, z, A, B, C, F, a, b, c, d, e, f, g, h, i, j, k, l, m, n, M) => ⟨[(13, .own 4), (1, .sl (.ints .u8 I)), (5, .ptr 0 0), (9, .ptr 1 0), (11, .ptr 2 0), (44, .own 3), (45, .v (.int .i64 G)), (46, .v (.int .i64 H))], [(4, some ⟨.row 5 (.ints .u8 J), false⟩), (0, some ⟨.box 23 [.v (.int .i64 o), .v (.int .i64 p), .v (.int .i64 q), .v (.int .i64 r), .v (.int .i64 s), .v (.bool t)], false⟩), (1, some ⟨.box 25 [.arr .u8 32 u], false⟩), (2, some ⟨.box 97 [.v (.int .i64 w), .v (.int .i64 y), .v (.int .i64 z), .v (.int .i64 A), .v (.int .i64 B), .v (.bool C), .alt F (.func 123) [] [.sta [.v (.int .i64 a), .arr .u64 25 b, .v (.int .i64 c), .v (.bool d)], .sta [.v (.int .i64 e)]] (.func 126) [] [.sta [.v (.int .i64 f), .arr .u64 8 g, .sl (.ints .u8 h), .v (.int .u64 i)], .sta [.v (.int .i64 j)], .sta [.v (.int .i64 k), .arr .u64 8 l, .sl (.ints .u8 m), .v (.int .u64 n)]]], false⟩), (3, some ⟨.row 64 (.ints .u32 M), false⟩)], 5, 73⟩
def V6 : ASt → Option X6
 | ⟨[(13, .own 4), (1, .sl (.ints .u8 I)), (5, .ptr 0 0), (9, .ptr 1 0), (11, .ptr 2 0), (44, .own 3), (45, .v (.int .i64 G)), (46, .v (.int .i64 H))], [(4, some ⟨.row 5 (.ints .u8 J), false⟩), (0, some ⟨.box 23 [.v (.int .i64 o), .v (.int .i64 p), .v (.int .i64 q), .v (.int .i64 r), .v (.int .i64 s), .v (.bool t)], false⟩), (1, some ⟨.box 25 [.arr .u8 32 u], false⟩), (2, some ⟨.box 97 [.v (.int .i64 w), .v (.int .i64 y), .v (.int .i64 z), .v (.int .i64 A), .v (.int .i64 B), .v (.bool C), .alt F (.func 123) [] [.sta [.v (.int .i64 a), .arr .u64 25 b, .v (.int .i64 c), .v (.bool d)], .sta [.v (.int .i64 e)]] (.func 126) [] [.sta [.v (.int .i64 f), .arr .u64 8 g, .sl (.ints .u8 h), .v (.int .u64 i)], .sta [.v (.int .i64 j)], .sta [.v (.int .i64 k), .arr .u64 8 l, .sl (.ints .u8 m), .v (.int .u64 n)]]], false⟩), (3, some ⟨.row 64 (.ints .u32 M), false⟩)], 5, 73⟩ => some (I, G, H, J, o, p, q, r, s, t, u, w, y, z, A, B, C, F, a, b, c, d, e, f, g, h, i, j, k, l, m, n, M)
 | _ => none
theorem ah4 (st) (x) (h : V6 st = some x) : st = S6 x := by
 unfold V6 at h
 split at h
 · cases h; rfl
 · cases h
abbrev Y6 := P.b8a
def E6 (K : AExit → ASt → Option R) : Y6 → Option R := (fun x => K (.exit 0) (S6 x))
noncomputable def L6 : p8 := fun st K => acg (V6 st) fun x => P.b1g x (E6 K)
noncomputable def D : Ctx := ({ P := Tryz.prog, G := [(80, iy.spec), (87, qp.spec), (88, sw.spec), (89, jy.spec), (92, ng.spec), (93, o9.spec)], globs := GLO.gx, hints := [(6, ⟨[1, 5, 9, 11, 44, 45, 46], [(13, 5, .ints .u8 [])], [10], [(1, .sl (.ints .u8 []))], none, [], []⟩)], loops := [(6, L6)], inl := [] } : Ctx)
theorem ac4 (K) (next) (x) : jq D (dz Tryz.f60 6) K next (S6 x) = P.bva x (fun x => next (S6 x)) (E6 K) := by kernel_rfl
theorem aiw : ji D (dz Tryz.f60 6) := gy S6 ah4 (by kernel_rfl) P.b86 ac4
theorem loops : d9 (Tryz.f60.body.getD .skip) = [dz Tryz.f60 6] := by kernel_rfl
noncomputable def bn : Abs.Spec := fun args K => match args with
 | [.agg [.v (.int .i64 b), .v (.int .i64 c), .v (.int .i64 d), .v (.int .i64 e), .v (.int .i64 f), .v (.bool a)], .sl (.ints .u8 g), .sl (.ints .u8 h), .sl (.ints .u8 i), .arr .u8 32 j] => P.qw b c d e f a g h i j (fun k => K (.sl (.ints .u8 k)))
 | _ => none
noncomputable def spec : Abs.Spec := fun args K => bn (oh [.any, .sl (.ints .u8 []), .sl (.ints .u8 []), .sl (.ints .u8 []), .any] args) K
theorem ok0 : Proved Tryz.prog GLO.gx 60 bn := by
 refine dw (D := D) (fn := Tryz.f60) (c := Tryz.f60.body.getD .skip) [.sl (.ints .u8 [])] (by kernel_rfl) (bf (by kernel_rfl)) (by kernel_rfl) (by kernel_rfl) (by kernel_rfl) ⟨iy.ok, qp.ok, sw.ok, jy.ok, ng.ok, o9.ok, trivial⟩ trivial ?_ ?_
 · rw [loops]; exact ⟨aiw, trivial⟩
 · intro args K r h
   unfold bn at h
   split at h
   · rw [P.akj] at h; exact Eq.trans (by kernel_rfl) h
   · cases h
theorem ok : Proved Tryz.prog GLO.gx 60 spec := eu _ ok0
end qw

namespace qg
abbrev X7 := P.btx
def S7 : X7 → ASt := fun (s, o, p, q, r, a, b, c, d, e, f, g, h, i, j, k, l, m, n) => ⟨[(5, .v (.int .u64 s)), (6, .ptr 0 0), (13, .ptr 3 0), (15, .sl (.ints .u8 o)), (16, .sl (.ints .u8 p)), (66, .v (.int .i64 q)), (67, .v (.int .i64 r))], [(0, some ⟨.box 23 [.v (.int .i64 a), .v (.int .i64 b), .v (.int .i64 c), .v (.int .i64 d), .v (.int .i64 e), .v (.bool f)], false⟩), (3, some ⟨.box 68 [.v (.int .i64 g), .v (.int .i64 h), .v (.int .i64 i), .v (.int .i64 j), .v (.int .i64 k), .v (.bool l), .v (.slice none 0 0), .sl (.ints .u8 m), .arr .u8 32 n], false⟩)], 40, 98⟩
def V7 : ASt → Option X7
 | ⟨[(5, .v (.int .u64 s)), (6, .ptr 0 0), (13, .ptr 3 0), (15, .sl (.ints .u8 o)), (16, .sl (.ints .u8 p)), (66, .v (.int .i64 q)), (67, .v (.int .i64 r))], [(0, some ⟨.box 23 [.v (.int .i64 a), .v (.int .i64 b), .v (.int .i64 c), .v (.int .i64 d), .v (.int .i64 e), .v (.bool f)], false⟩), (3, some ⟨.box 68 [.v (.int .i64 g), .v (.int .i64 h), .v (.int .i64 i), .v (.int .i64 j), .v (.int .i64 k), .v (.bool l), .v (.slice none 0 0), .sl (.ints .u8 m), .arr .u8 32 n], false⟩)], 40, 98⟩ => some (s, o, p, q, r, a, b, c, d, e, f, g, h, i, j, k, l, m, n)
 | _ => none
theorem bfl (st) (x) (h : V7 st = some x) : st = S7 x := by
 unfold V7 at h
 split at h
 · cases h; rfl
 · cases h
abbrev Y7 := P.b2n
def E7 (K : AExit → ASt → Option R) : Y7 → Option R := (fun x => K (.exit 0) (S7 x))
noncomputable def L7 : p8 := fun st K => acg (V7 st) fun x => P.b0y x (E7 K)
noncomputable def D : Ctx := ({ P := Tryz.prog, G := [(24, qd.spec), (51, jl.spec), (52, tu.spec), (58, nk.spec), (60, qw.spec), (61, pz.spec)], globs := GLO.gx, hints := [(7, ⟨[5, 6, 13, 15, 16, 66, 67], [], [12], [(15, .sl (.ints .u8 [])), (16, .sl (.ints .u8 []))], some (40, [0, 3]), [], []⟩)], loops := [(7, L7)], inl := [] } : Ctx)
theorem aws (K) (next) (x) : jq D (dz Tryz.f30 7) K next (S7 x) = P.bwz x (fun x => next (S7 x)) (E7 K) := by kernel_rfl
theorem bf1 : ji D (dz Tryz.f30 7) := gy S7 bfl (by kernel_rfl) P.b9r aws
theorem loops : d9 (Tryz.f30.body.getD .skip) = [dz Tryz.f30 7] := by kernel_rfl
noncomputable def bn : Abs.Spec := fun args K => match args with
 | [.agg [.v (.int .i64 b), .v (.int .i64 c), .v (.int .i64 d), .v (.int .i64 e), .v (.int .i64 f), .v (.bool a)], .sl (.ints .u8 g), .sl (.ints .u8 h), .sl (.ints .u8 i), .arr .u8 32 j, .v (.int .u64 k)] => P.qg b c d e f a g h i j k (fun l => K (.sl (.ints .u8 l)))
 | _ => none
noncomputable def spec : Abs.Spec := fun args K => bn (oh [.any, .sl (.ints .u8 []), .sl (.ints .u8 []), .sl (.ints .u8 []), .any, .any] args) K
theorem ok0 : Proved Tryz.prog GLO.gx 30 bn := by
 refine dw (D := D) (fn := Tryz.f30) (c := Tryz.f30.body.getD .skip) [.sl (.ints .u8 [])] (by kernel_rfl) (bf (by kernel_rfl)) (by kernel_rfl) (by kernel_rfl) (by kernel_rfl) ⟨qd.ok, jl.ok, tu.ok, nk.ok, qw.ok, pz.ok, trivial⟩ trivial ?_ ?_
 · rw [loops]; exact ⟨bf1, trivial⟩
 · intro args K r h
   unfold bn at h
   split at h
   · rw [P.zk] at h; exact Eq.trans (by kernel_rfl) h
   · cases h
theorem ok : Proved Tryz.prog GLO.gx 30 spec := eu _ ok0
end qg

namespace adh
abbrev X6 := P.bxe
def S6 : X6 → ASt := fun (B, y, z, A, o, p, q, r, s, t, u, w, a, b, c, d, e, f, g, h, i, j, k, l, m, n, C) => ⟨[(13, .own 40), (2, .sl (.ints .u8 B)), (9, .ptr 1 0), (11, .ptr 2 0), (41, .own 3), (42, .v (.int .i64 y)), (43, .v (.int .i64 z))], [(40, some ⟨.row 5 (.ints .u8 A), false⟩), (1, some ⟨.box 25 [.arr .u8 32 o], false⟩), (2, some ⟨.box 97 [.v (.int .i64 p), .v (.int .i64 q), .v (.int .i64 r), .v (.int .i64 s), .v (.int .i64 t), .v (.bool u), .alt w (.func 123) [] [.sta [.v (.int .i64 a), .arr .u64 25 b, .v (.int .i64 c), .v (.bool d)], .sta [.v (.int .i64 e)]] (.func 126) [] [.sta [.v (.int .i64 f), .arr .u64 8 g, .sl (.ints .u8 h), .v (.int .u64 i)], .sta [.v (.int .i64 j)], .sta [.v (.int .i64 k), .arr .u64 8 l, .sl (.ints .u8 m), .v (.int .u64 n)]]], false⟩), (3, some ⟨.row 64 (.ints .u32 C), false⟩)], 41, 64⟩
def V6 : ASt → Option X6
 | ⟨[(13, .own 40), (2, .sl (.ints .u8 B)), (9, .ptr 1 0), (11, .ptr 2 0), (41, .own 3), (42, .v (.int .i64 y)), (43, .v (.int .i64 z))], [(40, some ⟨.row 5 (.ints .u8 A), false⟩), (1, some ⟨.box 25 [.arr .u8 32 o], false⟩), (2, some ⟨.box 97 [.v (.int .i64 p), .v (.int .i64 q), .v (.int .i64 r), .v (.int .i64 s), .v (.int .i64 t), .v (.bool u), .alt w (.func 123) [] [.sta [.v (.int .i64 a), .arr .u64 25 b, .v (.int .i64 c), .v (.bool d)], .sta [.v (.int .i64 e)]] (.func 126) [] [.sta [.v (.int .i64 f), .arr .u64 8 g, .sl (.ints .u8 h), .v (.int .u64 i)], .sta [.v (.int .i64 j)], .sta [.v (.int .i64 k), .arr .u64 8 l, .sl (.ints .u8 m), .v (.int .u64 n)]]], false⟩), (3, some ⟨.row 64 (.ints .u32 C), false⟩)], 41, 64⟩ => some (B, y, z, A, o, p, q, r, s, t, u, w, a, b, c, d, e, f, g, h, i, j, k, l, m, n, C)
 | _ => none
theorem ah4 (st) (x) (h : V6 st = some x) : st = S6 x := by
 unfold V6 at h
 split at h
 · cases h; rfl
 · cases h
abbrev Y6 := P.b77
def E6 (K : AExit → ASt → Option R) : Y6 → Option R := (fun x => K (.exit 0) (S6 x))
noncomputable def L6 : p8 := fun st K => acg (V6 st) fun x => P.b1z x (E6 K)
noncomputable def D : Ctx := ({ P := Tryz.prog, G := [(80, iy.spec), (87, qp.spec), (88, sw.spec), (89, jy.spec), (90, mq.spec)], globs := GLO.gx, hints := [(6, ⟨[2, 9, 11, 41, 42, 43], [(13, 5, .ints .u8 [])], [10], [], some (40, [1, 2, 3]), [], []⟩)], loops := [(6, L6)], inl := [] } : Ctx)
theorem ac4 (K) (next) (x) : jq D (dz Tryz.f57 6) K next (S6 x) = P.buq x (fun x => next (S6 x)) (E6 K) := by kernel_rfl
theorem aiw : ji D (dz Tryz.f57 6) := gy S6 ah4 (by kernel_rfl) P.b8q ac4
theorem loops : d9 (Tryz.f57.body.getD .skip) = [dz Tryz.f57 6] := by kernel_rfl
noncomputable def bn : Abs.Spec := fun args K => match args with
 | [.agg [.v (.int .i64 b), .v (.int .i64 c), .v (.int .i64 d), .v (.int .i64 e), .v (.int .i64 f), .v (.bool a)], .sl (.ints .u8 g), .sl (.ints .u8 h), .sl (.ints .u8 i), .arr .u8 32 j] => P.adh b c d e f a g h i j (fun k => K (.fr 5 (.ints .u8 k)))
 | _ => none
noncomputable def spec : Abs.Spec := fun args K => bn (oh [.any, .sl (.ints .u8 []), .sl (.ints .u8 []), .sl (.ints .u8 []), .any] args) K
theorem ok0 : Proved Tryz.prog GLO.gx 57 bn := by
 refine dw (D := D) (fn := Tryz.f57) (c := Tryz.f57.body.getD .skip) [.fr 5 (.ints .u8 [])] (by kernel_rfl) (bf (by kernel_rfl)) (by kernel_rfl) (by kernel_rfl) (by kernel_rfl) ⟨iy.ok, qp.ok, sw.ok, jy.ok, mq.ok, trivial⟩ trivial ?_ ?_
 · rw [loops]; exact ⟨aiw, trivial⟩
 · intro args K r h
   unfold bn at h
   split at h
   · rw [P.auf] at h; exact Eq.trans (by kernel_rfl) h
   · cases h
theorem ok : Proved Tryz.prog GLO.gx 57 spec := eu _ ok0
end adh

end
