/-
  LeaseNear, part 17: an interpreter of my own over abstract values, the pure functions, the walks and the plain law.
-/

import Derived.Test.YtkfjafaabbmapaaDoorLeaseNearK
import Derived.Test.YtkfjafaabbmapaaDoorLeaseNearH
import Derived.Test.YtkfjafaabbmapaaDoorProg
import Derived.Test.YtkfjafaabbmapaaDoorLeaseNearJ
import Derived.Test.YtkfjafaabbmapaaDoorLeaseNearP
import Derived.KernelRfl
import Derived.Test.YtkfjafaabbmapaaDoorLeaseNearO

section
open Go Go.Abs Go.Proofs
set_option maxRecDepth 100000
set_option maxHeartbeats 0
set_option linter.unusedVariables false

namespace aed
abbrev X4 := P.bkc
def S4 : X4 → ASt := fun (f, g, e, a, b, c, d) => ⟨[(5, .own 40), (1, .ptr 0 0), (3, .v (.int .i64 f)), (4, .v (.int .u64 g))], [(40, some ⟨.row 5 (.ints .u8 e), false⟩), (0, some ⟨.box 113 [.v (.int .i64 a), .arr .u64 8 b, .sl (.ints .u8 c), .v (.int .u64 d)], false⟩)], 41, 77⟩
def V4 : ASt → Option X4
 | ⟨[(5, .own 40), (1, .ptr 0 0), (3, .v (.int .i64 f)), (4, .v (.int .u64 g))], [(40, some ⟨.row 5 (.ints .u8 e), false⟩), (0, some ⟨.box 113 [.v (.int .i64 a), .arr .u64 8 b, .sl (.ints .u8 c), .v (.int .u64 d)], false⟩)], 41, 77⟩ => some (f, g, e, a, b, c, d)
 | _ => none
theorem an2 (st) (x) (h : V4 st = some x) : st = S4 x := by
 unfold V4 at h
 split at h
 · cases h; rfl
 · cases h
abbrev Y4 := P.bnx
abbrev X8 := P.bhq
def S8 : X8 → ASt := fun (f, g, e, a, b, c, d) => ⟨[(5, .own 80), (1, .ptr 0 0), (3, .v (.int .i64 f)), (4, .v (.int .u64 g))], [(80, some ⟨.row 5 (.ints .u8 e), false⟩), (0, some ⟨.box 113 [.v (.int .i64 a), .arr .u64 8 b, .sl (.ints .u8 c), .v (.int .u64 d)], false⟩)], 81, 77⟩
def V8 : ASt → Option X8
 | ⟨[(5, .own 80), (1, .ptr 0 0), (3, .v (.int .i64 f)), (4, .v (.int .u64 g))], [(80, some ⟨.row 5 (.ints .u8 e), false⟩), (0, some ⟨.box 113 [.v (.int .i64 a), .arr .u64 8 b, .sl (.ints .u8 c), .v (.int .u64 d)], false⟩)], 81, 77⟩ => some (f, g, e, a, b, c, d)
 | _ => none
theorem ba0 (st) (x) (h : V8 st = some x) : st = S8 x := by
 unfold V8 at h
 split at h
 · cases h; rfl
 · cases h
abbrev Y8 := P.bl9
abbrev X14 := P.bi8
def S14 : X14 → ASt := fun (f, g, a, b, c, d, e) => ⟨[(6, .own 120), (1, .ptr 0 0), (3, .v (.int .i64 f)), (7, .v (.int .i64 g))], [(120, some ⟨.row 5 (.ints .u8 a), false⟩), (0, some ⟨.box 113 [.v (.int .i64 b), .arr .u64 8 c, .sl (.ints .u8 d), .v (.int .u64 e)], false⟩)], 121, 77⟩
def V14 : ASt → Option X14
 | ⟨[(6, .own 120), (1, .ptr 0 0), (3, .v (.int .i64 f)), (7, .v (.int .i64 g))], [(120, some ⟨.row 5 (.ints .u8 a), false⟩), (0, some ⟨.box 113 [.v (.int .i64 b), .arr .u64 8 c, .sl (.ints .u8 d), .v (.int .u64 e)], false⟩)], 121, 77⟩ => some (f, g, a, b, c, d, e)
 | _ => none
theorem bi5 (st) (x) (h : V14 st = some x) : st = S14 x := by
 unfold V14 at h
 split at h
 · cases h; rfl
 · cases h
abbrev Y14 := P.bmt
def E4 (K : AExit → ASt → Option R) : Y4 → Option R := (fun x => K (.exit 0) (S4 x))
noncomputable def L4 : wm := fun st K => af4 (V4 st) fun x => P.bnc x (E4 K)
def E8 (K : AExit → ASt → Option R) : Y8 → Option R := (fun x => K (.exit 2) (S8 x))
noncomputable def L8 : wm := fun st K => af4 (V8 st) fun x => P.bnh x (E8 K)
def E14 (K : AExit → ASt → Option R) : Y14 → Option R := (fun x => K (.exit 4) (S14 x))
noncomputable def L14 : wm := fun st K => af4 (V14 st) fun x => P.bn5 x (E14 K)
noncomputable def D : Ctx := ({ P := Tryd.prog, G := [(60, aaw.spec), (74, aal.spec), (82, qz.spec)], globs := GLO.gB, hints := [(14, ⟨[1, 3, 7], [(6, 5, .ints .u8 [])], [2], [], some (120, [0]), [0], [], []⟩), (8, ⟨[1, 3, 4], [(5, 5, .ints .u8 [])], [2], [], some (80, [0]), [0], [], []⟩), (4, ⟨[1, 3, 4], [(5, 5, .ints .u8 [])], [2], [], some (40, [0]), [0], [], []⟩)], loops := [(4, L4), (8, L8), (14, L14)], inl := [] } : Ctx)
theorem ahk (K) (next) (x) : og D (gq Tryd.f73 4) K next (S4 x) = P.bi0 x (fun x => next (S4 x)) (E4 K) := by kernel_rfl
theorem ao6 : mq D (gq Tryd.f73 4) := jk S4 an2 (by kernel_rfl) P.bpv ahk
theorem ati (K) (next) (x) : og D (gq Tryd.f73 8) K next (S8 x) = P.bkj x (fun x => next (S8 x)) (E8 K) := by kernel_rfl
theorem bbz : mq D (gq Tryd.f73 8) := jk S8 ba0 (by kernel_rfl) P.bqt ati
theorem bfj (K) (next) (x) : og D (gq Tryd.f73 14) K next (S14 x) = P.bkg x (fun x => next (S14 x)) (E14 K) := by kernel_rfl
theorem bjd : mq D (gq Tryd.f73 14) := jk S14 bi5 (by kernel_rfl) P.bpw bfj
theorem loops : dw (Tryd.f73.body.getD .skip) = [gq Tryd.f73 4, gq Tryd.f73 8, gq Tryd.f73 14] := by kernel_rfl
noncomputable def bn : Abs.Spec := fun args K => match args with
 | [.agg [.v (.int .i64 b), .arr .u64 8 a, .sl (.ints .u8 c), .v (.int .u64 d)]] => P.aed b a c d (fun e => K (.fr 5 (.ints .u8 e)))
 | _ => none
noncomputable def spec : Abs.Spec := fun args K => bn (qb [.agg [.any, .any, .sl (.ints .u8 []), .any]] args) K
theorem ok0 : Proved Tryd.prog GLO.gB 73 bn := by
 refine alr (D := D) (fn := Tryd.f73) (c := Tryd.f73.body.getD .skip) 5 (.ints .u8 []) (by kernel_rfl) (au (by kernel_rfl)) (by kernel_rfl) (by kernel_rfl) (by kernel_rfl) ⟨aaw.ok, aal.ok, qz.ok, trivial⟩ trivial ?_ ?_
 · rw [loops]; exact ⟨ao6, bbz, bjd, trivial⟩
 · intro args K r h
   unfold bn at h
   split at h
   · rw [P.aq5] at h; exact Eq.trans (by kernel_rfl) h
   · cases h
theorem ok : Proved Tryd.prog GLO.gB 73 spec := iy _ ok0
end aed

namespace aee
noncomputable def D : Ctx := ({ P := Tryd.prog, G := [], globs := GLO.gB, hints := [], loops := [], inl := [] } : Ctx)
theorem loops : dw (Tryd.f72.body.getD .skip) = [] := by kernel_rfl
noncomputable def bn : Abs.Spec := fun args K => match args with
 | [.v (.int .i64 e)] => P.aee e (fun b a c d f => K (.tuple [.agg [.v (.int .i64 b), .arr .u64 8 a, .fr 5 (.ints .u8 c), .v (.int .u64 d)], .v (.int .i64 f)]))
 | _ => none
noncomputable def spec : Abs.Spec := bn
theorem ok0 : Proved Tryd.prog GLO.gB 72 bn := by
 refine eu (D := D) (fn := Tryd.f72) (c := Tryd.f72.body.getD .skip) [.agg [.any, .any, .fr 5 (.ints .u8 []), .any], .any] (by kernel_rfl) (au (by kernel_rfl)) (by kernel_rfl) (by kernel_rfl) (by kernel_rfl) trivial trivial ?_ ?_
 · rw [loops]; exact trivial
 · intro args K r h
   unfold bn at h
   split at h
   · rw [P.aqu] at h; exact Eq.trans (by kernel_rfl) h
   · cases h
theorem ok : Proved Tryd.prog GLO.gB 72 spec := ok0
end aee

namespace ael
noncomputable def D : Ctx := ({ P := Tryd.prog, G := [(72, aee.spec), (73, aed.spec), (74, aal.spec)], globs := GLO.gB, hints := [], loops := [], inl := [] } : Ctx)
theorem loops : dw (Tryd.f61.body.getD .skip) = [] := by kernel_rfl
noncomputable def bn : Abs.Spec := fun args K => match args with
 | [.v (.int .i64 a), .sl (.ints .u8 b)] => P.ael a b (fun c d => K (.tuple [.fr 5 (.ints .u8 c), .v (.int .i64 d)]))
 | _ => none
noncomputable def spec : Abs.Spec := fun args K => bn (qb [.any, .sl (.ints .u8 [])] args) K
theorem ok0 : Proved Tryd.prog GLO.gB 61 bn := by
 refine eu (D := D) (fn := Tryd.f61) (c := Tryd.f61.body.getD .skip) [.fr 5 (.ints .u8 []), .any] (by kernel_rfl) (au (by kernel_rfl)) (by kernel_rfl) (by kernel_rfl) (by kernel_rfl) ⟨aee.ok, aed.ok, aal.ok, trivial⟩ trivial ?_ ?_
 · rw [loops]; exact trivial
 · intro args K r h
   unfold bn at h
   split at h
   · rw [P.aqd] at h; exact Eq.trans (by kernel_rfl) h
   · cases h
theorem ok : Proved Tryd.prog GLO.gB 61 spec := iy _ ok0
end ael

namespace aam
noncomputable def D : Ctx := ({ P := Tryd.prog, G := [(59, yt.spec), (60, aaw.spec), (61, ael.spec)], globs := GLO.gB, hints := [], loops := [], inl := [] } : Ctx)
theorem loops : dw (Tryd.f46.body.getD .skip) = [] := by kernel_rfl
noncomputable def bn : Abs.Spec := fun args K => match args with
 | [.agg [.v (.int .u64 a), .v (.int .u64 b)]] => P.aam a b (fun c => K (.fr 5 (.ints .u8 c)))
 | _ => none
noncomputable def spec : Abs.Spec := bn
theorem ok0 : Proved Tryd.prog GLO.gB 46 bn := by
 refine eu (D := D) (fn := Tryd.f46) (c := Tryd.f46.body.getD .skip) [.fr 5 (.ints .u8 [])] (by kernel_rfl) (au (by kernel_rfl)) (by kernel_rfl) (by kernel_rfl) (by kernel_rfl) ⟨yt.ok, aaw.ok, ael.ok, trivial⟩ trivial ?_ ?_
 · rw [loops]; exact trivial
 · intro args K r h
   unfold bn at h
   split at h
   · rw [P.al8] at h; exact Eq.trans (by kernel_rfl) h
   · cases h
theorem ok : Proved Tryd.prog GLO.gB 46 spec := ok0
end aam

namespace aa2
noncomputable def D : Ctx := ({ P := Tryd.prog, G := [(46, aam.spec), (47, ab1.spec), (53, ze.spec)], globs := GLO.gB, hints := [], loops := [], inl := [] } : Ctx)
theorem loops : dw (Tryd.f43.body.getD .skip) = [] := by kernel_rfl
noncomputable def bn : Abs.Spec := fun args K => match args with
 | [.sl (.ints .u8 c)] => P.aa2 c (fun a b d => K (.tuple [.agg [.v (.int .u64 a), .v (.int .u64 b)], .v (.bool d)]))
 | _ => none
noncomputable def spec : Abs.Spec := fun args K => bn (qb [.sl (.ints .u8 [])] args) K
theorem ok0 : Proved Tryd.prog GLO.gB 43 bn := by
 refine eu (D := D) (fn := Tryd.f43) (c := Tryd.f43.body.getD .skip) [.any, .any] (by kernel_rfl) (au (by kernel_rfl)) (by kernel_rfl) (by kernel_rfl) (by kernel_rfl) ⟨aam.ok, ab1.ok, ze.ok, trivial⟩ trivial ?_ ?_
 · rw [loops]; exact trivial
 · intro args K r h
   unfold bn at h
   split at h
   · rw [P.aoz] at h; exact Eq.trans (by kernel_rfl) h
   · cases h
theorem ok : Proved Tryd.prog GLO.gB 43 spec := iy _ ok0
end aa2

namespace aaz
abbrev X2 := P.bk5
def S2 : X2 → ASt := fun (a, b, c, d, e, f) => ⟨[(7, .sl (.cols a [.ints .i64 b, .ints .i64 c, .rows .u8 d])), (8, .v (.int .i64 e)), (9, .v (.int .i64 f))], [], 0, 21⟩
def V2 : ASt → Option X2
 | ⟨[(7, .sl (.cols a [.ints .i64 b, .ints .i64 c, .rows .u8 d])), (8, .v (.int .i64 e)), (9, .v (.int .i64 f))], [], 0, 21⟩ => some (a, b, c, d, e, f)
 | _ => none
theorem bps (st) (x) (h : V2 st = some x) : st = S2 x := by
 unfold V2 at h
 split at h
 · cases h; rfl
 · cases h
abbrev Y2 := P.bpp
def E2 (K : AExit → ASt → Option R) : Y2 → Option R := (Sum.elim (fun x => K (.exit 0) (S2 x)) (fun (j, e, f, a, b, g, h, i, c, d) => K .ret ⟨[(2, .v (.bool j))], [(1, some ⟨.box 61 [.v (.int .u64 e), .v (.int .u64 f)], false⟩), (1, some ⟨.box 61 [.v (.int .u64 a), .v (.int .u64 b)], false⟩), (0, some ⟨.box 29 [.v (.int .i64 g), .v (.int .i64 h), .sl (.ints .u8 i)], false⟩), (0, some ⟨.box 29 [.v (.int .i64 c), .v (.int .i64 d), .v (.slice none 0 0)], false⟩)], 2, 21⟩))
noncomputable def L2 : wm := fun st K => af4 (V2 st) fun x => P.bpa x (E2 K)
noncomputable def D : Ctx := ({ P := Tryd.prog, G := [(43, aa2.spec)], globs := GLO.gB, hints := [(2, ⟨[7, 8, 9], [], [2], [], none, [], [], []⟩)], loops := [(2, L2)], inl := [] } : Ctx)
theorem bh9 (K) (next) (x) : og D (gq Tryd.f26 2) K next (S2 x) = P.bho x (fun x => next (S2 x)) (E2 K) := by kernel_rfl
theorem bmy : mq D (gq Tryd.f26 2) := jk S2 bps (by kernel_rfl) P.bp1 bh9
theorem loops : dw (Tryd.f26.body.getD .skip) = [gq Tryd.f26 2] := by kernel_rfl
noncomputable def bn : Abs.Spec := fun args K => match args with
 | [.sl (.cols a [.ints .i64 b, .ints .i64 c, .rows .u8 d])] => P.aaz a b c d (fun e => K (.v (.bool e)))
 | _ => none
noncomputable def spec : Abs.Spec := fun args K => bn (qb [.sl (.cols 0 [.ints .i64 [], .ints .i64 [], .rows .u8 []])] args) K
theorem ok0 : Proved Tryd.prog GLO.gB 26 bn := by
 refine eu (D := D) (fn := Tryd.f26) (c := Tryd.f26.body.getD .skip) [.any] (by kernel_rfl) (au (by kernel_rfl)) (by kernel_rfl) (by kernel_rfl) (by kernel_rfl) ⟨aa2.ok, trivial⟩ trivial ?_ ?_
 · rw [loops]; exact ⟨bmy, trivial⟩
 · intro args K r h
   unfold bn at h
   split at h
   · rw [P.aga] at h; exact Eq.trans (by kernel_rfl) h
   · cases h
theorem ok : Proved Tryd.prog GLO.gB 26 spec := iy _ ok0
end aaz

namespace qw
abbrev X11 := P.bhz
def S11 : X11 → ASt := fun (B, C, F, s, t, h, i, j, k, u, w, y, z, l, m, n, o, p, q, r, A, a, b, c, d, e, f, g) => ⟨[(0, .v (.int .u64 B)), (1, .v (.int .u64 C)), (7, .ptr 2 0), (9, .v (.int .u64 F)), (10, .v (.int .u64 s)), (13, .v (.bool t)), (14, .ptr 42 0), (39, .sl (.cols h [.ints .i64 i, .ints .i64 j, .rows .u8 k])), (40, .v (.int .i64 u)), (41, .v (.int .i64 w)), (54, .own 41), (55, .v (.int .i64 y)), (56, .v (.int .i64 z))], [(2, some ⟨.box 27 [.sl (.ints .u8 l), .sl (.ints .u8 m), .v (.int .u64 n), .v (.int .u64 o), .v (.int .u64 p), .v (.int .u64 q), .v (.bool r)], false⟩), (41, some ⟨.row 25 (.ints .u64 A), false⟩), (42, some ⟨.box 27 [.sl (.ints .u8 a), .sl (.ints .u8 b), .v (.int .u64 c), .v (.int .u64 d), .v (.int .u64 e), .v (.int .u64 f), .v (.bool g)], false⟩)], 80, 135⟩
def V11 : ASt → Option X11
 | ⟨[(0, .v (.int .u64 B)), (1, .v (.int .u64 C)), (7, .ptr 2 0), (9, .v (.int .u64 F)), (10, .v (.int .u64 s)), (13, .v (.bool t)), (14, .ptr 42 0), (39, .sl (.cols h [.ints .i64 i, .ints .i64 j, .rows .u8 k])), (40, .v (.int .i64 u)), (41, .v (.int .i64 w)), (54, .own 41), (55, .v (.int .i64 y)), (56, .v (.int .i64 z))], [(2, some ⟨.box 27 [.sl (.ints .u8 l), .sl (.ints .u8 m), .v (.int .u64 n), .v (.int .u64 o), .v (.int .u64 p), .v (.int .u64 q), .v (.bool r)], false⟩), (41, some ⟨.row 25 (.ints .u64 A), false⟩), (42, some ⟨.box 27 [.sl (.ints .u8 a), .sl (.ints .u8 b), .v (.int .u64 c), .v (.int .u64 d), .v (.int .u64 e), .v (.int .u64 f), .v (.bool g)], false⟩)], 80, 135⟩ => some (B, C, F, s, t, h, i, j, k, u, w, y, z, l, m, n, o, p, q, r, A, a, b, c, d, e, f, g)
 | _ => none
theorem atg (st) (x) (h : V11 st = some x) : st = S11 x := by
 unfold V11 at h
 split at h
 · cases h; rfl
 · cases h
abbrev Y11 := P.bnb
abbrev X6 := P.blb
def S6 : X6 → ASt := fun (o, p, q, l, a, b, c, d, m, n, e, f, g, h, i, j, k) => ⟨[(0, .v (.int .u64 o)), (1, .v (.int .u64 p)), (7, .ptr 2 0), (9, .v (.int .u64 q)), (10, .v (.int .u64 l)), (39, .sl (.cols a [.ints .i64 b, .ints .i64 c, .rows .u8 d])), (40, .v (.int .i64 m)), (41, .v (.int .i64 n))], [(2, some ⟨.box 27 [.sl (.ints .u8 e), .sl (.ints .u8 f), .v (.int .u64 g), .v (.int .u64 h), .v (.int .u64 i), .v (.int .u64 j), .v (.bool k)], false⟩)], 40, 135⟩
def V6 : ASt → Option X6
 | ⟨[(0, .v (.int .u64 o)), (1, .v (.int .u64 p)), (7, .ptr 2 0), (9, .v (.int .u64 q)), (10, .v (.int .u64 l)), (39, .sl (.cols a [.ints .i64 b, .ints .i64 c, .rows .u8 d])), (40, .v (.int .i64 m)), (41, .v (.int .i64 n))], [(2, some ⟨.box 27 [.sl (.ints .u8 e), .sl (.ints .u8 f), .v (.int .u64 g), .v (.int .u64 h), .v (.int .u64 i), .v (.int .u64 j), .v (.bool k)], false⟩)], 40, 135⟩ => some (o, p, q, l, a, b, c, d, m, n, e, f, g, h, i, j, k)
 | _ => none
theorem bfq (st) (x) (h : V6 st = some x) : st = S6 x := by
 unfold V6 at h
 split at h
 · cases h; rfl
 · cases h
abbrev Y6 := P.bou
def E11 (K : AExit → ASt → Option R) : Y11 → Option R := (fun x => K (.exit 2) (S11 x))
noncomputable def L11 : wm := fun st K => af4 (V11 st) fun x => P.boh x (E11 K)
def E6 (K : AExit → ASt → Option R) : Y6 → Option R := (Sum.elim (fun x => K (.exit 0) (S6 x)) (fun (p, h, i, j, k, l, m, n, o, a, b, c, d, e, f, g) => K .ret ⟨[(6, .v (.bool p))], [(2, some ⟨.box 27 [.sl (.ints .u8 h), .sl (.ints .u8 i), .v (.int .u64 j), .v (.int .u64 k), .v (.int .u64 l), .v (.int .u64 m), .v (.bool n)], false⟩), (41, some ⟨.row 25 (.ints .u64 o), false⟩), (42, some ⟨.box 27 [.sl (.ints .u8 a), .sl (.ints .u8 b), .v (.int .u64 c), .v (.int .u64 d), .v (.int .u64 e), .v (.int .u64 f), .v (.bool g)], false⟩)], 80, 135⟩))
noncomputable def L6 : wm := fun st K => af4 (V6 st) fun x => P.bn9 x (E6 K)
noncomputable def D : Ctx := ({ P := Tryd.prog, G := [(8, afy.spec), (9, qj.spec), (12, su.spec), (21, yh.spec), (26, aaz.spec)], globs := GLO.gB, hints := [(11, ⟨[0, 1, 7, 9, 10, 13, 14, 39, 40, 41, 54, 55, 56], [], [6], [], some (80, [2, 41, 42]), [2, 42], [], []⟩), (6, ⟨[0, 1, 7, 9, 10, 39, 40, 41], [], [6], [], some (40, [2]), [2], [], []⟩)], loops := [(11, L11), (6, L6)], inl := [] } : Ctx)
theorem ao0 (K) (next) (x) : og D (gq Tryd.f6 11) K next (S11 x) = P.bix x (fun x => next (S11 x)) (E11 K) := by kernel_rfl
theorem auw : mq D (gq Tryd.f6 11) := jk S11 atg (by kernel_rfl) P.bqc ao0
theorem bcf (K) (next) (x) : og D (gq Tryd.f6 6) K next (S6 x) = P.bh5 x (fun x => next (S6 x)) (E6 K) := by kernel_rfl
theorem bg5 : mq D (gq Tryd.f6 6) := jk S6 bfq (by kernel_rfl) P.bqk bcf
theorem loops : dw (Tryd.f6.body.getD .skip) = [gq Tryd.f6 6, gq Tryd.f6 11] := by kernel_rfl
noncomputable def bn : Abs.Spec := fun args K => match args with
 | [.v (.int .u64 e), .v (.int .u64 f), .sl (.cols a [.ints .i64 b, .ints .i64 c, .rows .u8 d])] => P.qw e f a b c d (fun g => K (.v (.bool g)))
 | _ => none
noncomputable def spec : Abs.Spec := fun args K => bn (qb [.any, .any, .sl (.cols 0 [.ints .i64 [], .ints .i64 [], .rows .u8 []])] args) K
theorem ok0 : Proved Tryd.prog GLO.gB 6 bn := by
 refine eu (D := D) (fn := Tryd.f6) (c := Tryd.f6.body.getD .skip) [.any] (by kernel_rfl) (au (by kernel_rfl)) (by kernel_rfl) (by kernel_rfl) (by kernel_rfl) ⟨afy.ok, qj.ok, su.ok, yh.ok, aaz.ok, trivial⟩ trivial ?_ ?_
 · rw [loops]; exact ⟨bg5, auw, trivial⟩
 · intro args K r h
   unfold bn at h
   split at h
   · rw [P.agh] at h; exact Eq.trans (by kernel_rfl) h
   · cases h
theorem ok : Proved Tryd.prog GLO.gB 6 spec := iy _ ok0
end qw

end
