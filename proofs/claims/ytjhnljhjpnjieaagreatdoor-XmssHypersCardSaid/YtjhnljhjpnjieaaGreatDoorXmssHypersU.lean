/-
  XmssHypers, part 21: an interpreter of my own over abstract values, the pure functions, the walks and the plain law.
-/

import Derived.Test.YtjhnljhjpnjieaaGreatDoorXmssHypersI
import Derived.Test.YtjhnljhjpnjieaaGreatDoorXmssHypersG
import Derived.Test.YtjhnljhjpnjieaaGreatDoorProg
import Derived.Test.YtjhnljhjpnjieaaGreatDoorXmssHypersH
import Derived.Test.YtjhnljhjpnjieaaGreatDoorXmssHypersT
import Derived.Test.YtjhnljhjpnjieaaGreatDoorXmssHypersP
import Derived.Test.YtjhnljhjpnjieaaGreatDoorXmssHypersK
import Derived.KernelRfl
import Derived.Test.YtjhnljhjpnjieaaGreatDoorXmssHypersM
import Derived.Test.YtjhnljhjpnjieaaGreatDoorXmssHypersO
import Derived.Test.YtjhnljhjpnjieaaGreatDoorXmssHypersJ

section
open Go Go.Abs Go.Proofs
set_option maxRecDepth 100000
set_option maxHeartbeats 0
set_option linter.unusedVariables false

namespace jc
abbrev X7 := P.bzd
def S7 : X7 → ASt := fun (s, o, p, q, r, a, b, c, d, e, f, g, h, i, j, k, l, m, n) => ⟨[(5, .v (.int .u64 s)), (6, .ptr 0 0), (13, .ptr 3 0), (15, .sl (.ints .u8 o)), (16, .sl (.ints .u8 p)), (66, .v (.int .i64 q)), (67, .v (.int .i64 r))], [(0, some ⟨.box 23 [.v (.int .i64 a), .v (.int .i64 b), .v (.int .i64 c), .v (.int .i64 d), .v (.int .i64 e), .v (.bool f)], false⟩), (3, some ⟨.box 68 [.v (.int .i64 g), .v (.int .i64 h), .v (.int .i64 i), .v (.int .i64 j), .v (.int .i64 k), .v (.bool l), .v (.slice none 0 0), .sl (.ints .u8 m), .arr .u8 32 n], false⟩)], 40, 98⟩
def V7 : ASt → Option X7
 | ⟨[(5, .v (.int .u64 s)), (6, .ptr 0 0), (13, .ptr 3 0), (15, .sl (.ints .u8 o)), (16, .sl (.ints .u8 p)), (66, .v (.int .i64 q)), (67, .v (.int .i64 r))], [(0, some ⟨.box 23 [.v (.int .i64 a), .v (.int .i64 b), .v (.int .i64 c), .v (.int .i64 d), .v (.int .i64 e), .v (.bool f)], false⟩), (3, some ⟨.box 68 [.v (.int .i64 g), .v (.int .i64 h), .v (.int .i64 i), .v (.int .i64 j), .v (.int .i64 k), .v (.bool l), .v (.slice none 0 0), .sl (.ints .u8 m), .arr .u8 32 n], false⟩)], 40, 98⟩ => some (s, o, p, q, r, a, b, c, d, e, f, g, h, i, j, k, l, m, n)
 | _ => none
theorem bhu (st) (x) (h : V7 st = some x) : st = S7 x := by
 unfold V7 at h
 split at h
 · cases h; rfl
 · cases h
abbrev Y7 := P.b7p
def E7 (K : AExit → ASt → Option R) : Y7 → Option R := (fun x => K (.exit 0) (S7 x))
noncomputable def L7 : oz := fun st K => abx (V7 st) fun x => P.cah x (E7 K)
noncomputable def D : Ctx := ({ P := Tryz.prog, G := [(24, mg.spec), (51, iy.spec), (52, ku.spec), (58, oo.spec), (60, sj.spec), (61, qh.spec)], globs := GLO.gx, hints := [(7, ⟨[5, 6, 13, 15, 16, 66, 67], [], [12], [(15, .sl (.ints .u8 [])), (16, .sl (.ints .u8 []))], some (40, [0, 3]), [], []⟩)], loops := [(7, L7)], inl := [] } : Ctx)
theorem ayk (K) (next) (x) : jo D (dz Tryz.f30 7) K next (S7 x) = P.bxz x (fun x => next (S7 x)) (E7 K) := by kernel_rfl
theorem biu : jl D (dz Tryz.f30 7) := gq S7 bhu (by kernel_rfl) P.ccu ayk
theorem loops : d9 (Tryz.f30.body.getD .skip) = [dz Tryz.f30 7] := by kernel_rfl
noncomputable def bn : Abs.Spec := fun args K => match args with
 | [.agg [.v (.int .i64 b), .v (.int .i64 c), .v (.int .i64 d), .v (.int .i64 e), .v (.int .i64 f), .v (.bool a)], .sl (.ints .u8 g), .sl (.ints .u8 h), .sl (.ints .u8 i), .arr .u8 32 j, .v (.int .u64 k)] => P.jc b c d e f a g h i j k (fun l => K (.sl (.ints .u8 l)))
 | _ => none
noncomputable def spec : Abs.Spec := fun args K => bn (og [.any, .sl (.ints .u8 []), .sl (.ints .u8 []), .sl (.ints .u8 []), .any, .any] args) K
theorem ok0 : Proved Tryz.prog GLO.gx 30 bn := by
 refine dh (D := D) (fn := Tryz.f30) (c := Tryz.f30.body.getD .skip) [.sl (.ints .u8 [])] (by kernel_rfl) (bf (by kernel_rfl)) (by kernel_rfl) (by kernel_rfl) (by kernel_rfl) ⟨mg.ok, iy.ok, ku.ok, oo.ok, sj.ok, qh.ok, trivial⟩ trivial ?_ ?_
 · rw [loops]; exact ⟨biu, trivial⟩
 · intro args K r h
   unfold bn at h
   split at h
   · rw [P.akp] at h; exact Eq.trans (by kernel_rfl) h
   · cases h
theorem ok : Proved Tryz.prog GLO.gx 30 spec := eu _ ok0
end jc

namespace ac4
abbrev X6 := P.by9
def S6 : X6 → ASt := fun (B, y, z, A, o, p, q, r, s, t, u, w, a, b, c, d, e, f, g, h, i, j, k, l, m, n, C) => ⟨[(13, .own 40), (2, .sl (.ints .u8 B)), (9, .ptr 1 0), (11, .ptr 2 0), (41, .own 3), (42, .v (.int .i64 y)), (43, .v (.int .i64 z))], [(40, some ⟨.row 5 (.ints .u8 A), false⟩), (1, some ⟨.box 25 [.arr .u8 32 o], false⟩), (2, some ⟨.box 97 [.v (.int .i64 p), .v (.int .i64 q), .v (.int .i64 r), .v (.int .i64 s), .v (.int .i64 t), .v (.bool u), .alt w (.func 123) [] [.sta [.v (.int .i64 a), .arr .u64 25 b, .v (.int .i64 c), .v (.bool d)], .sta [.v (.int .i64 e)]] (.func 126) [] [.sta [.v (.int .i64 f), .arr .u64 8 g, .sl (.ints .u8 h), .v (.int .u64 i)], .sta [.v (.int .i64 j)], .sta [.v (.int .i64 k), .arr .u64 8 l, .sl (.ints .u8 m), .v (.int .u64 n)]]], false⟩), (3, some ⟨.row 64 (.ints .u32 C), false⟩)], 41, 64⟩
def V6 : ASt → Option X6
 | ⟨[(13, .own 40), (2, .sl (.ints .u8 B)), (9, .ptr 1 0), (11, .ptr 2 0), (41, .own 3), (42, .v (.int .i64 y)), (43, .v (.int .i64 z))], [(40, some ⟨.row 5 (.ints .u8 A), false⟩), (1, some ⟨.box 25 [.arr .u8 32 o], false⟩), (2, some ⟨.box 97 [.v (.int .i64 p), .v (.int .i64 q), .v (.int .i64 r), .v (.int .i64 s), .v (.int .i64 t), .v (.bool u), .alt w (.func 123) [] [.sta [.v (.int .i64 a), .arr .u64 25 b, .v (.int .i64 c), .v (.bool d)], .sta [.v (.int .i64 e)]] (.func 126) [] [.sta [.v (.int .i64 f), .arr .u64 8 g, .sl (.ints .u8 h), .v (.int .u64 i)], .sta [.v (.int .i64 j)], .sta [.v (.int .i64 k), .arr .u64 8 l, .sl (.ints .u8 m), .v (.int .u64 n)]]], false⟩), (3, some ⟨.row 64 (.ints .u32 C), false⟩)], 41, 64⟩ => some (B, y, z, A, o, p, q, r, s, t, u, w, a, b, c, d, e, f, g, h, i, j, k, l, m, n, C)
 | _ => none
theorem ail (st) (x) (h : V6 st = some x) : st = S6 x := by
 unfold V6 at h
 split at h
 · cases h; rfl
 · cases h
abbrev Y6 := P.cak
def E6 (K : AExit → ASt → Option R) : Y6 → Option R := (fun x => K (.exit 0) (S6 x))
noncomputable def L6 : oz := fun st K => abx (V6 st) fun x => P.b5o x (E6 K)
noncomputable def D : Ctx := ({ P := Tryz.prog, G := [(80, ig.spec), (87, qy.spec), (88, ug.spec), (89, kr.spec), (90, ny.spec)], globs := GLO.gx, hints := [(6, ⟨[2, 9, 11, 41, 42, 43], [(13, 5, .ints .u8 [])], [10], [], some (40, [1, 2, 3]), [], []⟩)], loops := [(6, L6)], inl := [] } : Ctx)
theorem adf (K) (next) (x) : jo D (dz Tryz.f57 6) K next (S6 x) = P.b04 x (fun x => next (S6 x)) (E6 K) := by kernel_rfl
theorem aif : jl D (dz Tryz.f57 6) := gq S6 ail (by kernel_rfl) P.cdn adf
theorem loops : d9 (Tryz.f57.body.getD .skip) = [dz Tryz.f57 6] := by kernel_rfl
noncomputable def bn : Abs.Spec := fun args K => match args with
 | [.agg [.v (.int .i64 b), .v (.int .i64 c), .v (.int .i64 d), .v (.int .i64 e), .v (.int .i64 f), .v (.bool a)], .sl (.ints .u8 g), .sl (.ints .u8 h), .sl (.ints .u8 i), .arr .u8 32 j] => P.ac4 b c d e f a g h i j (fun k => K (.fr 5 (.ints .u8 k)))
 | _ => none
noncomputable def spec : Abs.Spec := fun args K => bn (og [.any, .sl (.ints .u8 []), .sl (.ints .u8 []), .sl (.ints .u8 []), .any] args) K
theorem ok0 : Proved Tryz.prog GLO.gx 57 bn := by
 refine dh (D := D) (fn := Tryz.f57) (c := Tryz.f57.body.getD .skip) [.fr 5 (.ints .u8 [])] (by kernel_rfl) (bf (by kernel_rfl)) (by kernel_rfl) (by kernel_rfl) (by kernel_rfl) ⟨ig.ok, qy.ok, ug.ok, kr.ok, ny.ok, trivial⟩ trivial ?_ ?_
 · rw [loops]; exact ⟨aif, trivial⟩
 · intro args K r h
   unfold bn at h
   split at h
   · rw [P.awd] at h; exact Eq.trans (by kernel_rfl) h
   · cases h
theorem ok : Proved Tryz.prog GLO.gx 57 spec := eu _ ok0
end ac4

namespace yh
abbrev X6 := P.bwq
def S6 : X6 → ASt := fun (m, j, k, l, a, b, c, d, e, f, g, h, i) => ⟨[(14, .own 40), (5, .v (.int .u64 m)), (13, .ptr 3 0), (44, .v (.int .i64 j)), (45, .v (.int .i64 k))], [(40, some ⟨.row 5 (.ints .u8 l), false⟩), (3, some ⟨.box 68 [.v (.int .i64 a), .v (.int .i64 b), .v (.int .i64 c), .v (.int .i64 d), .v (.int .i64 e), .v (.bool f), .sl (.ints .u8 g), .sl (.ints .u8 h), .arr .u8 32 i], false⟩)], 41, 59⟩
def V6 : ASt → Option X6
 | ⟨[(14, .own 40), (5, .v (.int .u64 m)), (13, .ptr 3 0), (44, .v (.int .i64 j)), (45, .v (.int .i64 k))], [(40, some ⟨.row 5 (.ints .u8 l), false⟩), (3, some ⟨.box 68 [.v (.int .i64 a), .v (.int .i64 b), .v (.int .i64 c), .v (.int .i64 d), .v (.int .i64 e), .v (.bool f), .sl (.ints .u8 g), .sl (.ints .u8 h), .arr .u8 32 i], false⟩)], 41, 59⟩ => some (m, j, k, l, a, b, c, d, e, f, g, h, i)
 | _ => none
theorem ail (st) (x) (h : V6 st = some x) : st = S6 x := by
 unfold V6 at h
 split at h
 · cases h; rfl
 · cases h
abbrev Y6 := P.b5k
def E6 (K : AExit → ASt → Option R) : Y6 → Option R := (fun x => K (.exit 0) (S6 x))
noncomputable def L6 : oz := fun st K => abx (V6 st) fun x => P.b8q x (E6 K)
noncomputable def D : Ctx := ({ P := Tryz.prog, G := [(51, iy.spec), (52, ku.spec), (53, ow.spec), (57, ac4.spec), (58, oo.spec)], globs := GLO.gx, hints := [(6, ⟨[5, 13, 44, 45], [(14, 5, .ints .u8 [])], [12], [], some (40, [3]), [], []⟩)], loops := [(6, L6)], inl := [] } : Ctx)
theorem adf (K) (next) (x) : jo D (dz Tryz.f28 6) K next (S6 x) = P.bxs x (fun x => next (S6 x)) (E6 K) := by kernel_rfl
theorem aif : jl D (dz Tryz.f28 6) := gq S6 ail (by kernel_rfl) P.ccb adf
theorem loops : d9 (Tryz.f28.body.getD .skip) = [dz Tryz.f28 6] := by kernel_rfl
noncomputable def bn : Abs.Spec := fun args K => match args with
 | [.agg [.v (.int .i64 b), .v (.int .i64 c), .v (.int .i64 d), .v (.int .i64 e), .v (.int .i64 f), .v (.bool a)], .sl (.ints .u8 g), .sl (.ints .u8 h), .sl (.ints .u8 i), .arr .u8 32 j, .v (.int .u64 k)] => P.yh b c d e f a g h i j k (fun l => K (.fr 5 (.ints .u8 l)))
 | _ => none
noncomputable def spec : Abs.Spec := fun args K => bn (og [.any, .sl (.ints .u8 []), .sl (.ints .u8 []), .sl (.ints .u8 []), .any, .any] args) K
theorem ok0 : Proved Tryz.prog GLO.gx 28 bn := by
 refine dh (D := D) (fn := Tryz.f28) (c := Tryz.f28.body.getD .skip) [.fr 5 (.ints .u8 [])] (by kernel_rfl) (bf (by kernel_rfl)) (by kernel_rfl) (by kernel_rfl) (by kernel_rfl) ⟨iy.ok, ku.ok, ow.ok, ac4.ok, oo.ok, trivial⟩ trivial ?_ ?_
 · rw [loops]; exact ⟨aif, trivial⟩
 · intro args K r h
   unfold bn at h
   split at h
   · rw [P.avw] at h; exact Eq.trans (by kernel_rfl) h
   · cases h
theorem ok : Proved Tryz.prog GLO.gx 28 spec := eu _ ok0
end yh

namespace jy
noncomputable def D : Ctx := ({ P := Tryz.prog, G := [(51, iy.spec)], globs := GLO.gx, hints := [], loops := [], inl := [] } : Ctx)
theorem loops : d9 (Tryz.f63.body.getD .skip) = [] := by kernel_rfl
noncomputable def bn : Abs.Spec := fun args K => match args with
 | [.agg [.v (.int .i64 b), .v (.int .i64 c), .v (.int .i64 d), .v (.int .i64 e), .v (.int .i64 f), .v (.bool a)], .v (.int .u64 g), .v (.int .u64 h)] => P.jy b c d e f a g h (fun i => K (.v (.bool i)))
 | _ => none
noncomputable def spec : Abs.Spec := bn
theorem ok0 : Proved Tryz.prog GLO.gx 63 bn := by
 refine dh (D := D) (fn := Tryz.f63) (c := Tryz.f63.body.getD .skip) [.any] (by kernel_rfl) (bf (by kernel_rfl)) (by kernel_rfl) (by kernel_rfl) (by kernel_rfl) ⟨iy.ok, trivial⟩ trivial ?_ ?_
 · rw [loops]; exact trivial
 · intro args K r h
   unfold bn at h
   split at h
   · rw [P.aj2] at h; exact Eq.trans (by kernel_rfl) h
   · cases h
theorem ok : Proved Tryz.prog GLO.gx 63 spec := ok0
end jy

namespace aat
abbrev bv3 := P.bzj
def boi : bv3 → ASt := fun (s, t, a, b, c, d, e, f, g, h, i, j, k, l, m, n, o, p, q, r) => ⟨[(0, .yld 9 [6, 7, 8, 9, 13] [.ptr 0 0, .ptr 1 0, .ptr 2 0, .ptr 3 0, .ptr 5 0]), (1, .ptr 6 0), (2, .ptr 7 0), (3, .ptr 8 0), (8, .v (.int .i64 s)), (9, .v (.int .i64 t))], [(840, some ⟨.row 5 (.ints .u8 a), false⟩), (0, some ⟨.box 23 [.v (.int .i64 b), .v (.int .i64 c), .v (.int .i64 d), .v (.int .i64 e), .v (.int .i64 f), .v (.bool g)], false⟩), (1, some ⟨.box 26 [.sl (.ints .u8 h)], false⟩), (2, some ⟨.box 26 [.sl (.ints .u8 i)], false⟩), (3, some ⟨.box 26 [.sl (.ints .u8 j)], false⟩), (5, some ⟨.box 26 [.own 840], false⟩), (6, some ⟨.box 23 [.v (.int .i64 k), .v (.int .i64 l), .v (.int .i64 m), .v (.int .i64 n), .v (.int .i64 o), .v (.bool p)], false⟩), (7, some ⟨.box 27 [.v (.int .u64 q)], false⟩), (8, some ⟨.box 27 [.v (.int .u64 r)], false⟩)], 841, 35⟩
def btt : ASt → Option bv3
 | ⟨[(0, .yld 9 [6, 7, 8, 9, 13] [.ptr 0 0, .ptr 1 0, .ptr 2 0, .ptr 3 0, .ptr 5 0]), (1, .ptr 6 0), (2, .ptr 7 0), (3, .ptr 8 0), (8, .v (.int .i64 s)), (9, .v (.int .i64 t))], [(840, some ⟨.row 5 (.ints .u8 a), false⟩), (0, some ⟨.box 23 [.v (.int .i64 b), .v (.int .i64 c), .v (.int .i64 d), .v (.int .i64 e), .v (.int .i64 f), .v (.bool g)], false⟩), (1, some ⟨.box 26 [.sl (.ints .u8 h)], false⟩), (2, some ⟨.box 26 [.sl (.ints .u8 i)], false⟩), (3, some ⟨.box 26 [.sl (.ints .u8 j)], false⟩), (5, some ⟨.box 26 [.own 840], false⟩), (6, some ⟨.box 23 [.v (.int .i64 k), .v (.int .i64 l), .v (.int .i64 m), .v (.int .i64 n), .v (.int .i64 o), .v (.bool p)], false⟩), (7, some ⟨.box 27 [.v (.int .u64 q)], false⟩), (8, some ⟨.box 27 [.v (.int .u64 r)], false⟩)], 841, 35⟩ => some (s, t, a, b, c, d, e, f, g, h, i, j, k, l, m, n, o, p, q, r)
 | _ => none
theorem bie (st) (x) (h : btt st = some x) : st = boi x := by
 unfold btt at h
 split at h
 · cases h; rfl
 · cases h
abbrev b6d := P.b7k
def bve (K : AExit → ASt → Option R) : b6d → Option R := (fun x => K (.exit 0) (boi x))
noncomputable def cac : oz := fun st K => abx (btt st) fun x => P.b7c x (bve K)
noncomputable def D3 : Ctx := ({ P := Tryz.prog, G := [(28, yh.spec), (30, jc.spec), (51, iy.spec), (52, ku.spec), (63, jy.spec), (80, ig.spec)], globs := GLO.gx, hints := [], loops := [], inl := [], y := some (bfl (ajf Tryz.f32 6) 57 false) } : Ctx)
noncomputable def D2 : Ctx := ({ P := Tryz.prog, G := [(28, yh.spec), (30, jc.spec), (51, iy.spec), (52, ku.spec), (63, jy.spec), (80, ig.spec)], globs := GLO.gx, hints := [(1, ⟨[0, 1, 2, 3, 8, 9], [(1000005, 5, .ints .u8 [])], [], [], some (840, [0, 1, 2, 3, 5, 6, 7, 8]), [0, 1, 2, 3, 6, 7, 8], []⟩)], loops := [(1, cac)], inl := [], y := some (bfl (ajf Tryz.f32 6) 57 true), ys := some (av8 D3 (bfl (ajf Tryz.f32 6) 57 true)) } : Ctx)
noncomputable def D1 : Ctx := ({ P := Tryz.prog, G := [(28, yh.spec), (30, jc.spec), (51, iy.spec), (52, ku.spec), (63, jy.spec), (80, ig.spec)], globs := GLO.gx, hints := [], loops := [], inl := [] } : Ctx)
noncomputable def D : Ctx := ({ P := Tryz.prog, G := [(28, yh.spec), (30, jc.spec), (51, iy.spec), (52, ku.spec), (63, jy.spec), (80, ig.spec)], globs := GLO.gx, hints := [], loops := [], inl := [(64, ahi D1 Tryz.f64)], top := true, rng := [(6, ⟨95, 57, [6, 7, 8, 9, 13], ahi D2 Tryz.f95⟩)] } : Ctx)
theorem bdt (K) (next) (x) : jo D2 (dz Tryz.f95 1) K next (boi x) = P.bvn x (fun x => next (boi x)) (bve K) := by kernel_rfl
theorem biy : jl D2 (dz Tryz.f95 1) := gq boi bie (by kernel_rfl) P.cc2 bdt
theorem loops : d9 (Tryz.f32.body.getD .skip) = [] := by kernel_rfl
theorem ani : d9 (Tryz.f64.body.getD .skip) = [] := by kernel_rfl
theorem bgn : d9 (Tryz.f95.body.getD .skip) = [dz Tryz.f95 1] := by kernel_rfl
theorem bml : d9 (buy (ajf Tryz.f32 6)) = [] := by kernel_rfl
theorem ranges : wz (Tryz.f32.body.getD .skip) = [ajf Tryz.f32 6] := by kernel_rfl
theorem bde : aqp D2 (av8 D3 (bfl (ajf Tryz.f32 6) 57 true)) := bfj (Y := bfl (ajf Tryz.f32 6) 57 true) (bbs (D := D3) ⟨yh.ok, jc.ok, iy.ok, ku.ok, jy.ok, ig.ok, trivial⟩) (bf (by kernel_rfl)) (bbp (D := D3) trivial (aus rfl)) (by kernel_rfl) rfl rfl (by kernel_rfl) (by kernel_rfl) rfl rfl rfl (ajm _ (by rw [show d9 (bfl (ajf Tryz.f32 6) 57 true).assign = [] from by kernel_rfl]; exact trivial)) (ajm _ (by rw [show d9 (bfl (ajf Tryz.f32 6) 57 true).body = d9 (buy (ajf Tryz.f32 6)) from by kernel_rfl, bml]; exact trivial))
noncomputable def bn : Abs.Spec := fun args K => match args with
 | [.agg [.v (.int .i64 b), .v (.int .i64 c), .v (.int .i64 d), .v (.int .i64 e), .v (.int .i64 f), .v (.bool a)], .sl (.ints .u8 g), .sl (.ints .u8 h), .sl (.ints .u8 i), .v (.int .u64 j), .v (.int .u64 k)] => P.aat b c d e f a g h i j k (fun l => K (.fr 5 (.ints .u8 l)))
 | _ => none
noncomputable def spec : Abs.Spec := fun args K => bn (og [.any, .sl (.ints .u8 []), .sl (.ints .u8 []), .sl (.ints .u8 []), .any, .any] args) K
theorem ok0 : Proved Tryz.prog GLO.gx 32 bn := by
 refine dh (D := D) (fn := Tryz.f32) (c := Tryz.f32.body.getD .skip) [.fr 5 (.ints .u8 [])] (by kernel_rfl) (bf (by kernel_rfl)) (by kernel_rfl) (by kernel_rfl) (by kernel_rfl) ⟨yh.ok, jc.ok, iy.ok, ku.ok, jy.ok, ig.ok, trivial⟩ ⟨asi (D := D1) (D' := D) (fn := Tryz.f64) (c := Tryz.f64.body.getD .skip) rfl rfl (by kernel_rfl) (bf (by kernel_rfl)) (by kernel_rfl) (by kernel_rfl) (by kernel_rfl) ⟨yh.ok, jc.ok, iy.ok, ku.ok, jy.ok, ig.ok, trivial⟩ trivial (by rw [ani]; exact trivial) (fun _ _ _ _ _ h => h), trivial⟩ ?_ ?_ (hRg := by rw [ranges]; exact ⟨ba4 (D := D) (Di := D2) (e := ⟨95, 57, [6, 7, 8, 9, 13], ahi D2 Tryz.f95⟩) (by kernel_rfl) rfl rfl (by kernel_rfl) (asi (D := D2) (D' := D2) (fn := Tryz.f95) (c := Tryz.f95.body.getD .skip) rfl rfl (by kernel_rfl) (bf (by kernel_rfl)) (by kernel_rfl) (by kernel_rfl) (by kernel_rfl) ⟨yh.ok, jc.ok, iy.ok, ku.ok, jy.ok, ig.ok, trivial⟩ trivial (by rw [bgn]; exact ⟨biy, trivial⟩) (fun _ _ _ _ _ h => h) rfl rfl (ath rfl _) (fun s hs => by have hs : some (av8 D3 (bfl (ajf Tryz.f32 6) 57 true)) = some s := hs; cases hs; exact bde)), trivial⟩)
 · rw [loops]; exact trivial
 · intro args K r h
   unfold bn at h
   split at h
   · rw [P.ads] at h; exact Eq.trans (by kernel_rfl) h
   · cases h
theorem ok : Proved Tryz.prog GLO.gx 32 spec := eu _ ok0
end aat

namespace yj
abbrev X5 := P.b0a
def S5 : X5 → ASt := fun (c, d, e, a, b) => ⟨[(0, .sl (.ints .u8 c)), (1, .sl (.ints .u8 d)), (5, .v (.int .u8 e)), (13, .v (.int .i64 a)), (14, .v (.int .i64 b))], [], 0, 31⟩
def V5 : ASt → Option X5
 | ⟨[(0, .sl (.ints .u8 c)), (1, .sl (.ints .u8 d)), (5, .v (.int .u8 e)), (13, .v (.int .i64 a)), (14, .v (.int .i64 b))], [], 0, 31⟩ => some (c, d, e, a, b)
 | _ => none
theorem al9 (st) (x) (h : V5 st = some x) : st = S5 x := by
 unfold V5 at h
 split at h
 · cases h; rfl
 · cases h
abbrev Y5 := P.b7f
def E5 (K : AExit → ASt → Option R) : Y5 → Option R := (fun x => K (.exit 0) (S5 x))
noncomputable def L5 : oz := fun st K => abx (V5 st) fun x => P.b83 x (E5 K)
noncomputable def D : Ctx := ({ P := Tryz.prog, G := [], globs := GLO.gx, hints := [(5, ⟨[0, 1, 5, 13, 14], [], [4], [], none, [], []⟩)], loops := [(5, L5)], inl := [] } : Ctx)
theorem aey (K) (next) (x) : jo D (dz Tryz.f67 5) K next (S5 x) = P.bv6 x (fun x => next (S5 x)) (E5 K) := by kernel_rfl
theorem al6 : jl D (dz Tryz.f67 5) := gq S5 al9 (by kernel_rfl) P.cbz aey
theorem loops : d9 (Tryz.f67.body.getD .skip) = [dz Tryz.f67 5] := by kernel_rfl
noncomputable def bn : Abs.Spec := fun args K => match args with
 | [.sl (.ints .u8 a), .sl (.ints .u8 b)] => P.yj a b (fun c => K (.v (.bool c)))
 | _ => none
noncomputable def spec : Abs.Spec := fun args K => bn (og [.sl (.ints .u8 []), .sl (.ints .u8 [])] args) K
theorem ok0 : Proved Tryz.prog GLO.gx 67 bn := by
 refine dh (D := D) (fn := Tryz.f67) (c := Tryz.f67.body.getD .skip) [.any] (by kernel_rfl) (bf (by kernel_rfl)) (by kernel_rfl) (by kernel_rfl) (by kernel_rfl) trivial trivial ?_ ?_
 · rw [loops]; exact ⟨al6, trivial⟩
 · intro args K r h
   unfold bn at h
   split at h
   · rw [P.avy] at h; exact Eq.trans (by kernel_rfl) h
   · cases h
theorem ok : Proved Tryz.prog GLO.gx 67 spec := eu _ ok0
end yj

namespace y5
abbrev bv3 := P.by6
def boi : bv3 → ASt := fun (a, s, t, b, c, d, e, f, g, h, i, j, k, l, m, n, o, p, q, r) => ⟨[(0, .yld 8 [4, 7, 8, 9, 10] [.sl (.ints .u8 a), .ptr 0 0, .ptr 1 0, .ptr 2 0, .ptr 3 0]), (1, .ptr 5 0), (2, .ptr 6 0), (3, .ptr 7 0), (8, .v (.int .i64 s)), (9, .v (.int .i64 t))], [(0, some ⟨.box 23 [.v (.int .i64 b), .v (.int .i64 c), .v (.int .i64 d), .v (.int .i64 e), .v (.int .i64 f), .v (.bool g)], false⟩), (1, some ⟨.box 26 [.sl (.ints .u8 h)], false⟩), (2, some ⟨.box 26 [.sl (.ints .u8 i)], false⟩), (3, some ⟨.box 26 [.sl (.ints .u8 j)], false⟩), (5, some ⟨.box 23 [.v (.int .i64 k), .v (.int .i64 l), .v (.int .i64 m), .v (.int .i64 n), .v (.int .i64 o), .v (.bool p)], false⟩), (6, some ⟨.box 27 [.v (.int .u64 q)], false⟩), (7, some ⟨.box 27 [.v (.int .u64 r)], false⟩)], 840, 35⟩
def btt : ASt → Option bv3
 | ⟨[(0, .yld 8 [4, 7, 8, 9, 10] [.sl (.ints .u8 a), .ptr 0 0, .ptr 1 0, .ptr 2 0, .ptr 3 0]), (1, .ptr 5 0), (2, .ptr 6 0), (3, .ptr 7 0), (8, .v (.int .i64 s)), (9, .v (.int .i64 t))], [(0, some ⟨.box 23 [.v (.int .i64 b), .v (.int .i64 c), .v (.int .i64 d), .v (.int .i64 e), .v (.int .i64 f), .v (.bool g)], false⟩), (1, some ⟨.box 26 [.sl (.ints .u8 h)], false⟩), (2, some ⟨.box 26 [.sl (.ints .u8 i)], false⟩), (3, some ⟨.box 26 [.sl (.ints .u8 j)], false⟩), (5, some ⟨.box 23 [.v (.int .i64 k), .v (.int .i64 l), .v (.int .i64 m), .v (.int .i64 n), .v (.int .i64 o), .v (.bool p)], false⟩), (6, some ⟨.box 27 [.v (.int .u64 q)], false⟩), (7, some ⟨.box 27 [.v (.int .u64 r)], false⟩)], 840, 35⟩ => some (a, s, t, b, c, d, e, f, g, h, i, j, k, l, m, n, o, p, q, r)
 | _ => none
theorem bie (st) (x) (h : btt st = some x) : st = boi x := by
 unfold btt at h
 split at h
 · cases h; rfl
 · cases h
abbrev b6d := P.b9g
def bve (K : AExit → ASt → Option R) : b6d → Option R := (fun x => K (.exit 0) (boi x))
noncomputable def cac : oz := fun st K => abx (btt st) fun x => P.b5m x (bve K)
noncomputable def D3 : Ctx := ({ P := Tryz.prog, G := [(24, mg.spec), (30, jc.spec), (51, iy.spec), (52, ku.spec), (63, jy.spec), (67, yj.spec), (80, ig.spec)], globs := GLO.gx, hints := [], loops := [], inl := [], y := some (bfl (ajf Tryz.f34 5) 64 false) } : Ctx)
noncomputable def D2 : Ctx := ({ P := Tryz.prog, G := [(24, mg.spec), (30, jc.spec), (51, iy.spec), (52, ku.spec), (63, jy.spec), (67, yj.spec), (80, ig.spec)], globs := GLO.gx, hints := [(1, ⟨[0, 1, 2, 3, 8, 9], [], [], [], some (840, [0, 1, 2, 3, 5, 6, 7]), [0, 1, 2, 3, 5, 6, 7], []⟩)], loops := [(1, cac)], inl := [], y := some (bfl (ajf Tryz.f34 5) 64 true), ys := some (av8 D3 (bfl (ajf Tryz.f34 5) 64 true)) } : Ctx)
noncomputable def D1 : Ctx := ({ P := Tryz.prog, G := [(24, mg.spec), (30, jc.spec), (51, iy.spec), (52, ku.spec), (63, jy.spec), (67, yj.spec), (80, ig.spec)], globs := GLO.gx, hints := [], loops := [], inl := [] } : Ctx)
noncomputable def D : Ctx := ({ P := Tryz.prog, G := [(24, mg.spec), (30, jc.spec), (51, iy.spec), (52, ku.spec), (63, jy.spec), (67, yj.spec), (80, ig.spec)], globs := GLO.gx, hints := [], loops := [], inl := [(64, ahi D1 Tryz.f64)], top := true, rng := [(5, ⟨95, 64, [4, 7, 8, 9, 10], ahi D2 Tryz.f95⟩)] } : Ctx)
theorem bdt (K) (next) (x) : jo D2 (dz Tryz.f95 1) K next (boi x) = P.b0k x (fun x => next (boi x)) (bve K) := by kernel_rfl
theorem biy : jl D2 (dz Tryz.f95 1) := gq boi bie (by kernel_rfl) P.cce bdt
theorem loops : d9 (Tryz.f34.body.getD .skip) = [] := by kernel_rfl
theorem ani : d9 (Tryz.f64.body.getD .skip) = [] := by kernel_rfl
theorem bgn : d9 (Tryz.f95.body.getD .skip) = [dz Tryz.f95 1] := by kernel_rfl
theorem bml : d9 (buy (ajf Tryz.f34 5)) = [] := by kernel_rfl
theorem ranges : wz (Tryz.f34.body.getD .skip) = [ajf Tryz.f34 5] := by kernel_rfl
theorem bde : aqp D2 (av8 D3 (bfl (ajf Tryz.f34 5) 64 true)) := bfj (Y := bfl (ajf Tryz.f34 5) 64 true) (bbs (D := D3) ⟨mg.ok, jc.ok, iy.ok, ku.ok, jy.ok, yj.ok, ig.ok, trivial⟩) (bf (by kernel_rfl)) (bbp (D := D3) trivial (aus rfl)) (by kernel_rfl) rfl rfl (by kernel_rfl) (by kernel_rfl) rfl rfl rfl (ajm _ (by rw [show d9 (bfl (ajf Tryz.f34 5) 64 true).assign = [] from by kernel_rfl]; exact trivial)) (ajm _ (by rw [show d9 (bfl (ajf Tryz.f34 5) 64 true).body = d9 (buy (ajf Tryz.f34 5)) from by kernel_rfl, bml]; exact trivial))
noncomputable def bn : Abs.Spec := fun args K => match args with
 | [.agg [.v (.int .i64 b), .v (.int .i64 c), .v (.int .i64 d), .v (.int .i64 e), .v (.int .i64 f), .v (.bool a)], .sl (.ints .u8 g), .sl (.ints .u8 h), .sl (.ints .u8 i), .sl (.ints .u8 j), .v (.int .u64 k), .v (.int .u64 l)] => P.y5 b c d e f a g h i j k l (fun m => K (.v (.bool m)))
 | _ => none
noncomputable def spec : Abs.Spec := fun args K => bn (og [.any, .sl (.ints .u8 []), .sl (.ints .u8 []), .sl (.ints .u8 []), .sl (.ints .u8 []), .any, .any] args) K
theorem ok0 : Proved Tryz.prog GLO.gx 34 bn := by
 refine dh (D := D) (fn := Tryz.f34) (c := Tryz.f34.body.getD .skip) [.any] (by kernel_rfl) (bf (by kernel_rfl)) (by kernel_rfl) (by kernel_rfl) (by kernel_rfl) ⟨mg.ok, jc.ok, iy.ok, ku.ok, jy.ok, yj.ok, ig.ok, trivial⟩ ⟨asi (D := D1) (D' := D) (fn := Tryz.f64) (c := Tryz.f64.body.getD .skip) rfl rfl (by kernel_rfl) (bf (by kernel_rfl)) (by kernel_rfl) (by kernel_rfl) (by kernel_rfl) ⟨mg.ok, jc.ok, iy.ok, ku.ok, jy.ok, yj.ok, ig.ok, trivial⟩ trivial (by rw [ani]; exact trivial) (fun _ _ _ _ _ h => h), trivial⟩ ?_ ?_ (hRg := by rw [ranges]; exact ⟨ba4 (D := D) (Di := D2) (e := ⟨95, 64, [4, 7, 8, 9, 10], ahi D2 Tryz.f95⟩) (by kernel_rfl) rfl rfl (by kernel_rfl) (asi (D := D2) (D' := D2) (fn := Tryz.f95) (c := Tryz.f95.body.getD .skip) rfl rfl (by kernel_rfl) (bf (by kernel_rfl)) (by kernel_rfl) (by kernel_rfl) (by kernel_rfl) ⟨mg.ok, jc.ok, iy.ok, ku.ok, jy.ok, yj.ok, ig.ok, trivial⟩ trivial (by rw [bgn]; exact ⟨biy, trivial⟩) (fun _ _ _ _ _ h => h) rfl rfl (ath rfl _) (fun s hs => by have hs : some (av8 D3 (bfl (ajf Tryz.f34 5) 64 true)) = some s := hs; cases hs; exact bde)), trivial⟩)
 · rw [loops]; exact trivial
 · intro args K r h
   unfold bn at h
   split at h
   · rw [P.aay] at h; exact Eq.trans (by kernel_rfl) h
   · cases h
theorem ok : Proved Tryz.prog GLO.gx 34 spec := eu _ ok0
end y5

namespace yc
noncomputable def D : Ctx := ({ P := Tryz.prog, G := [(12, abq.spec), (21, abd.spec), (22, ag6.spec), (23, u6.spec), (32, aat.spec), (33, aby.spec), (34, y5.spec), (35, aas.spec)], globs := GLO.gx, hints := [], loops := [], inl := [] } : Ctx)
theorem loops : d9 (Tryz.f6.body.getD .skip) = [] := by kernel_rfl
noncomputable def bn : Abs.Spec := fun args K => match args with
 | [.agg [.v (.int .i64 b), .v (.int .i64 c), .v (.int .i64 d), .v (.int .i64 e), .v (.int .i64 f), .v (.bool a)], .sl (.ints .u8 g), .sl (.ints .u8 h), .sl (.ints .u8 i), .sl (.ints .u8 j), .v (.int .u64 k), .v (.int .u64 l), .sl (.ints .u8 m)] => P.yc b c d e f a g h i j k l m (fun n => K (.v (.bool n)))
 | _ => none
noncomputable def spec : Abs.Spec := fun args K => bn (og [.any, .sl (.ints .u8 []), .sl (.ints .u8 []), .sl (.ints .u8 []), .sl (.ints .u8 []), .any, .any, .sl (.ints .u8 [])] args) K
theorem ok0 : Proved Tryz.prog GLO.gx 6 bn := by
 refine dh (D := D) (fn := Tryz.f6) (c := Tryz.f6.body.getD .skip) [.any] (by kernel_rfl) (bf (by kernel_rfl)) (by kernel_rfl) (by kernel_rfl) (by kernel_rfl) ⟨abq.ok, abd.ok, ag6.ok, u6.ok, aat.ok, aby.ok, y5.ok, aas.ok, trivial⟩ trivial ?_ ?_
 · rw [loops]; exact trivial
 · intro args K r h
   unfold bn at h
   split at h
   · rw [P.akm] at h; exact Eq.trans (by kernel_rfl) h
   · cases h
theorem ok : Proved Tryz.prog GLO.gx 6 spec := eu _ ok0
end yc

end
