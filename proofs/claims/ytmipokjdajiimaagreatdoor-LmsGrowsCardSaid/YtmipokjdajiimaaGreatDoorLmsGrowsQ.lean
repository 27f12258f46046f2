/-
  LmsGrows, part 17: an interpreter of my own over abstract values, the pure functions, the walks and the plain law.
-/

import Derived.Test.YtmipokjdajiimaaGreatDoorLmsGrowsK
import Derived.Test.YtmipokjdajiimaaGreatDoorLmsGrowsH
import Derived.Test.YtmipokjdajiimaaGreatDoorProg
import Derived.Test.YtmipokjdajiimaaGreatDoorLmsGrowsJ
import Derived.KernelRfl
import Derived.Test.YtmipokjdajiimaaGreatDoorLmsGrowsP

section
open Go Go.Abs Go.Proofs
set_option maxRecDepth 100000
set_option maxHeartbeats 0
set_option linter.unusedVariables false

namespace uy
noncomputable def D : Ctx := ({ P := Tryz.prog, G := [], globs := GLO.gB, hints := [], loops := [], inl := [] } : Ctx)
theorem loops : bg (Tryz.f117.body.getD .skip) = [] := by kernel_rfl
noncomputable def aj : Abs.Spec := fun args K => match args with
 | [] => P.uy (fun a => K (.arr .u64 64 a))
 | _ => none
noncomputable def spec : Abs.Spec := aj
theorem ok0 : Proved Tryz.prog GLO.gB 117 aj := by
 refine bf (D := D) (fn := Tryz.f117) (c := Tryz.f117.body.getD .skip) [.any] (by kernel_rfl) (ah (by kernel_rfl)) (by kernel_rfl) (by kernel_rfl) (by kernel_rfl) trivial trivial ?_ ?_
 · rw [loops]; exact trivial
 · intro args K r h
   unfold aj at h
   split at h
   · rw [P.agb] at h; exact Eq.trans (by kernel_rfl) h
   · cases h
theorem ok : Proved Tryz.prog GLO.gB 117 spec := ok0
end uy

namespace uz
noncomputable def D : Ctx := ({ P := Tryz.prog, G := [], globs := GLO.gB, hints := [], loops := [], inl := [] } : Ctx)
theorem loops : bg (Tryz.f118.body.getD .skip) = [] := by kernel_rfl
noncomputable def aj : Abs.Spec := fun args K => match args with
 | [] => P.uz (fun a => K (.arr .u64 80 a))
 | _ => none
noncomputable def spec : Abs.Spec := aj
theorem ok0 : Proved Tryz.prog GLO.gB 118 aj := by
 refine bf (D := D) (fn := Tryz.f118) (c := Tryz.f118.body.getD .skip) [.any] (by kernel_rfl) (ah (by kernel_rfl)) (by kernel_rfl) (by kernel_rfl) (by kernel_rfl) trivial trivial ?_ ?_
 · rw [loops]; exact trivial
 · intro args K r h
   unfold aj at h
   split at h
   · rw [P.aga] at h; exact Eq.trans (by kernel_rfl) h
   · cases h
theorem ok : Proved Tryz.prog GLO.gB 118 spec := ok0
end uz

namespace aev
abbrev X3 := P.bq2
def S3 : X3 → ASt := fun (a, b, c) => ⟨[(0, .sl (.ints .u8 a)), (3, .v (.int .u64 b)), (4, .v (.int .i64 c))], [], 0, 20⟩
def V3 : ASt → Option X3
 | ⟨[(0, .sl (.ints .u8 a)), (3, .v (.int .u64 b)), (4, .v (.int .i64 c))], [], 0, 20⟩ => some (a, b, c)
 | _ => none
theorem asr (st) (x) (h : V3 st = some x) : st = S3 x := by
 unfold V3 at h
 split at h
 · cases h; rfl
 · cases h
abbrev Y3 := P.bvw
def E3 (K : AExit → ASt → Option R) : Y3 → Option R := (fun x => K (.exit 0) (S3 x))
noncomputable def L3 : ru := fun st K => ae3 (V3 st) fun x => P.bx7 x (E3 K)
noncomputable def D : Ctx := ({ P := Tryz.prog, G := [], globs := GLO.gB, hints := [(3, ⟨[0, 3, 4], [], [2], [], none, [], [], []⟩)], loops := [(3, L3)], inl := [] } : Ctx)
theorem ajx (K) (next) (x) : l8 D (dx Tryz.f125 3) K next (S3 x) = P.bpd x (fun x => next (S3 x)) (E3 K) := by kernel_rfl
theorem asa : j5 D (dx Tryz.f125 3) := fq S3 asr (by kernel_rfl) P.by6 ajx
theorem loops : bg (Tryz.f125.body.getD .skip) = [dx Tryz.f125 3] := by kernel_rfl
noncomputable def aj : Abs.Spec := fun args K => match args with
 | [.sl (.ints .u8 a)] => P.aev a (fun b => K (.v (.int .u64 b)))
 | _ => none
noncomputable def spec : Abs.Spec := fun args K => aj (l7 [.sl (.ints .u8 [])] args) K
theorem ok0 : Proved Tryz.prog GLO.gB 125 aj := by
 refine bf (D := D) (fn := Tryz.f125) (c := Tryz.f125.body.getD .skip) [.any] (by kernel_rfl) (ah (by kernel_rfl)) (by kernel_rfl) (by kernel_rfl) (by kernel_rfl) trivial trivial ?_ ?_
 · rw [loops]; exact ⟨asa, trivial⟩
 · intro args K r h
   unfold aj at h
   split at h
   · rw [P.au9] at h; exact Eq.trans (by kernel_rfl) h
   · cases h
theorem ok : Proved Tryz.prog GLO.gB 125 spec := bq _ ok0
end aev

namespace aa2
abbrev X6 := P.bre
def S6 : X6 → ASt := fun (b, c, d, e, f, a, g) => ⟨[(10, .own 0), (0, .sl (.ints .u8 b)), (1, .v (.bool c)), (2, .v (.int .i64 d)), (3, .v (.int .u64 e)), (9, .v (.int .i64 f)), (11, .v (.int .i64 a))], [(0, some ⟨.row 26 (.ints .u64 g), false⟩)], 1, 82⟩
def V6 : ASt → Option X6
 | ⟨[(10, .own 0), (0, .sl (.ints .u8 b)), (1, .v (.bool c)), (2, .v (.int .i64 d)), (3, .v (.int .u64 e)), (9, .v (.int .i64 f)), (11, .v (.int .i64 a))], [(0, some ⟨.row 26 (.ints .u64 g), false⟩)], 1, 82⟩ => some (b, c, d, e, f, a, g)
 | _ => none
theorem bi8 (st) (x) (h : V6 st = some x) : st = S6 x := by
 unfold V6 at h
 split at h
 · cases h; rfl
 · cases h
abbrev Y6 := P.bwg
def E6 (K : AExit → ASt → Option R) : Y6 → Option R := (fun x => K (.exit 0) (S6 x))
noncomputable def L6 : ru := fun st K => ae3 (V6 st) fun x => P.bul x (E6 K)
noncomputable def D : Ctx := ({ P := Tryz.prog, G := [(120, vk.spec), (125, aev.spec)], globs := GLO.gB, hints := [(6, ⟨[0, 1, 2, 3, 9, 11], [(10, 26, .ints .u64 [])], [8], [], none, [], [], []⟩)], loops := [(6, L6)], inl := [] } : Ctx)
theorem bbk (K) (next) (x) : l8 D (dx Tryz.f119 6) K next (S6 x) = P.bo5 x (fun x => next (S6 x)) (E6 K) := by kernel_rfl
theorem bhs : j5 D (dx Tryz.f119 6) := fq S6 bi8 (by kernel_rfl) P.bz9 bbk
theorem loops : bg (Tryz.f119.body.getD .skip) = [dx Tryz.f119 6] := by kernel_rfl
noncomputable def aj : Abs.Spec := fun args K => match args with
 | [.sl (.ints .u8 a), .v (.bool b), .v (.int .i64 c), .v (.int .u64 d)] => P.aa2 a b c d (fun e => K (.fr 26 (.ints .u64 e)))
 | _ => none
noncomputable def spec : Abs.Spec := fun args K => aj (l7 [.sl (.ints .u8 []), .any, .any, .any] args) K
theorem ok0 : Proved Tryz.prog GLO.gB 119 aj := by
 refine bf (D := D) (fn := Tryz.f119) (c := Tryz.f119.body.getD .skip) [.fr 26 (.ints .u64 [])] (by kernel_rfl) (ah (by kernel_rfl)) (by kernel_rfl) (by kernel_rfl) (by kernel_rfl) ⟨vk.ok, aev.ok, trivial⟩ trivial ?_ ?_
 · rw [loops]; exact ⟨bhs, trivial⟩
 · intro args K r h
   unfold aj at h
   split at h
   · rw [P.akl] at h; exact Eq.trans (by kernel_rfl) h
   · cases h
theorem ok : Proved Tryz.prog GLO.gB 119 spec := bq _ ok0
end aa2

namespace ab5
abbrev X11 := P.bqr
def S11 : X11 → ASt := fun (g, h, i, f, a, b, c, d, j, e) => ⟨[(2, .v (.bool g)), (3, .ptr 0 0), (6, .ptr 1 0), (7, .v (.int .i64 h)), (8, .v (.int .u64 i)), (9, .ptr 2 0), (10, .ptr 3 0), (11, .own 4), (12, .ptr 5 0), (13, .v (.int .i64 f))], [(0, some ⟨.box 125 [.arr .u64 8 a], false⟩), (1, some ⟨.box 125 [.arr .u64 8 b], false⟩), (2, some ⟨.box 158 [.arr .u64 64 c], false⟩), (3, some ⟨.box 160 [.arr .u64 80 d], false⟩), (4, some ⟨.row 26 (.ints .u64 j), false⟩), (5, some ⟨.box 125 [.arr .u64 8 e], false⟩)], 6, 137⟩
def V11 : ASt → Option X11
 | ⟨[(2, .v (.bool g)), (3, .ptr 0 0), (6, .ptr 1 0), (7, .v (.int .i64 h)), (8, .v (.int .u64 i)), (9, .ptr 2 0), (10, .ptr 3 0), (11, .own 4), (12, .ptr 5 0), (13, .v (.int .i64 f))], [(0, some ⟨.box 125 [.arr .u64 8 a], false⟩), (1, some ⟨.box 125 [.arr .u64 8 b], false⟩), (2, some ⟨.box 158 [.arr .u64 64 c], false⟩), (3, some ⟨.box 160 [.arr .u64 80 d], false⟩), (4, some ⟨.row 26 (.ints .u64 j), false⟩), (5, some ⟨.box 125 [.arr .u64 8 e], false⟩)], 6, 137⟩ => some (g, h, i, f, a, b, c, d, j, e)
 | _ => none
theorem bgw (st) (x) (h : V11 st = some x) : st = S11 x := by
 unfold V11 at h
 split at h
 · cases h; rfl
 · cases h
abbrev Y11 := P.bu1
abbrev X25 := P.bqa
def S25 : X25 → ASt := fun (e, d, a, b, c) => ⟨[(3, .ptr 0 0), (6, .ptr 1 0), (8, .v (.int .u64 e)), (12, .ptr 5 0), (19, .v (.int .i64 d))], [(0, some ⟨.box 125 [.arr .u64 8 a], false⟩), (1, some ⟨.box 125 [.arr .u64 8 b], false⟩), (5, some ⟨.box 125 [.arr .u64 8 c], false⟩)], 80, 137⟩
def V25 : ASt → Option X25
 | ⟨[(3, .ptr 0 0), (6, .ptr 1 0), (8, .v (.int .u64 e)), (12, .ptr 5 0), (19, .v (.int .i64 d))], [(0, some ⟨.box 125 [.arr .u64 8 a], false⟩), (1, some ⟨.box 125 [.arr .u64 8 b], false⟩), (5, some ⟨.box 125 [.arr .u64 8 c], false⟩)], 80, 137⟩ => some (e, d, a, b, c)
 | _ => none
theorem bq8 (st) (x) (h : V25 st = some x) : st = S25 x := by
 unfold V25 at h
 split at h
 · cases h; rfl
 · cases h
abbrev Y25 := P.bxb
def E11 (K : AExit → ASt → Option R) : Y11 → Option R := (fun x => K (.exit 0) (S11 x))
noncomputable def L11 : ru := fun st K => ae3 (V11 st) fun x => P.bty x (E11 K)
def E25 (K : AExit → ASt → Option R) : Y25 → Option R := (fun x => K (.exit 2) (S25 x))
noncomputable def L25 : ru := fun st K => ae3 (V25 st) fun x => P.bw4 x (E25 K)
noncomputable def D : Ctx := ({ P := Tryz.prog, G := [(117, uy.spec), (118, uz.spec), (119, aa2.spec), (120, vk.spec)], globs := GLO.gB, hints := [(25, ⟨[3, 6, 8, 12, 19], [], [6], [], some (80, [0, 1, 5]), [], [], []⟩), (11, ⟨[2, 3, 6, 7, 8, 9, 10, 11, 12, 13], [], [6], [], none, [], [], []⟩)], loops := [(11, L11), (25, L25)], inl := [] } : Ctx)
theorem bcm (K) (next) (x) : l8 D (dx Tryz.f111 11) K next (S11 x) = P.bo8 x (fun x => next (S11 x)) (E11 K) := by kernel_rfl
theorem bh4 : j5 D (dx Tryz.f111 11) := fq S11 bgw (by kernel_rfl) P.bz4 bcm
theorem bn8 (K) (next) (x) : l8 D (dx Tryz.f111 25) K next (S25 x) = P.boy x (fun x => next (S25 x)) (E25 K) := by kernel_rfl
theorem bpm : j5 D (dx Tryz.f111 25) := fq S25 bq8 (by kernel_rfl) P.bz3 bn8
theorem loops : bg (Tryz.f111.body.getD .skip) = [dx Tryz.f111 11, dx Tryz.f111 25] := by kernel_rfl
noncomputable def aj : Abs.Spec := fun args K => match args with
 | [.arr .u64 8 a, .sl (.ints .u8 b), .v (.bool c)] => P.ab5 a b c (fun d => K (.arr .u64 8 d))
 | _ => none
noncomputable def spec : Abs.Spec := fun args K => aj (l7 [.any, .sl (.ints .u8 []), .any] args) K
theorem ok0 : Proved Tryz.prog GLO.gB 111 aj := by
 refine bf (D := D) (fn := Tryz.f111) (c := Tryz.f111.body.getD .skip) [.any] (by kernel_rfl) (ah (by kernel_rfl)) (by kernel_rfl) (by kernel_rfl) (by kernel_rfl) ⟨uy.ok, uz.ok, aa2.ok, vk.ok, trivial⟩ trivial ?_ ?_
 · rw [loops]; exact ⟨bh4, bpm, trivial⟩
 · intro args K r h
   unfold aj at h
   split at h
   · rw [P.ajk] at h; exact Eq.trans (by kernel_rfl) h
   · cases h
theorem ok : Proved Tryz.prog GLO.gB 111 spec := bq _ ok0
end ab5

namespace abb
abbrev X4 := P.bqg
def S4 : X4 → ASt := fun (h, i, a, b, c, d, e, f, g) => ⟨[(2, .ptr 0 0), (4, .ptr 1 0), (5, .v (.int .i64 h)), (6, .sl (.ints .u8 i))], [(0, some ⟨.box 127 [.v (.int .i64 a), .arr .u64 8 b, .sl (.ints .u8 c), .v (.int .u64 d)], false⟩), (1, some ⟨.box 127 [.v (.int .i64 e), .arr .u64 8 f, .v (.slice none 0 0), .v (.int .u64 g)], false⟩)], 40, 41⟩
def V4 : ASt → Option X4
 | ⟨[(2, .ptr 0 0), (4, .ptr 1 0), (5, .v (.int .i64 h)), (6, .sl (.ints .u8 i))], [(0, some ⟨.box 127 [.v (.int .i64 a), .arr .u64 8 b, .sl (.ints .u8 c), .v (.int .u64 d)], false⟩), (1, some ⟨.box 127 [.v (.int .i64 e), .arr .u64 8 f, .v (.slice none 0 0), .v (.int .u64 g)], false⟩)], 40, 41⟩ => some (h, i, a, b, c, d, e, f, g)
 | _ => none
theorem ate (st) (x) (h : V4 st = some x) : st = S4 x := by
 unfold V4 at h
 split at h
 · cases h; rfl
 · cases h
abbrev Y4 := P.bya
def E4 (K : AExit → ASt → Option R) : Y4 → Option R := (fun x => K (.exit 0) (S4 x))
noncomputable def L4 : ru := fun st K => ae3 (V4 st) fun x => P.buv x (E4 K)
noncomputable def D : Ctx := ({ P := Tryz.prog, G := [(37, kg.spec), (110, wz.spec), (111, ab5.spec)], globs := GLO.gB, hints := [(4, ⟨[2, 4, 5, 6], [], [4], [(6, .sl (.ints .u8 []))], some (40, [0, 1]), [], [], []⟩)], loops := [(4, L4)], inl := [] } : Ctx)
theorem akm (K) (next) (x) : l8 D (dx Tryz.f100 4) K next (S4 x) = P.bo6 x (fun x => next (S4 x)) (E4 K) := by kernel_rfl
theorem auq : j5 D (dx Tryz.f100 4) := fq S4 ate (by kernel_rfl) P.by2 akm
theorem loops : bg (Tryz.f100.body.getD .skip) = [dx Tryz.f100 4] := by kernel_rfl
noncomputable def aj : Abs.Spec := fun args K => match args with
 | [.agg [.v (.int .i64 c), .arr .u64 8 a, .sl (.ints .u8 d), .v (.int .u64 e)], .sl (.ints .u8 i)] => P.abb c a d e i (fun f b g h => K (.agg [.v (.int .i64 f), .arr .u64 8 b, .sl (.ints .u8 g), .v (.int .u64 h)]))
 | _ => none
noncomputable def spec : Abs.Spec := fun args K => aj (l7 [.agg [.any, .any, .sl (.ints .u8 []), .any], .sl (.ints .u8 [])] args) K
theorem ok0 : Proved Tryz.prog GLO.gB 100 aj := by
 refine bf (D := D) (fn := Tryz.f100) (c := Tryz.f100.body.getD .skip) [.agg [.any, .any, .sl (.ints .u8 []), .any]] (by kernel_rfl) (ah (by kernel_rfl)) (by kernel_rfl) (by kernel_rfl) (by kernel_rfl) ⟨kg.ok, wz.ok, ab5.ok, trivial⟩ trivial ?_ ?_
 · rw [loops]; exact ⟨auq, trivial⟩
 · intro args K r h
   unfold aj at h
   split at h
   · rw [P.avi] at h; exact Eq.trans (by kernel_rfl) h
   · cases h
theorem ok : Proved Tryz.prog GLO.gB 100 spec := bq _ ok0
end abb

namespace afy
abbrev X4 := P.bql
def S4 : X4 → ASt := fun (f, g, e, a, b, c, d) => ⟨[(5, .own 40), (1, .ptr 0 0), (3, .v (.int .i64 f)), (4, .v (.int .u64 g))], [(40, some ⟨.row 5 (.ints .u8 e), false⟩), (0, some ⟨.box 127 [.v (.int .i64 a), .arr .u64 8 b, .sl (.ints .u8 c), .v (.int .u64 d)], false⟩)], 41, 77⟩
def V4 : ASt → Option X4
 | ⟨[(5, .own 40), (1, .ptr 0 0), (3, .v (.int .i64 f)), (4, .v (.int .u64 g))], [(40, some ⟨.row 5 (.ints .u8 e), false⟩), (0, some ⟨.box 127 [.v (.int .i64 a), .arr .u64 8 b, .sl (.ints .u8 c), .v (.int .u64 d)], false⟩)], 41, 77⟩ => some (f, g, e, a, b, c, d)
 | _ => none
theorem ate (st) (x) (h : V4 st = some x) : st = S4 x := by
 unfold V4 at h
 split at h
 · cases h; rfl
 · cases h
abbrev Y4 := P.bxw
abbrev X8 := P.bpw
def S8 : X8 → ASt := fun (f, g, e, a, b, c, d) => ⟨[(5, .own 80), (1, .ptr 0 0), (3, .v (.int .i64 f)), (4, .v (.int .u64 g))], [(80, some ⟨.row 5 (.ints .u8 e), false⟩), (0, some ⟨.box 127 [.v (.int .i64 a), .arr .u64 8 b, .sl (.ints .u8 c), .v (.int .u64 d)], false⟩)], 81, 77⟩
def V8 : ASt → Option X8
 | ⟨[(5, .own 80), (1, .ptr 0 0), (3, .v (.int .i64 f)), (4, .v (.int .u64 g))], [(80, some ⟨.row 5 (.ints .u8 e), false⟩), (0, some ⟨.box 127 [.v (.int .i64 a), .arr .u64 8 b, .sl (.ints .u8 c), .v (.int .u64 d)], false⟩)], 81, 77⟩ => some (f, g, e, a, b, c, d)
 | _ => none
theorem bby (st) (x) (h : V8 st = some x) : st = S8 x := by
 unfold V8 at h
 split at h
 · cases h; rfl
 · cases h
abbrev Y8 := P.byp
abbrev X14 := P.bqs
def S14 : X14 → ASt := fun (f, g, a, b, c, d, e) => ⟨[(6, .own 120), (1, .ptr 0 0), (3, .v (.int .i64 f)), (7, .v (.int .i64 g))], [(120, some ⟨.row 5 (.ints .u8 a), false⟩), (0, some ⟨.box 127 [.v (.int .i64 b), .arr .u64 8 c, .sl (.ints .u8 d), .v (.int .u64 e)], false⟩)], 121, 77⟩
def V14 : ASt → Option X14
 | ⟨[(6, .own 120), (1, .ptr 0 0), (3, .v (.int .i64 f)), (7, .v (.int .i64 g))], [(120, some ⟨.row 5 (.ints .u8 a), false⟩), (0, some ⟨.box 127 [.v (.int .i64 b), .arr .u64 8 c, .sl (.ints .u8 d), .v (.int .u64 e)], false⟩)], 121, 77⟩ => some (f, g, a, b, c, d, e)
 | _ => none
theorem bsf (st) (x) (h : V14 st = some x) : st = S14 x := by
 unfold V14 at h
 split at h
 · cases h; rfl
 · cases h
abbrev Y14 := P.bxs
def E4 (K : AExit → ASt → Option R) : Y4 → Option R := (fun x => K (.exit 0) (S4 x))
noncomputable def L4 : ru := fun st K => ae3 (V4 st) fun x => P.bvu x (E4 K)
def E8 (K : AExit → ASt → Option R) : Y8 → Option R := (fun x => K (.exit 2) (S8 x))
noncomputable def L8 : ru := fun st K => ae3 (V8 st) fun x => P.bwr x (E8 K)
def E14 (K : AExit → ASt → Option R) : Y14 → Option R := (fun x => K (.exit 4) (S14 x))
noncomputable def L14 : ru := fun st K => ae3 (V14 st) fun x => P.bw0 x (E14 K)
noncomputable def D : Ctx := ({ P := Tryz.prog, G := [(32, jd.spec), (100, abb.spec), (110, wz.spec)], globs := GLO.gB, hints := [(14, ⟨[1, 3, 7], [(6, 5, .ints .u8 [])], [2], [], some (120, [0]), [0], [], []⟩), (8, ⟨[1, 3, 4], [(5, 5, .ints .u8 [])], [2], [], some (80, [0]), [0], [], []⟩), (4, ⟨[1, 3, 4], [(5, 5, .ints .u8 [])], [2], [], some (40, [0]), [0], [], []⟩)], loops := [(4, L4), (8, L8), (14, L14)], inl := [] } : Ctx)
theorem akm (K) (next) (x) : l8 D (dx Tryz.f99 4) K next (S4 x) = P.brf x (fun x => next (S4 x)) (E4 K) := by kernel_rfl
theorem auq : j5 D (dx Tryz.f99 4) := fq S4 ate (by kernel_rfl) P.bzw akm
theorem aur (K) (next) (x) : l8 D (dx Tryz.f99 8) K next (S8 x) = P.bqh x (fun x => next (S8 x)) (E8 K) := by kernel_rfl
theorem bc5 : j5 D (dx Tryz.f99 8) := fq S8 bby (by kernel_rfl) P.bzu aur
theorem bnz (K) (next) (x) : l8 D (dx Tryz.f99 14) K next (S14 x) = P.bqw x (fun x => next (S14 x)) (E14 K) := by kernel_rfl
theorem br9 : j5 D (dx Tryz.f99 14) := fq S14 bsf (by kernel_rfl) P.by8 bnz
theorem loops : bg (Tryz.f99.body.getD .skip) = [dx Tryz.f99 4, dx Tryz.f99 8, dx Tryz.f99 14] := by kernel_rfl
noncomputable def aj : Abs.Spec := fun args K => match args with
 | [.agg [.v (.int .i64 b), .arr .u64 8 a, .sl (.ints .u8 c), .v (.int .u64 d)]] => P.afy b a c d (fun e => K (.fr 5 (.ints .u8 e)))
 | _ => none
noncomputable def spec : Abs.Spec := fun args K => aj (l7 [.agg [.any, .any, .sl (.ints .u8 []), .any]] args) K
theorem ok0 : Proved Tryz.prog GLO.gB 99 aj := by
 refine apu (D := D) (fn := Tryz.f99) (c := Tryz.f99.body.getD .skip) 5 (.ints .u8 []) (by kernel_rfl) (ah (by kernel_rfl)) (by kernel_rfl) (by kernel_rfl) (by kernel_rfl) ⟨jd.ok, abb.ok, wz.ok, trivial⟩ trivial ?_ ?_
 · rw [loops]; exact ⟨auq, bc5, br9, trivial⟩
 · intro args K r h
   unfold aj at h
   split at h
   · rw [P.avr] at h; exact Eq.trans (by kernel_rfl) h
   · cases h
theorem ok : Proved Tryz.prog GLO.gB 99 spec := bq _ ok0
end afy

namespace agh
noncomputable def D : Ctx := ({ P := Tryz.prog, G := [], globs := GLO.gB, hints := [], loops := [], inl := [] } : Ctx)
theorem loops : bg (Tryz.f98.body.getD .skip) = [] := by kernel_rfl
noncomputable def aj : Abs.Spec := fun args K => match args with
 | [.v (.int .i64 e)] => P.agh e (fun b a c d f => K (.tuple [.agg [.v (.int .i64 b), .arr .u64 8 a, .fr 5 (.ints .u8 c), .v (.int .u64 d)], .v (.int .i64 f)]))
 | _ => none
noncomputable def spec : Abs.Spec := aj
theorem ok0 : Proved Tryz.prog GLO.gB 98 aj := by
 refine bf (D := D) (fn := Tryz.f98) (c := Tryz.f98.body.getD .skip) [.agg [.any, .any, .fr 5 (.ints .u8 []), .any], .any] (by kernel_rfl) (ah (by kernel_rfl)) (by kernel_rfl) (by kernel_rfl) (by kernel_rfl) trivial trivial ?_ ?_
 · rw [loops]; exact trivial
 · intro args K r h
   unfold aj at h
   split at h
   · rw [P.awl] at h; exact Eq.trans (by kernel_rfl) h
   · cases h
theorem ok : Proved Tryz.prog GLO.gB 98 spec := ok0
end agh

namespace af5
noncomputable def D : Ctx := ({ P := Tryz.prog, G := [(98, agh.spec), (99, afy.spec), (100, abb.spec)], globs := GLO.gB, hints := [], loops := [], inl := [] } : Ctx)
theorem loops : bg (Tryz.f87.body.getD .skip) = [] := by kernel_rfl
noncomputable def aj : Abs.Spec := fun args K => match args with
 | [.v (.int .i64 a), .sl (.ints .u8 b)] => P.af5 a b (fun c d => K (.tuple [.fr 5 (.ints .u8 c), .v (.int .i64 d)]))
 | _ => none
noncomputable def spec : Abs.Spec := fun args K => aj (l7 [.any, .sl (.ints .u8 [])] args) K
theorem ok0 : Proved Tryz.prog GLO.gB 87 aj := by
 refine bf (D := D) (fn := Tryz.f87) (c := Tryz.f87.body.getD .skip) [.fr 5 (.ints .u8 []), .any] (by kernel_rfl) (ah (by kernel_rfl)) (by kernel_rfl) (by kernel_rfl) (by kernel_rfl) ⟨agh.ok, afy.ok, abb.ok, trivial⟩ trivial ?_ ?_
 · rw [loops]; exact trivial
 · intro args K r h
   unfold aj at h
   split at h
   · rw [P.aw2] at h; exact Eq.trans (by kernel_rfl) h
   · cases h
theorem ok : Proved Tryz.prog GLO.gB 87 spec := bq _ ok0
end af5

namespace aew
noncomputable def D : Ctx := ({ P := Tryz.prog, G := [(37, kg.spec), (87, af5.spec)], globs := GLO.gB, hints := [], loops := [], inl := [] } : Ctx)
theorem loops : bg (Tryz.f62.body.getD .skip) = [] := by kernel_rfl
noncomputable def aj : Abs.Spec := fun args K => match args with
 | [.sl (.rows .u8 a)] => P.aew a (fun b => K (.fr 5 (.ints .u8 b)))
 | _ => none
noncomputable def spec : Abs.Spec := fun args K => aj (l7 [.sl (.rows .u8 [])] args) K
theorem ok0 : Proved Tryz.prog GLO.gB 62 aj := by
 refine bf (D := D) (fn := Tryz.f62) (c := Tryz.f62.body.getD .skip) [.fr 5 (.ints .u8 [])] (by kernel_rfl) (ah (by kernel_rfl)) (by kernel_rfl) (by kernel_rfl) (by kernel_rfl) ⟨kg.ok, af5.ok, trivial⟩ trivial ?_ ?_
 · rw [loops]; exact trivial
 · intro args K r h
   unfold aj at h
   split at h
   · rw [P.be4] at h; exact Eq.trans (by kernel_rfl) h
   · cases h
theorem ok : Proved Tryz.prog GLO.gB 62 spec := bq _ ok0
end aew

namespace aai
abbrev X2 := P.brd
def S2 : X2 → ASt := fun (b, c, d, e, f, a) => ⟨[(0, .sl (.ints .u8 b)), (1, .v (.int .u32 c)), (2, .v (.int .i64 d)), (4, .v (.int .i64 e)), (5, .sl (.ints .u8 f)), (13, .v (.int .i64 a))], [], 0, 34⟩
def V2 : ASt → Option X2
 | ⟨[(0, .sl (.ints .u8 b)), (1, .v (.int .u32 c)), (2, .v (.int .i64 d)), (4, .v (.int .i64 e)), (5, .sl (.ints .u8 f)), (13, .v (.int .i64 a))], [], 0, 34⟩ => some (b, c, d, e, f, a)
 | _ => none
theorem bjc (st) (x) (h : V2 st = some x) : st = S2 x := by
 unfold V2 at h
 split at h
 · cases h; rfl
 · cases h
abbrev Y2 := P.bxx
def E2 (K : AExit → ASt → Option R) : Y2 → Option R := (fun x => K (.exit 0) (S2 x))
noncomputable def L2 : ru := fun st K => ae3 (V2 st) fun x => P.bt9 x (E2 K)
noncomputable def D : Ctx := ({ P := Tryz.prog, G := [(32, jd.spec), (62, aew.spec)], globs := GLO.gB, hints := [(2, ⟨[0, 1, 2, 4, 5, 13], [], [12], [(5, .sl (.ints .u8 []))], none, [], [], []⟩)], loops := [(2, L2)], inl := [] } : Ctx)
theorem ay5 (K) (next) (x) : l8 D (dx Tryz.f83 2) K next (S2 x) = P.bpu x (fun x => next (S2 x)) (E2 K) := by kernel_rfl
theorem bg1 : j5 D (dx Tryz.f83 2) := fq S2 bjc (by kernel_rfl) P.bz2 ay5
theorem loops : bg (Tryz.f83.body.getD .skip) = [dx Tryz.f83 2] := by kernel_rfl
noncomputable def aj : Abs.Spec := fun args K => match args with
 | [.sl (.ints .u8 a), .v (.int .u32 b), .v (.int .i64 c), .v (.int .i64 d), .v (.int .i64 e), .sl (.ints .u8 f)] => P.aai a b c d e f (fun g => K (.sl (.ints .u8 g)))
 | _ => none
noncomputable def spec : Abs.Spec := fun args K => aj (l7 [.sl (.ints .u8 []), .any, .any, .any, .any, .sl (.ints .u8 [])] args) K
theorem ok0 : Proved Tryz.prog GLO.gB 83 aj := by
 refine bf (D := D) (fn := Tryz.f83) (c := Tryz.f83.body.getD .skip) [.sl (.ints .u8 [])] (by kernel_rfl) (ah (by kernel_rfl)) (by kernel_rfl) (by kernel_rfl) (by kernel_rfl) ⟨jd.ok, aew.ok, trivial⟩ trivial ?_ ?_
 · rw [loops]; exact ⟨bg1, trivial⟩
 · intro args K r h
   unfold aj at h
   split at h
   · rw [P.aqk] at h; exact Eq.trans (by kernel_rfl) h
   · cases h
theorem ok : Proved Tryz.prog GLO.gB 83 spec := bq _ ok0
end aai

namespace aia
noncomputable def D : Ctx := ({ P := Tryz.prog, G := [(32, jd.spec), (37, kg.spec), (62, aew.spec)], globs := GLO.gB, hints := [], loops := [], inl := [] } : Ctx)
theorem loops : bg (Tryz.f94.body.getD .skip) = [] := by kernel_rfl
noncomputable def aj : Abs.Spec := fun args K => match args with
 | [.sl (.ints .u8 a), .v (.int .u32 b), .sl (.rows .u8 c)] => P.aia a b c (fun d => K (.fr 5 (.ints .u8 d)))
 | _ => none
noncomputable def spec : Abs.Spec := fun args K => aj (l7 [.sl (.ints .u8 []), .any, .sl (.rows .u8 [])] args) K
theorem ok0 : Proved Tryz.prog GLO.gB 94 aj := by
 refine bf (D := D) (fn := Tryz.f94) (c := Tryz.f94.body.getD .skip) [.fr 5 (.ints .u8 [])] (by kernel_rfl) (ah (by kernel_rfl)) (by kernel_rfl) (by kernel_rfl) (by kernel_rfl) ⟨jd.ok, kg.ok, aew.ok, trivial⟩ trivial ?_ ?_
 · rw [loops]; exact trivial
 · intro args K r h
   unfold aj at h
   split at h
   · rw [P.avb] at h; exact Eq.trans (by kernel_rfl) h
   · cases h
theorem ok : Proved Tryz.prog GLO.gB 94 spec := bq _ ok0
end aia

namespace abv
noncomputable def D : Ctx := ({ P := Tryz.prog, G := [(32, jd.spec), (62, aew.spec)], globs := GLO.gB, hints := [], loops := [], inl := [] } : Ctx)
theorem loops : bg (Tryz.f80.body.getD .skip) = [] := by kernel_rfl
noncomputable def aj : Abs.Spec := fun args K => match args with
 | [.sl (.ints .u8 a), .v (.int .u32 b), .v (.int .i64 c), .sl (.ints .u8 d)] => P.abv a b c d (fun e => K (.fr 5 (.ints .u8 e)))
 | _ => none
noncomputable def spec : Abs.Spec := fun args K => aj (l7 [.sl (.ints .u8 []), .any, .any, .sl (.ints .u8 [])] args) K
theorem ok0 : Proved Tryz.prog GLO.gB 80 aj := by
 refine bf (D := D) (fn := Tryz.f80) (c := Tryz.f80.body.getD .skip) [.fr 5 (.ints .u8 [])] (by kernel_rfl) (ah (by kernel_rfl)) (by kernel_rfl) (by kernel_rfl) (by kernel_rfl) ⟨jd.ok, aew.ok, trivial⟩ trivial ?_ ?_
 · rw [loops]; exact trivial
 · intro args K r h
   unfold aj at h
   split at h
   · rw [P.atw] at h; exact Eq.trans (by kernel_rfl) h
   · cases h
theorem ok : Proved Tryz.prog GLO.gB 80 spec := bq _ ok0
end abv

namespace aaf
noncomputable def D : Ctx := ({ P := Tryz.prog, G := [(70, og.spec)], globs := GLO.gB, hints := [], loops := [], inl := [] } : Ctx)
theorem loops : bg (Tryz.f79.body.getD .skip) = [] := by kernel_rfl
noncomputable def aj : Abs.Spec := fun args K => match args with
 | [.v (.int .i64 a), .sl (.ints .u8 b), .sl (.ints .u8 c)] => P.aaf a b c (fun d => K (.v (.int .i64 d)))
 | _ => none
noncomputable def spec : Abs.Spec := fun args K => aj (l7 [.any, .sl (.ints .u8 []), .sl (.ints .u8 [])] args) K
theorem ok0 : Proved Tryz.prog GLO.gB 79 aj := by
 refine bf (D := D) (fn := Tryz.f79) (c := Tryz.f79.body.getD .skip) [.any] (by kernel_rfl) (ah (by kernel_rfl)) (by kernel_rfl) (by kernel_rfl) (by kernel_rfl) ⟨og.ok, trivial⟩ trivial ?_ ?_
 · rw [loops]; exact trivial
 · intro args K r h
   unfold aj at h
   split at h
   · rw [P.aqs] at h; exact Eq.trans (by kernel_rfl) h
   · cases h
theorem ok : Proved Tryz.prog GLO.gB 79 spec := bq _ ok0
end aaf

end
