/-
  LmsGrows, part 14: an interpreter of my own over abstract values, the pure functions, the walks and the plain law.
-/

import Derived.Test.YtmipokjdajiimaaGreatDoorLmsGrowsK
import Derived.Test.YtmipokjdajiimaaGreatDoorLmsGrowsH
import Derived.Test.YtmipokjdajiimaaGreatDoorProg
import Derived.Test.YtmipokjdajiimaaGreatDoorLmsGrowsJ
import Derived.Test.YtmipokjdajiimaaGreatDoorLmsGrowsM
import Derived.KernelRfl

section
open Go Go.Abs Go.Proofs
set_option maxRecDepth 100000
set_option maxHeartbeats 0
set_option linter.unusedVariables false

namespace abg
noncomputable def D : Ctx := ({ P := Tryz.prog, G := [(113, mh.spec)], globs := GLO.gB, hints := [], loops := [], inl := [] } : Ctx)
theorem loops : bg (Tryz.f103.body.getD .skip) = [] := by kernel_rfl
noncomputable def aj : Abs.Spec := fun args K => match args with
 | [] => P.abg (fun f e a b c d => K (.agg [.v (.int .i64 f), .v (.int .i64 e), .arr .i64 3 a, .arr .i64 3 b, .arr .i64 3 c, .arr .i64 3 d, .fn (.func 113) [] []]))
 | _ => none
noncomputable def spec : Abs.Spec := aj
theorem ok0 : Proved Tryz.prog GLO.gB 103 aj := by
 refine bf (D := D) (fn := Tryz.f103) (c := Tryz.f103.body.getD .skip) [.any] (by kernel_rfl) (ah (by kernel_rfl)) (by kernel_rfl) (by kernel_rfl) (by kernel_rfl) ⟨mh.ok, trivial⟩ trivial ?_ ?_
 · rw [loops]; exact trivial
 · intro args K r h
   unfold aj at h
   split at h
   · rw [P.ap4] at h; exact Eq.trans (by kernel_rfl) h
   · cases h
theorem ok : Proved Tryz.prog GLO.gB 103 spec := ok0
end abg

namespace au
noncomputable def D : Ctx := ({ P := Tryz.prog, G := [(113, mh.spec)], globs := GLO.gB, hints := [], loops := [], inl := [] } : Ctx)
theorem loops : bg (Tryz.f127.body.getD .skip) = [] := by kernel_rfl
noncomputable def aj : Abs.Spec := fun args K => match args with
 | [.agg [.v (.int .i64 f), .v (.int .i64 e), .arr .i64 3 a, .arr .i64 3 b, .arr .i64 3 c, .arr .i64 3 d, .fn (.func 113) [] []], .v (.int .u32 g), .v (.int .i64 h)] => P.au f e a b c d g h (fun i => K (.v (.int .u32 i)))
 | _ => none
noncomputable def spec : Abs.Spec := aj
theorem ok0 : Proved Tryz.prog GLO.gB 127 aj := by
 refine bf (D := D) (fn := Tryz.f127) (c := Tryz.f127.body.getD .skip) [.any] (by kernel_rfl) (ah (by kernel_rfl)) (by kernel_rfl) (by kernel_rfl) (by kernel_rfl) ⟨mh.ok, trivial⟩ trivial ?_ ?_
 · rw [loops]; exact trivial
 · intro args K r h
   unfold aj at h
   split at h
   · rw [P.aaw] at h; exact Eq.trans (by kernel_rfl) h
   · cases h
theorem ok : Proved Tryz.prog GLO.gB 127 spec := ok0
end au

namespace iw
noncomputable def D : Ctx := ({ P := Tryz.prog, G := [(113, mh.spec), (127, au.spec)], globs := GLO.gB, hints := [], loops := [], inl := [] } : Ctx)
theorem loops : bg (Tryz.f121.body.getD .skip) = [] := by kernel_rfl
noncomputable def aj : Abs.Spec := fun args K => match args with
 | [.agg [.v (.int .i64 f), .v (.int .i64 e), .arr .i64 3 a, .arr .i64 3 b, .arr .i64 3 c, .arr .i64 3 d, .fn (.func 113) [] []], .v (.int .u32 g), .v (.int .i64 h)] => P.iw f e a b c d g h (fun i => K (.v (.int .u32 i)))
 | _ => none
noncomputable def spec : Abs.Spec := aj
theorem ok0 : Proved Tryz.prog GLO.gB 121 aj := by
 refine bf (D := D) (fn := Tryz.f121) (c := Tryz.f121.body.getD .skip) [.any] (by kernel_rfl) (ah (by kernel_rfl)) (by kernel_rfl) (by kernel_rfl) (by kernel_rfl) ⟨mh.ok, au.ok, trivial⟩ trivial ?_ ?_
 · rw [loops]; exact trivial
 · intro args K r h
   unfold aj at h
   split at h
   · rw [P.y5] at h; exact Eq.trans (by kernel_rfl) h
   · cases h
theorem ok : Proved Tryz.prog GLO.gB 121 spec := ok0
end iw

namespace jf
noncomputable def D : Ctx := ({ P := Tryz.prog, G := [(113, mh.spec), (127, au.spec)], globs := GLO.gB, hints := [], loops := [], inl := [] } : Ctx)
theorem loops : bg (Tryz.f122.body.getD .skip) = [] := by kernel_rfl
noncomputable def aj : Abs.Spec := fun args K => match args with
 | [.agg [.v (.int .i64 f), .v (.int .i64 e), .arr .i64 3 a, .arr .i64 3 b, .arr .i64 3 c, .arr .i64 3 d, .fn (.func 113) [] []], .v (.int .u32 g), .v (.int .i64 h)] => P.jf f e a b c d g h (fun i => K (.v (.int .u32 i)))
 | _ => none
noncomputable def spec : Abs.Spec := aj
theorem ok0 : Proved Tryz.prog GLO.gB 122 aj := by
 refine bf (D := D) (fn := Tryz.f122) (c := Tryz.f122.body.getD .skip) [.any] (by kernel_rfl) (ah (by kernel_rfl)) (by kernel_rfl) (by kernel_rfl) (by kernel_rfl) ⟨mh.ok, au.ok, trivial⟩ trivial ?_ ?_
 · rw [loops]; exact trivial
 · intro args K r h
   unfold aj at h
   split at h
   · rw [P.zi] at h; exact Eq.trans (by kernel_rfl) h
   · cases h
theorem ok : Proved Tryz.prog GLO.gB 122 spec := ok0
end jf

namespace jq
abbrev X4 := P.zt9
def S4 : X4 → ASt := fun (k, l, j, a, b, c, d, e, f, g, h, i) => ⟨[(2, .sl (.ints .u8 k)), (3, .ptr 0 0), (4, .ptr 1 0), (6, .ptr 2 0), (7, .ptr 3 0), (8, .v (.int .i64 l)), (19, .v (.int .i64 j))], [(0, some ⟨.box 147 [.v (.int .i64 a), .v (.int .i64 b), .arr .i64 3 c, .arr .i64 3 d, .arr .i64 3 e, .arr .i64 3 f, .fn (.func 113) [] []], false⟩), (1, some ⟨.box 155 [.arr .u32 8 g], false⟩), (2, some ⟨.box 155 [.arr .u32 8 h], false⟩), (3, some ⟨.box 165 [.arr .u32 16 i], false⟩)], 4, 143⟩
def V4 : ASt → Option X4
 | ⟨[(2, .sl (.ints .u8 k)), (3, .ptr 0 0), (4, .ptr 1 0), (6, .ptr 2 0), (7, .ptr 3 0), (8, .v (.int .i64 l)), (19, .v (.int .i64 j))], [(0, some ⟨.box 147 [.v (.int .i64 a), .v (.int .i64 b), .arr .i64 3 c, .arr .i64 3 d, .arr .i64 3 e, .arr .i64 3 f, .fn (.func 113) [] []], false⟩), (1, some ⟨.box 155 [.arr .u32 8 g], false⟩), (2, some ⟨.box 155 [.arr .u32 8 h], false⟩), (3, some ⟨.box 165 [.arr .u32 16 i], false⟩)], 4, 143⟩ => some (k, l, j, a, b, c, d, e, f, g, h, i)
 | _ => none
theorem ate (st) (x) (h : V4 st = some x) : st = S4 x := by
 unfold V4 at h
 split at h
 · cases h; rfl
 · cases h
abbrev Y4 := P.zy9
abbrev X10 := P.bra
def S10 : X10 → ASt := fun (k, l, a, b, c, d, e, f, g, h, i, j) => ⟨[(3, .ptr 0 0), (4, .ptr 1 0), (6, .ptr 2 0), (7, .ptr 3 0), (10, .ptr 4 0), (38, .v (.int .i64 k)), (39, .v (.int .i64 l))], [(3, some ⟨.box 165 [.arr .u32 16 a], false⟩), (2, some ⟨.box 155 [.arr .u32 8 b], false⟩), (1, some ⟨.box 155 [.arr .u32 8 c], false⟩), (0, some ⟨.box 147 [.v (.int .i64 d), .v (.int .i64 e), .arr .i64 3 f, .arr .i64 3 g, .arr .i64 3 h, .arr .i64 3 i, .fn (.func 113) [] []], false⟩), (4, some ⟨.box 155 [.arr .u32 8 j], false⟩)], 5, 143⟩
def V10 : ASt → Option X10
 | ⟨[(3, .ptr 0 0), (4, .ptr 1 0), (6, .ptr 2 0), (7, .ptr 3 0), (10, .ptr 4 0), (38, .v (.int .i64 k)), (39, .v (.int .i64 l))], [(3, some ⟨.box 165 [.arr .u32 16 a], false⟩), (2, some ⟨.box 155 [.arr .u32 8 b], false⟩), (1, some ⟨.box 155 [.arr .u32 8 c], false⟩), (0, some ⟨.box 147 [.v (.int .i64 d), .v (.int .i64 e), .arr .i64 3 f, .arr .i64 3 g, .arr .i64 3 h, .arr .i64 3 i, .fn (.func 113) [] []], false⟩), (4, some ⟨.box 155 [.arr .u32 8 j], false⟩)], 5, 143⟩ => some (k, l, a, b, c, d, e, f, g, h, i, j)
 | _ => none
theorem at7 (st) (x) (h : V10 st = some x) : st = S10 x := by
 unfold V10 at h
 split at h
 · cases h; rfl
 · cases h
abbrev Y10 := P.bvf
abbrev X21 := P.br5
def S21 : X21 → ASt := fun (a, b, c, d) => ⟨[(4, .ptr 1 0), (6, .ptr 2 0), (10, .ptr 4 0), (130, .v (.int .i64 a))], [(1, some ⟨.box 155 [.arr .u32 8 b], false⟩), (2, some ⟨.box 155 [.arr .u32 8 c], false⟩), (4, some ⟨.box 155 [.arr .u32 8 d], false⟩)], 120, 143⟩
def V21 : ASt → Option X21
 | ⟨[(4, .ptr 1 0), (6, .ptr 2 0), (10, .ptr 4 0), (130, .v (.int .i64 a))], [(1, some ⟨.box 155 [.arr .u32 8 b], false⟩), (2, some ⟨.box 155 [.arr .u32 8 c], false⟩), (4, some ⟨.box 155 [.arr .u32 8 d], false⟩)], 120, 143⟩ => some (a, b, c, d)
 | _ => none
theorem bhr (st) (x) (h : V21 st = some x) : st = S21 x := by
 unfold V21 at h
 split at h
 · cases h; rfl
 · cases h
abbrev Y21 := P.bw2
def E4 (K : AExit → ASt → Option R) : Y4 → Option R := (fun x => K (.exit 0) (S4 x))
noncomputable def L4 : ru := fun st K => ae3 (V4 st) fun x => P.zm9 x (E4 K)
def E10 (K : AExit → ASt → Option R) : Y10 → Option R := (fun x => K (.exit 2) (S10 x))
noncomputable def L10 : ru := fun st K => ae3 (V10 st) fun x => P.bxa x (E10 K)
def E21 (K : AExit → ASt → Option R) : Y21 → Option R := (fun x => K (.exit 4) (S21 x))
noncomputable def L21 : ru := fun st K => ae3 (V21 st) fun x => P.buj x (E21 K)
noncomputable def D : Ctx := ({ P := Tryz.prog, G := [(54, jy.spec), (113, mh.spec), (121, iw.spec), (122, jf.spec)], globs := GLO.gB, hints := [(21, ⟨[4, 6, 10, 130], [], [6], [], some (120, [1, 2, 4]), [], [], []⟩), (10, ⟨[3, 4, 6, 7, 10, 38, 39], [], [6], [], none, [], [], []⟩), (4, ⟨[2, 3, 4, 6, 7, 8, 19], [], [6], [], none, [], [], []⟩)], loops := [(4, L4), (10, L10), (21, L21)], inl := [] } : Ctx)
theorem akm (K) (next) (x) : l8 D (dx Tryz.f112 4) K next (S4 x) = P.zs9 x (fun x => next (S4 x)) (E4 K) := by kernel_rfl
theorem auq : j5 D (dx Tryz.f112 4) := fq S4 ate (by kernel_rfl) P.ze9 akm
theorem alk (K) (next) (x) : l8 D (dx Tryz.f112 10) K next (S10 x) = P.bqk x (fun x => next (S10 x)) (E10 K) := by kernel_rfl
theorem atq : j5 D (dx Tryz.f112 10) := fq S10 at7 (by kernel_rfl) P.bz6 alk
theorem bbv (K) (next) (x) : l8 D (dx Tryz.f112 21) K next (S21 x) = P.bpn x (fun x => next (S21 x)) (E21 K) := by kernel_rfl
theorem bg2 : j5 D (dx Tryz.f112 21) := fq S21 bhr (by kernel_rfl) P.bz1 bbv
theorem loops : bg (Tryz.f112.body.getD .skip) = [dx Tryz.f112 4, dx Tryz.f112 10, dx Tryz.f112 21] := by kernel_rfl
noncomputable def aj : Abs.Spec := fun args K => match args with
 | [.agg [.v (.int .i64 f), .v (.int .i64 e), .arr .i64 3 a, .arr .i64 3 b, .arr .i64 3 c, .arr .i64 3 d, .fn (.func 113) [] []], .arr .u32 8 g, .sl (.ints .u8 h)] => P.jq f e a b c d g h (fun i => K (.arr .u32 8 i))
 | _ => none
noncomputable def spec : Abs.Spec := fun args K => aj (l7 [.any, .any, .sl (.ints .u8 [])] args) K
theorem ok0 : Proved Tryz.prog GLO.gB 112 aj := by
 refine bf (D := D) (fn := Tryz.f112) (c := Tryz.f112.body.getD .skip) [.any] (by kernel_rfl) (ah (by kernel_rfl)) (by kernel_rfl) (by kernel_rfl) (by kernel_rfl) ⟨jy.ok, mh.ok, iw.ok, jf.ok, trivial⟩ trivial ?_ ?_
 · rw [loops]; exact ⟨auq, atq, bg2, trivial⟩
 · intro args K r h
   unfold aj at h
   split at h
   · rw [P.ab0] at h; exact Eq.trans (by kernel_rfl) h
   · cases h
theorem ok : Proved Tryz.prog GLO.gB 112 spec := bq _ ok0
end jq

namespace nk
abbrev X3 := P.brm
def S3 : X3 → ASt := fun (l, j, k, a, b, c, d, e, f, g, h, i) => ⟨[(2, .sl (.ints .u8 l)), (3, .ptr 0 0), (4, .ptr 1 0), (6, .ptr 2 0), (8, .ptr 3 0), (14, .arr .u64 8 j), (15, .v (.int .i64 k))], [(0, some ⟨.box 147 [.v (.int .i64 a), .v (.int .i64 b), .arr .i64 3 c, .arr .i64 3 d, .arr .i64 3 e, .arr .i64 3 f, .fn (.func 113) [] []], false⟩), (1, some ⟨.box 125 [.arr .u64 8 g], false⟩), (2, some ⟨.box 125 [.arr .u64 8 h], false⟩), (3, some ⟨.box 155 [.arr .u32 8 i], false⟩)], 4, 52⟩
def V3 : ASt → Option X3
 | ⟨[(2, .sl (.ints .u8 l)), (3, .ptr 0 0), (4, .ptr 1 0), (6, .ptr 2 0), (8, .ptr 3 0), (14, .arr .u64 8 j), (15, .v (.int .i64 k))], [(0, some ⟨.box 147 [.v (.int .i64 a), .v (.int .i64 b), .arr .i64 3 c, .arr .i64 3 d, .arr .i64 3 e, .arr .i64 3 f, .fn (.func 113) [] []], false⟩), (1, some ⟨.box 125 [.arr .u64 8 g], false⟩), (2, some ⟨.box 125 [.arr .u64 8 h], false⟩), (3, some ⟨.box 155 [.arr .u32 8 i], false⟩)], 4, 52⟩ => some (l, j, k, a, b, c, d, e, f, g, h, i)
 | _ => none
theorem asr (st) (x) (h : V3 st = some x) : st = S3 x := by
 unfold V3 at h
 split at h
 · cases h; rfl
 · cases h
abbrev Y3 := P.buk
abbrev X8 := P.brc
def S8 : X8 → ASt := fun (k, j, a, b, c, d, e, f, g, h, i) => ⟨[(2, .sl (.ints .u8 k)), (3, .ptr 0 0), (4, .ptr 1 0), (6, .ptr 2 0), (8, .ptr 3 0), (11, .v (.int .i64 j))], [(3, some ⟨.box 155 [.arr .u32 8 a], false⟩), (2, some ⟨.box 125 [.arr .u64 8 b], false⟩), (1, some ⟨.box 125 [.arr .u64 8 c], false⟩), (0, some ⟨.box 147 [.v (.int .i64 d), .v (.int .i64 e), .arr .i64 3 f, .arr .i64 3 g, .arr .i64 3 h, .arr .i64 3 i, .fn (.func 113) [] []], false⟩)], 4, 52⟩
def V8 : ASt → Option X8
 | ⟨[(2, .sl (.ints .u8 k)), (3, .ptr 0 0), (4, .ptr 1 0), (6, .ptr 2 0), (8, .ptr 3 0), (11, .v (.int .i64 j))], [(3, some ⟨.box 155 [.arr .u32 8 a], false⟩), (2, some ⟨.box 125 [.arr .u64 8 b], false⟩), (1, some ⟨.box 125 [.arr .u64 8 c], false⟩), (0, some ⟨.box 147 [.v (.int .i64 d), .v (.int .i64 e), .arr .i64 3 f, .arr .i64 3 g, .arr .i64 3 h, .arr .i64 3 i, .fn (.func 113) [] []], false⟩)], 4, 52⟩ => some (k, j, a, b, c, d, e, f, g, h, i)
 | _ => none
theorem bby (st) (x) (h : V8 st = some x) : st = S8 x := by
 unfold V8 at h
 split at h
 · cases h; rfl
 · cases h
abbrev Y8 := P.byo
abbrev X12 := P.bp8
def S12 : X12 → ASt := fun (e, c, d, a, b) => ⟨[(2, .sl (.ints .u8 e)), (4, .ptr 1 0), (6, .ptr 2 0), (40, .arr .u32 8 c), (41, .v (.int .i64 d))], [(1, some ⟨.box 125 [.arr .u64 8 a], false⟩), (2, some ⟨.box 125 [.arr .u64 8 b], false⟩)], 120, 52⟩
def V12 : ASt → Option X12
 | ⟨[(2, .sl (.ints .u8 e)), (4, .ptr 1 0), (6, .ptr 2 0), (40, .arr .u32 8 c), (41, .v (.int .i64 d))], [(1, some ⟨.box 125 [.arr .u64 8 a], false⟩), (2, some ⟨.box 125 [.arr .u64 8 b], false⟩)], 120, 52⟩ => some (e, c, d, a, b)
 | _ => none
theorem bhy (st) (x) (h : V12 st = some x) : st = S12 x := by
 unfold V12 at h
 split at h
 · cases h; rfl
 · cases h
abbrev Y12 := P.bu4
def E3 (K : AExit → ASt → Option R) : Y3 → Option R := (fun x => K (.exit 0) (S3 x))
noncomputable def L3 : ru := fun st K => ae3 (V3 st) fun x => P.bxr x (E3 K)
def E8 (K : AExit → ASt → Option R) : Y8 → Option R := (fun x => K (.exit 2) (S8 x))
noncomputable def L8 : ru := fun st K => ae3 (V8 st) fun x => P.byk x (E8 K)
def E12 (K : AExit → ASt → Option R) : Y12 → Option R := (fun x => K (.exit 4) (S12 x))
noncomputable def L12 : ru := fun st K => ae3 (V12 st) fun x => P.bv2 x (E12 K)
noncomputable def D : Ctx := ({ P := Tryz.prog, G := [(112, jq.spec), (113, mh.spec)], globs := GLO.gB, hints := [(12, ⟨[2, 4, 6, 40, 41], [], [6, 7], [], some (120, [1, 2]), [], [], []⟩), (8, ⟨[2, 3, 4, 6, 8, 11], [], [6, 7], [(2, .sl (.ints .u8 []))], none, [], [], []⟩), (3, ⟨[2, 3, 4, 6, 8, 14, 15], [], [6, 7], [], none, [], [], []⟩)], loops := [(3, L3), (8, L8), (12, L12)], inl := [] } : Ctx)
theorem ajx (K) (next) (x) : l8 D (dx Tryz.f102 3) K next (S3 x) = P.zs12 x (fun x => next (S3 x)) (E3 K) := by kernel_rfl
theorem asa : j5 D (dx Tryz.f102 3) := fq S3 asr (by kernel_rfl) P.bzb ajx
theorem aur (K) (next) (x) : l8 D (dx Tryz.f102 8) K next (S8 x) = P.bq9 x (fun x => next (S8 x)) (E8 K) := by kernel_rfl
theorem bc5 : j5 D (dx Tryz.f102 8) := fq S8 bby (by kernel_rfl) P.bzs aur
theorem bbs (K) (next) (x) : l8 D (dx Tryz.f102 12) K next (S12 x) = P.bqf x (fun x => next (S12 x)) (E12 K) := by kernel_rfl
theorem bh2 : j5 D (dx Tryz.f102 12) := fq S12 bhy (by kernel_rfl) P.bzd bbs
theorem loops : bg (Tryz.f102.body.getD .skip) = [dx Tryz.f102 3, dx Tryz.f102 8, dx Tryz.f102 12] := by kernel_rfl
noncomputable def aj : Abs.Spec := fun args K => match args with
 | [.agg [.v (.int .i64 f), .v (.int .i64 e), .arr .i64 3 a, .arr .i64 3 b, .arr .i64 3 c, .arr .i64 3 d, .fn (.func 113) [] []], .arr .u64 8 g, .sl (.ints .u8 h)] => P.nk f e a b c d g h (fun i j => K (.tuple [.arr .u64 8 i, .sl (.ints .u8 j)]))
 | _ => none
noncomputable def spec : Abs.Spec := fun args K => aj (l7 [.any, .any, .sl (.ints .u8 [])] args) K
theorem ok0 : Proved Tryz.prog GLO.gB 102 aj := by
 refine bf (D := D) (fn := Tryz.f102) (c := Tryz.f102.body.getD .skip) [.any, .sl (.ints .u8 [])] (by kernel_rfl) (ah (by kernel_rfl)) (by kernel_rfl) (by kernel_rfl) (by kernel_rfl) ⟨jq.ok, mh.ok, trivial⟩ trivial ?_ ?_
 · rw [loops]; exact ⟨asa, bc5, bh2, trivial⟩
 · intro args K r h
   unfold aj at h
   split at h
   · rw [P.aeg] at h; exact Eq.trans (by kernel_rfl) h
   · cases h
theorem ok : Proved Tryz.prog GLO.gB 102 spec := bq _ ok0
end nk

namespace av
noncomputable def D : Ctx := ({ P := Tryz.prog, G := [(115, mo.spec)], globs := GLO.gB, hints := [], loops := [], inl := [] } : Ctx)
theorem loops : bg (Tryz.f128.body.getD .skip) = [] := by kernel_rfl
noncomputable def aj : Abs.Spec := fun args K => match args with
 | [.agg [.v (.int .i64 f), .v (.int .i64 e), .arr .i64 3 a, .arr .i64 3 b, .arr .i64 3 c, .arr .i64 3 d, .fn (.func 115) [] []], .v (.int .u64 g), .v (.int .i64 h)] => P.av f e a b c d g h (fun i => K (.v (.int .u64 i)))
 | _ => none
noncomputable def spec : Abs.Spec := aj
theorem ok0 : Proved Tryz.prog GLO.gB 128 aj := by
 refine bf (D := D) (fn := Tryz.f128) (c := Tryz.f128.body.getD .skip) [.any] (by kernel_rfl) (ah (by kernel_rfl)) (by kernel_rfl) (by kernel_rfl) (by kernel_rfl) ⟨mo.ok, trivial⟩ trivial ?_ ?_
 · rw [loops]; exact trivial
 · intro args K r h
   unfold aj at h
   split at h
   · rw [P.aav] at h; exact Eq.trans (by kernel_rfl) h
   · cases h
theorem ok : Proved Tryz.prog GLO.gB 128 spec := ok0
end av

namespace iy
noncomputable def D : Ctx := ({ P := Tryz.prog, G := [(115, mo.spec), (128, av.spec)], globs := GLO.gB, hints := [], loops := [], inl := [] } : Ctx)
theorem loops : bg (Tryz.f123.body.getD .skip) = [] := by kernel_rfl
noncomputable def aj : Abs.Spec := fun args K => match args with
 | [.agg [.v (.int .i64 f), .v (.int .i64 e), .arr .i64 3 a, .arr .i64 3 b, .arr .i64 3 c, .arr .i64 3 d, .fn (.func 115) [] []], .v (.int .u64 g), .v (.int .i64 h)] => P.iy f e a b c d g h (fun i => K (.v (.int .u64 i)))
 | _ => none
noncomputable def spec : Abs.Spec := aj
theorem ok0 : Proved Tryz.prog GLO.gB 123 aj := by
 refine bf (D := D) (fn := Tryz.f123) (c := Tryz.f123.body.getD .skip) [.any] (by kernel_rfl) (ah (by kernel_rfl)) (by kernel_rfl) (by kernel_rfl) (by kernel_rfl) ⟨mo.ok, av.ok, trivial⟩ trivial ?_ ?_
 · rw [loops]; exact trivial
 · intro args K r h
   unfold aj at h
   split at h
   · rw [P.y7] at h; exact Eq.trans (by kernel_rfl) h
   · cases h
theorem ok : Proved Tryz.prog GLO.gB 123 spec := ok0
end iy

namespace jg
noncomputable def D : Ctx := ({ P := Tryz.prog, G := [(115, mo.spec), (128, av.spec)], globs := GLO.gB, hints := [], loops := [], inl := [] } : Ctx)
theorem loops : bg (Tryz.f124.body.getD .skip) = [] := by kernel_rfl
noncomputable def aj : Abs.Spec := fun args K => match args with
 | [.agg [.v (.int .i64 f), .v (.int .i64 e), .arr .i64 3 a, .arr .i64 3 b, .arr .i64 3 c, .arr .i64 3 d, .fn (.func 115) [] []], .v (.int .u64 g), .v (.int .i64 h)] => P.jg f e a b c d g h (fun i => K (.v (.int .u64 i)))
 | _ => none
noncomputable def spec : Abs.Spec := aj
theorem ok0 : Proved Tryz.prog GLO.gB 124 aj := by
 refine bf (D := D) (fn := Tryz.f124) (c := Tryz.f124.body.getD .skip) [.any] (by kernel_rfl) (ah (by kernel_rfl)) (by kernel_rfl) (by kernel_rfl) (by kernel_rfl) ⟨mo.ok, av.ok, trivial⟩ trivial ?_ ?_
 · rw [loops]; exact trivial
 · intro args K r h
   unfold aj at h
   split at h
   · rw [P.zh] at h; exact Eq.trans (by kernel_rfl) h
   · cases h
theorem ok : Proved Tryz.prog GLO.gB 124 spec := ok0
end jg

namespace jo
abbrev X4 := P.bpf
def S4 : X4 → ASt := fun (k, l, j, a, b, c, d, e, f, g, h, i) => ⟨[(2, .sl (.ints .u8 k)), (3, .ptr 0 0), (4, .ptr 1 0), (6, .ptr 2 0), (7, .ptr 3 0), (8, .v (.int .i64 l)), (19, .v (.int .i64 j))], [(0, some ⟨.box 151 [.v (.int .i64 a), .v (.int .i64 b), .arr .i64 3 c, .arr .i64 3 d, .arr .i64 3 e, .arr .i64 3 f, .fn (.func 115) [] []], false⟩), (1, some ⟨.box 125 [.arr .u64 8 g], false⟩), (2, some ⟨.box 125 [.arr .u64 8 h], false⟩), (3, some ⟨.box 168 [.arr .u64 16 i], false⟩)], 4, 142⟩
def V4 : ASt → Option X4
 | ⟨[(2, .sl (.ints .u8 k)), (3, .ptr 0 0), (4, .ptr 1 0), (6, .ptr 2 0), (7, .ptr 3 0), (8, .v (.int .i64 l)), (19, .v (.int .i64 j))], [(0, some ⟨.box 151 [.v (.int .i64 a), .v (.int .i64 b), .arr .i64 3 c, .arr .i64 3 d, .arr .i64 3 e, .arr .i64 3 f, .fn (.func 115) [] []], false⟩), (1, some ⟨.box 125 [.arr .u64 8 g], false⟩), (2, some ⟨.box 125 [.arr .u64 8 h], false⟩), (3, some ⟨.box 168 [.arr .u64 16 i], false⟩)], 4, 142⟩ => some (k, l, j, a, b, c, d, e, f, g, h, i)
 | _ => none
theorem ate (st) (x) (h : V4 st = some x) : st = S4 x := by
 unfold V4 at h
 split at h
 · cases h; rfl
 · cases h
abbrev Y4 := P.bun
abbrev X10 := P.bp2
def S10 : X10 → ASt := fun (k, l, a, b, c, d, e, f, g, h, i, j) => ⟨[(3, .ptr 0 0), (4, .ptr 1 0), (6, .ptr 2 0), (7, .ptr 3 0), (10, .ptr 4 0), (37, .v (.int .i64 k)), (38, .v (.int .i64 l))], [(3, some ⟨.box 168 [.arr .u64 16 a], false⟩), (2, some ⟨.box 125 [.arr .u64 8 b], false⟩), (1, some ⟨.box 125 [.arr .u64 8 c], false⟩), (0, some ⟨.box 151 [.v (.int .i64 d), .v (.int .i64 e), .arr .i64 3 f, .arr .i64 3 g, .arr .i64 3 h, .arr .i64 3 i, .fn (.func 115) [] []], false⟩), (4, some ⟨.box 125 [.arr .u64 8 j], false⟩)], 5, 142⟩
def V10 : ASt → Option X10
 | ⟨[(3, .ptr 0 0), (4, .ptr 1 0), (6, .ptr 2 0), (7, .ptr 3 0), (10, .ptr 4 0), (37, .v (.int .i64 k)), (38, .v (.int .i64 l))], [(3, some ⟨.box 168 [.arr .u64 16 a], false⟩), (2, some ⟨.box 125 [.arr .u64 8 b], false⟩), (1, some ⟨.box 125 [.arr .u64 8 c], false⟩), (0, some ⟨.box 151 [.v (.int .i64 d), .v (.int .i64 e), .arr .i64 3 f, .arr .i64 3 g, .arr .i64 3 h, .arr .i64 3 i, .fn (.func 115) [] []], false⟩), (4, some ⟨.box 125 [.arr .u64 8 j], false⟩)], 5, 142⟩ => some (k, l, a, b, c, d, e, f, g, h, i, j)
 | _ => none
theorem at7 (st) (x) (h : V10 st = some x) : st = S10 x := by
 unfold V10 at h
 split at h
 · cases h; rfl
 · cases h
abbrev Y10 := P.bwo
abbrev X21 := P.bqm
def S21 : X21 → ASt := fun (a, b, c, d) => ⟨[(4, .ptr 1 0), (6, .ptr 2 0), (10, .ptr 4 0), (129, .v (.int .i64 a))], [(1, some ⟨.box 125 [.arr .u64 8 b], false⟩), (2, some ⟨.box 125 [.arr .u64 8 c], false⟩), (4, some ⟨.box 125 [.arr .u64 8 d], false⟩)], 120, 142⟩
def V21 : ASt → Option X21
 | ⟨[(4, .ptr 1 0), (6, .ptr 2 0), (10, .ptr 4 0), (129, .v (.int .i64 a))], [(1, some ⟨.box 125 [.arr .u64 8 b], false⟩), (2, some ⟨.box 125 [.arr .u64 8 c], false⟩), (4, some ⟨.box 125 [.arr .u64 8 d], false⟩)], 120, 142⟩ => some (a, b, c, d)
 | _ => none
theorem bhr (st) (x) (h : V21 st = some x) : st = S21 x := by
 unfold V21 at h
 split at h
 · cases h; rfl
 · cases h
abbrev Y21 := P.bxk
def E4 (K : AExit → ASt → Option R) : Y4 → Option R := (fun x => K (.exit 0) (S4 x))
noncomputable def L4 : ru := fun st K => ae3 (V4 st) fun x => P.bwt x (E4 K)
def E10 (K : AExit → ASt → Option R) : Y10 → Option R := (fun x => K (.exit 2) (S10 x))
noncomputable def L10 : ru := fun st K => ae3 (V10 st) fun x => P.byy x (E10 K)
def E21 (K : AExit → ASt → Option R) : Y21 → Option R := (fun x => K (.exit 4) (S21 x))
noncomputable def L21 : ru := fun st K => ae3 (V21 st) fun x => P.bwn x (E21 K)
noncomputable def D : Ctx := ({ P := Tryz.prog, G := [(54, jy.spec), (115, mo.spec), (123, iy.spec), (124, jg.spec)], globs := GLO.gB, hints := [(21, ⟨[4, 6, 10, 129], [], [6], [], some (120, [1, 2, 4]), [], [], []⟩), (10, ⟨[3, 4, 6, 7, 10, 37, 38], [], [6], [], none, [], [], []⟩), (4, ⟨[2, 3, 4, 6, 7, 8, 19], [], [6], [], none, [], [], []⟩)], loops := [(4, L4), (10, L10), (21, L21)], inl := [] } : Ctx)
theorem akm (K) (next) (x) : l8 D (dx Tryz.f114 4) K next (S4 x) = P.bpp x (fun x => next (S4 x)) (E4 K) := by kernel_rfl
theorem auq : j5 D (dx Tryz.f114 4) := fq S4 ate (by kernel_rfl) P.bzf akm
theorem alk (K) (next) (x) : l8 D (dx Tryz.f114 10) K next (S10 x) = P.brz x (fun x => next (S10 x)) (E10 K) := by kernel_rfl
theorem atq : j5 D (dx Tryz.f114 10) := fq S10 at7 (by kernel_rfl) P.bzm alk
theorem bbv (K) (next) (x) : l8 D (dx Tryz.f114 21) K next (S21 x) = P.br0 x (fun x => next (S21 x)) (E21 K) := by kernel_rfl
theorem bg2 : j5 D (dx Tryz.f114 21) := fq S21 bhr (by kernel_rfl) P.bzr bbv
theorem loops : bg (Tryz.f114.body.getD .skip) = [dx Tryz.f114 4, dx Tryz.f114 10, dx Tryz.f114 21] := by kernel_rfl
noncomputable def aj : Abs.Spec := fun args K => match args with
 | [.agg [.v (.int .i64 f), .v (.int .i64 e), .arr .i64 3 a, .arr .i64 3 b, .arr .i64 3 c, .arr .i64 3 d, .fn (.func 115) [] []], .arr .u64 8 g, .sl (.ints .u8 h)] => P.jo f e a b c d g h (fun i => K (.arr .u64 8 i))
 | _ => none
noncomputable def spec : Abs.Spec := fun args K => aj (l7 [.any, .any, .sl (.ints .u8 [])] args) K
theorem ok0 : Proved Tryz.prog GLO.gB 114 aj := by
 refine bf (D := D) (fn := Tryz.f114) (c := Tryz.f114.body.getD .skip) [.any] (by kernel_rfl) (ah (by kernel_rfl)) (by kernel_rfl) (by kernel_rfl) (by kernel_rfl) ⟨jy.ok, mo.ok, iy.ok, jg.ok, trivial⟩ trivial ?_ ?_
 · rw [loops]; exact ⟨auq, atq, bg2, trivial⟩
 · intro args K r h
   unfold aj at h
   split at h
   · rw [P.ab2] at h; exact Eq.trans (by kernel_rfl) h
   · cases h
theorem ok : Proved Tryz.prog GLO.gB 114 spec := bq _ ok0
end jo

end
