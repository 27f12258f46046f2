/-
  HssSigns, part 15: an interpreter of my own over abstract values, the pure functions, the walks and the plain law.
-/

import Derived.Test.YtmipokjdajiimaaGreatDoorHssSignsK
import Derived.Test.YtmipokjdajiimaaGreatDoorHssSignsH
import Derived.Test.YtmipokjdajiimaaGreatDoorProg
import Derived.Test.YtmipokjdajiimaaGreatDoorHssSignsJ
import Derived.Test.YtmipokjdajiimaaGreatDoorHssSignsM
import Derived.Test.YtmipokjdajiimaaGreatDoorHssSignsN
import Derived.KernelRfl
import Derived.Test.YtmipokjdajiimaaGreatDoorHssSignsI

section
open Go Go.Abs Go.Proofs
set_option maxRecDepth 100000
set_option maxHeartbeats 0
set_option linter.unusedVariables false

namespace j6
abbrev X4 := P.bvh
def S4 : X4 → ASt := fun (k, l, j, a, b, c, d, e, f, g, h, i) => ⟨[(2, .sl (.ints .u8 k)), (3, .ptr 0 0), (4, .ptr 1 0), (6, .ptr 2 0), (7, .ptr 3 0), (8, .v (.int .i64 l)), (19, .v (.int .i64 j))], [(0, some ⟨.box 151 [.v (.int .i64 a), .v (.int .i64 b), .arr .i64 3 c, .arr .i64 3 d, .arr .i64 3 e, .arr .i64 3 f, .fn (.func 115) [] []], false⟩), (1, some ⟨.box 125 [.arr .u64 8 g], false⟩), (2, some ⟨.box 125 [.arr .u64 8 h], false⟩), (3, some ⟨.box 168 [.arr .u64 16 i], false⟩)], 4, 142⟩
def V4 : ASt → Option X4
 | ⟨[(2, .sl (.ints .u8 k)), (3, .ptr 0 0), (4, .ptr 1 0), (6, .ptr 2 0), (7, .ptr 3 0), (8, .v (.int .i64 l)), (19, .v (.int .i64 j))], [(0, some ⟨.box 151 [.v (.int .i64 a), .v (.int .i64 b), .arr .i64 3 c, .arr .i64 3 d, .arr .i64 3 e, .arr .i64 3 f, .fn (.func 115) [] []], false⟩), (1, some ⟨.box 125 [.arr .u64 8 g], false⟩), (2, some ⟨.box 125 [.arr .u64 8 h], false⟩), (3, some ⟨.box 168 [.arr .u64 16 i], false⟩)], 4, 142⟩ => some (k, l, j, a, b, c, d, e, f, g, h, i)
 | _ => none
theorem avh (st) (x) (h : V4 st = some x) : st = S4 x := by
 unfold V4 at h
 split at h
 · cases h; rfl
 · cases h
abbrev Y4 := P.b3a
abbrev X10 := P.bvp
def S10 : X10 → ASt := fun (k, l, a, b, c, d, e, f, g, h, i, j) => ⟨[(3, .ptr 0 0), (4, .ptr 1 0), (6, .ptr 2 0), (7, .ptr 3 0), (10, .ptr 4 0), (37, .v (.int .i64 k)), (38, .v (.int .i64 l))], [(3, some ⟨.box 168 [.arr .u64 16 a], false⟩), (2, some ⟨.box 125 [.arr .u64 8 b], false⟩), (1, some ⟨.box 125 [.arr .u64 8 c], false⟩), (0, some ⟨.box 151 [.v (.int .i64 d), .v (.int .i64 e), .arr .i64 3 f, .arr .i64 3 g, .arr .i64 3 h, .arr .i64 3 i, .fn (.func 115) [] []], false⟩), (4, some ⟨.box 125 [.arr .u64 8 j], false⟩)], 5, 142⟩
def V10 : ASt → Option X10
 | ⟨[(3, .ptr 0 0), (4, .ptr 1 0), (6, .ptr 2 0), (7, .ptr 3 0), (10, .ptr 4 0), (37, .v (.int .i64 k)), (38, .v (.int .i64 l))], [(3, some ⟨.box 168 [.arr .u64 16 a], false⟩), (2, some ⟨.box 125 [.arr .u64 8 b], false⟩), (1, some ⟨.box 125 [.arr .u64 8 c], false⟩), (0, some ⟨.box 151 [.v (.int .i64 d), .v (.int .i64 e), .arr .i64 3 f, .arr .i64 3 g, .arr .i64 3 h, .arr .i64 3 i, .fn (.func 115) [] []], false⟩), (4, some ⟨.box 125 [.arr .u64 8 j], false⟩)], 5, 142⟩ => some (k, l, a, b, c, d, e, f, g, h, i, j)
 | _ => none
theorem aw7 (st) (x) (h : V10 st = some x) : st = S10 x := by
 unfold V10 at h
 split at h
 · cases h; rfl
 · cases h
abbrev Y10 := P.b45
abbrev X21 := P.bvv
def S21 : X21 → ASt := fun (a, b, c, d) => ⟨[(4, .ptr 1 0), (6, .ptr 2 0), (10, .ptr 4 0), (129, .v (.int .i64 a))], [(1, some ⟨.box 125 [.arr .u64 8 b], false⟩), (2, some ⟨.box 125 [.arr .u64 8 c], false⟩), (4, some ⟨.box 125 [.arr .u64 8 d], false⟩)], 120, 142⟩
def V21 : ASt → Option X21
 | ⟨[(4, .ptr 1 0), (6, .ptr 2 0), (10, .ptr 4 0), (129, .v (.int .i64 a))], [(1, some ⟨.box 125 [.arr .u64 8 b], false⟩), (2, some ⟨.box 125 [.arr .u64 8 c], false⟩), (4, some ⟨.box 125 [.arr .u64 8 d], false⟩)], 120, 142⟩ => some (a, b, c, d)
 | _ => none
theorem bk5 (st) (x) (h : V21 st = some x) : st = S21 x := by
 unfold V21 at h
 split at h
 · cases h; rfl
 · cases h
abbrev Y21 := P.b0n
def E4 (K : AExit → ASt → Option R) : Y4 → Option R := (fun x => K (.exit 0) (S4 x))
noncomputable def L4 : qb := fun st K => adk (V4 st) fun x => P.bzj x (E4 K)
def E10 (K : AExit → ASt → Option R) : Y10 → Option R := (fun x => K (.exit 2) (S10 x))
noncomputable def L10 : qb := fun st K => adk (V10 st) fun x => P.b2w x (E10 K)
def E21 (K : AExit → ASt → Option R) : Y21 → Option R := (fun x => K (.exit 4) (S21 x))
noncomputable def L21 : qb := fun st K => adk (V21 st) fun x => P.b2q x (E21 K)
noncomputable def D : Ctx := ({ P := Tryz.prog, G := [(54, jo.spec), (115, nk.spec), (123, jf.spec), (124, jm.spec)], globs := GLO.gB, hints := [(21, ⟨[4, 6, 10, 129], [], [6], [], some (120, [1, 2, 4]), [], [], []⟩), (10, ⟨[3, 4, 6, 7, 10, 37, 38], [], [6], [], none, [], [], []⟩), (4, ⟨[2, 3, 4, 6, 7, 8, 19], [], [6], [], none, [], [], []⟩)], loops := [(4, L4), (10, L10), (21, L21)], inl := [] } : Ctx)
theorem ak5 (K) (next) (x) : lu D (cu Tryz.f114 4) K next (S4 x) = P.bxf x (fun x => next (S4 x)) (E4 K) := by kernel_rfl
theorem avs : jq D (cu Tryz.f114 4) := eu S4 avh (by kernel_rfl) P.b7c ak5
theorem aog (K) (next) (x) : lu D (cu Tryz.f114 10) K next (S10 x) = P.bt1 x (fun x => next (S10 x)) (E10 K) := by kernel_rfl
theorem awz : jq D (cu Tryz.f114 10) := eu S10 aw7 (by kernel_rfl) P.b63 aog
theorem bfv (K) (next) (x) : lu D (cu Tryz.f114 21) K next (S21 x) = P.bwy x (fun x => next (S21 x)) (E21 K) := by kernel_rfl
theorem bmn : jq D (cu Tryz.f114 21) := eu S21 bk5 (by kernel_rfl) P.b6s bfv
theorem loops : bg (Tryz.f114.body.getD .skip) = [cu Tryz.f114 4, cu Tryz.f114 10, cu Tryz.f114 21] := by kernel_rfl
noncomputable def ak : Abs.Spec := fun args K => match args with
 | [.agg [.v (.int .i64 f), .v (.int .i64 e), .arr .i64 3 a, .arr .i64 3 b, .arr .i64 3 c, .arr .i64 3 d, .fn (.func 115) [] []], .arr .u64 8 g, .sl (.ints .u8 h)] => P.j6 f e a b c d g h (fun i => K (.arr .u64 8 i))
 | _ => none
noncomputable def spec : Abs.Spec := fun args K => ak (kg [.any, .any, .sl (.ints .u8 [])] args) K
theorem ok0 : Proved Tryz.prog GLO.gB 114 ak := by
 refine bf (D := D) (fn := Tryz.f114) (c := Tryz.f114.body.getD .skip) [.any] (by kernel_rfl) (ah (by kernel_rfl)) (by kernel_rfl) (by kernel_rfl) (by kernel_rfl) ⟨jo.ok, nk.ok, jf.ok, jm.ok, trivial⟩ trivial ?_ ?_
 · rw [loops]; exact ⟨avs, awz, bmn, trivial⟩
 · intro args K r h
   unfold ak at h
   split at h
   · rw [P.aci] at h; exact Eq.trans (by kernel_rfl) h
   · cases h
theorem ok : Proved Tryz.prog GLO.gB 114 spec := bn _ ok0
end j6

namespace oh
abbrev X3 := P.bul
def S3 : X3 → ASt := fun (l, j, k, a, b, c, d, e, f, g, h, i) => ⟨[(2, .sl (.ints .u8 l)), (3, .ptr 0 0), (4, .ptr 1 0), (6, .ptr 2 0), (8, .ptr 3 0), (14, .arr .u64 8 j), (15, .v (.int .i64 k))], [(0, some ⟨.box 151 [.v (.int .i64 a), .v (.int .i64 b), .arr .i64 3 c, .arr .i64 3 d, .arr .i64 3 e, .arr .i64 3 f, .fn (.func 115) [] []], false⟩), (1, some ⟨.box 125 [.arr .u64 8 g], false⟩), (2, some ⟨.box 125 [.arr .u64 8 h], false⟩), (3, some ⟨.box 125 [.arr .u64 8 i], false⟩)], 4, 50⟩
def V3 : ASt → Option X3
 | ⟨[(2, .sl (.ints .u8 l)), (3, .ptr 0 0), (4, .ptr 1 0), (6, .ptr 2 0), (8, .ptr 3 0), (14, .arr .u64 8 j), (15, .v (.int .i64 k))], [(0, some ⟨.box 151 [.v (.int .i64 a), .v (.int .i64 b), .arr .i64 3 c, .arr .i64 3 d, .arr .i64 3 e, .arr .i64 3 f, .fn (.func 115) [] []], false⟩), (1, some ⟨.box 125 [.arr .u64 8 g], false⟩), (2, some ⟨.box 125 [.arr .u64 8 h], false⟩), (3, some ⟨.box 125 [.arr .u64 8 i], false⟩)], 4, 50⟩ => some (l, j, k, a, b, c, d, e, f, g, h, i)
 | _ => none
theorem anu (st) (x) (h : V3 st = some x) : st = S3 x := by
 unfold V3 at h
 split at h
 · cases h; rfl
 · cases h
abbrev Y3 := P.b5b
abbrev X8 := P.bw2
def S8 : X8 → ASt := fun (k, j, a, b, c, d, e, f, g, h, i) => ⟨[(2, .sl (.ints .u8 k)), (3, .ptr 0 0), (4, .ptr 1 0), (6, .ptr 2 0), (8, .ptr 3 0), (11, .v (.int .i64 j))], [(3, some ⟨.box 125 [.arr .u64 8 a], false⟩), (2, some ⟨.box 125 [.arr .u64 8 b], false⟩), (1, some ⟨.box 125 [.arr .u64 8 c], false⟩), (0, some ⟨.box 151 [.v (.int .i64 d), .v (.int .i64 e), .arr .i64 3 f, .arr .i64 3 g, .arr .i64 3 h, .arr .i64 3 i, .fn (.func 115) [] []], false⟩)], 4, 50⟩
def V8 : ASt → Option X8
 | ⟨[(2, .sl (.ints .u8 k)), (3, .ptr 0 0), (4, .ptr 1 0), (6, .ptr 2 0), (8, .ptr 3 0), (11, .v (.int .i64 j))], [(3, some ⟨.box 125 [.arr .u64 8 a], false⟩), (2, some ⟨.box 125 [.arr .u64 8 b], false⟩), (1, some ⟨.box 125 [.arr .u64 8 c], false⟩), (0, some ⟨.box 151 [.v (.int .i64 d), .v (.int .i64 e), .arr .i64 3 f, .arr .i64 3 g, .arr .i64 3 h, .arr .i64 3 i, .fn (.func 115) [] []], false⟩)], 4, 50⟩ => some (k, j, a, b, c, d, e, f, g, h, i)
 | _ => none
theorem bbh (st) (x) (h : V8 st = some x) : st = S8 x := by
 unfold V8 at h
 split at h
 · cases h; rfl
 · cases h
abbrev Y8 := P.b5o
abbrev X12 := P.bv4
def S12 : X12 → ASt := fun (e, c, d, a, b) => ⟨[(2, .sl (.ints .u8 e)), (4, .ptr 1 0), (6, .ptr 2 0), (39, .arr .u64 8 c), (40, .v (.int .i64 d))], [(1, some ⟨.box 125 [.arr .u64 8 a], false⟩), (2, some ⟨.box 125 [.arr .u64 8 b], false⟩)], 120, 50⟩
def V12 : ASt → Option X12
 | ⟨[(2, .sl (.ints .u8 e)), (4, .ptr 1 0), (6, .ptr 2 0), (39, .arr .u64 8 c), (40, .v (.int .i64 d))], [(1, some ⟨.box 125 [.arr .u64 8 a], false⟩), (2, some ⟨.box 125 [.arr .u64 8 b], false⟩)], 120, 50⟩ => some (e, c, d, a, b)
 | _ => none
theorem blv (st) (x) (h : V12 st = some x) : st = S12 x := by
 unfold V12 at h
 split at h
 · cases h; rfl
 · cases h
abbrev Y12 := P.b3n
def E3 (K : AExit → ASt → Option R) : Y3 → Option R := (fun x => K (.exit 0) (S3 x))
noncomputable def L3 : qb := fun st K => adk (V3 st) fun x => P.b2j x (E3 K)
def E8 (K : AExit → ASt → Option R) : Y8 → Option R := (fun x => K (.exit 2) (S8 x))
noncomputable def L8 : qb := fun st K => adk (V8 st) fun x => P.b47 x (E8 K)
def E12 (K : AExit → ASt → Option R) : Y12 → Option R := (fun x => K (.exit 4) (S12 x))
noncomputable def L12 : qb := fun st K => adk (V12 st) fun x => P.b1b x (E12 K)
noncomputable def D : Ctx := ({ P := Tryz.prog, G := [(114, j6.spec), (115, nk.spec)], globs := GLO.gB, hints := [(12, ⟨[2, 4, 6, 39, 40], [], [6, 7], [], some (120, [1, 2]), [], [], []⟩), (8, ⟨[2, 3, 4, 6, 8, 11], [], [6, 7], [(2, .sl (.ints .u8 []))], none, [], [], []⟩), (3, ⟨[2, 3, 4, 6, 8, 14, 15], [], [6, 7], [], none, [], [], []⟩)], loops := [(3, L3), (8, L8), (12, L12)], inl := [] } : Ctx)
theorem ahi (K) (next) (x) : lu D (cu Tryz.f104 3) K next (S3 x) = P.bwv x (fun x => next (S3 x)) (E3 K) := by kernel_rfl
theorem an2 : jq D (cu Tryz.f104 3) := eu S3 anu (by kernel_rfl) P.b6i ahi
theorem aqe (K) (next) (x) : lu D (cu Tryz.f104 8) K next (S8 x) = P.bu8 x (fun x => next (S8 x)) (E8 K) := by kernel_rfl
theorem bcw : jq D (cu Tryz.f104 8) := eu S8 bbh (by kernel_rfl) P.b5z aqe
theorem bg5 (K) (next) (x) : lu D (cu Tryz.f104 12) K next (S12 x) = P.buo x (fun x => next (S12 x)) (E12 K) := by kernel_rfl
theorem bns : jq D (cu Tryz.f104 12) := eu S12 blv (by kernel_rfl) P.b6z bg5
theorem loops : bg (Tryz.f104.body.getD .skip) = [cu Tryz.f104 3, cu Tryz.f104 8, cu Tryz.f104 12] := by kernel_rfl
noncomputable def ak : Abs.Spec := fun args K => match args with
 | [.agg [.v (.int .i64 f), .v (.int .i64 e), .arr .i64 3 a, .arr .i64 3 b, .arr .i64 3 c, .arr .i64 3 d, .fn (.func 115) [] []], .arr .u64 8 g, .sl (.ints .u8 h)] => P.oh f e a b c d g h (fun i j => K (.tuple [.arr .u64 8 i, .sl (.ints .u8 j)]))
 | _ => none
noncomputable def spec : Abs.Spec := fun args K => ak (kg [.any, .any, .sl (.ints .u8 [])] args) K
theorem ok0 : Proved Tryz.prog GLO.gB 104 ak := by
 refine bf (D := D) (fn := Tryz.f104) (c := Tryz.f104.body.getD .skip) [.any, .sl (.ints .u8 [])] (by kernel_rfl) (ah (by kernel_rfl)) (by kernel_rfl) (by kernel_rfl) (by kernel_rfl) ⟨j6.ok, nk.ok, trivial⟩ trivial ?_ ?_
 · rw [loops]; exact ⟨an2, bcw, bns, trivial⟩
 · intro args K r h
   unfold ak at h
   split at h
   · rw [P.afp] at h; exact Eq.trans (by kernel_rfl) h
   · cases h
theorem ok : Proved Tryz.prog GLO.gB 104 spec := bn _ ok0
end oh

namespace og
noncomputable def D : Ctx := { P := Tryz.prog, G := [], globs := GLO.gB, hints := [], loops := [] }
noncomputable def c : Code := Tryz.f106.body.getD .skip
noncomputable def o0 : Oper := (bje (sq1 c)).getD 0 bi0
noncomputable def o1 : Oper := (bje (sq1 (sq1 (sq2 c)))).getD 0 bi0
noncomputable def o2 : Oper := (bje (sq1 (sq1 (sq2 c)))).getD 1 bi0
noncomputable def X : Code := b1a (sq2 (sq1 (sq2 c)))
noncomputable def rest : Code := sq2 (sq2 c)
noncomputable def ox : Oper := (bje (sq1 X)).getD 0 bi0
theorem bsc (a : List Int) : adq D rest ⟨[(0, .sl (.ints .u8 a)), (2, .v (.slice none 0 0))], [], 0, Tryz.f106.ntmps⟩ (b6t D [.fr 5 (.ints .u8 a)] Tryz.f106) = br (decide ((0 + a.length) * 1 ≤ 140737488355328)) (some (.fr 5 (.ints .u8 a))) none := by kernel_rfl
noncomputable def ak : Abs.Spec := fun args K => match args with
  | [.sl (.ints .u8 a)] => P.og a (fun a => K (.fr 5 (.ints .u8 a)))
  | _ => none
theorem bs1 : Tryz.f106.body = some (.seq (.region 0 #[o0] false) (.seq (.seq (.region 1 #[o1, o2] false) (.cond (.tmp 4) X .skip)) rest)) := by kernel_rfl
theorem ok0 : Proved Tryz.prog GLO.gB 106 ak := by
  refine ⟨⟨Tryz.f106, by kernel_rfl, by kernel_rfl, by kernel_rfl⟩, fun args K r h => ?_⟩
  unfold ak at h
  split at h
  · rename_i a
    unfold P.og at h
    obtain ⟨hp, hK⟩ := pre_some h
    refine ⟨_, hK, bpw (D := D) (fn := Tryz.f106) (t := 23) (e := 5) trivial (ah (by kernel_rfl)) trivial (by kernel_rfl) (by kernel_rfl) bs1 ⟨by kernel_rfl, by kernel_rfl, by kernel_rfl⟩ ⟨by kernel_rfl, by kernel_rfl, by kernel_rfl⟩ ⟨by kernel_rfl, by kernel_rfl, by kernel_rfl⟩ (by kernel_rfl) (by decide +kernel) (by kernel_rfl) (by kernel_rfl) ⟨2, ox, by kernel_rfl, by kernel_rfl, by kernel_rfl, by kernel_rfl⟩ (by kernel_rfl) rfl rfl rfl ?_⟩
    rw [bsc, aj (by omega)]
  · cases h
noncomputable def spec : Abs.Spec := fun args K => ak (kg [.sl (.ints .u8 [])] args) K
theorem ok : Proved Tryz.prog GLO.gB 106 spec := bn _ ok0
end og

namespace sw
noncomputable def D : Ctx := ({ P := Tryz.prog, G := [(56, iy.spec), (102, oq.spec), (103, abp.spec), (104, oh.spec), (105, abj.spec), (106, og.spec)], globs := GLO.gB, hints := [], loops := [], inl := [] } : Ctx)
theorem loops : bg (Tryz.f92.body.getD .skip) = [] := by kernel_rfl
noncomputable def ak : Abs.Spec := fun args K => match args with
 | [.agg [.v (.int .i64 c), .arr .u64 8 a, .sl (.ints .u8 d), .v (.int .u64 e)], .sl (.ints .u8 i)] => P.sw c a d e i (fun f b g h => K (.agg [.v (.int .i64 f), .arr .u64 8 b, .fr 5 (.ints .u8 g), .v (.int .u64 h)]))
 | _ => none
noncomputable def spec : Abs.Spec := fun args K => ak (kg [.agg [.any, .any, .sl (.ints .u8 []), .any], .sl (.ints .u8 [])] args) K
theorem ok0 : Proved Tryz.prog GLO.gB 92 ak := by
 refine bf (D := D) (fn := Tryz.f92) (c := Tryz.f92.body.getD .skip) [.agg [.any, .any, .fr 5 (.ints .u8 []), .any]] (by kernel_rfl) (ah (by kernel_rfl)) (by kernel_rfl) (by kernel_rfl) (by kernel_rfl) ⟨iy.ok, oq.ok, abp.ok, oh.ok, abj.ok, og.ok, trivial⟩ trivial ?_ ?_
 · rw [loops]; exact trivial
 · intro args K r h
   unfold ak at h
   split at h
   · rw [P.azc] at h; exact Eq.trans (by kernel_rfl) h
   · cases h
theorem ok : Proved Tryz.prog GLO.gB 92 spec := bn _ ok0
end sw

namespace qm
noncomputable def D : Ctx := ({ P := Tryz.prog, G := [], globs := GLO.gB, hints := [], loops := [], inl := [] } : Ctx)
theorem loops : bg (Tryz.f107.body.getD .skip) = [] := by kernel_rfl
noncomputable def ak : Abs.Spec := fun args K => match args with
 | [.v (.int .i64 a)] => P.qm a (fun b => K (.v (.int .i64 b)))
 | _ => none
noncomputable def spec : Abs.Spec := ak
theorem ok0 : Proved Tryz.prog GLO.gB 107 ak := by
 refine bf (D := D) (fn := Tryz.f107) (c := Tryz.f107.body.getD .skip) [.any] (by kernel_rfl) (ah (by kernel_rfl)) (by kernel_rfl) (by kernel_rfl) (by kernel_rfl) trivial trivial ?_ ?_
 · rw [loops]; exact trivial
 · intro args K r h
   unfold ak at h
   split at h
   · rw [P.akf] at h; exact Eq.trans (by kernel_rfl) h
   · cases h
theorem ok : Proved Tryz.prog GLO.gB 107 spec := ok0
end qm

namespace aak
abbrev X10 := P.bts
def S10 : X10 → ASt := fun (g, d, e, f, a, b, c, h) => ⟨[(7, .own 40), (1, .ptr 0 0), (3, .v (.int .i64 g)), (45, .arr .u64 8 d), (46, .v (.int .i64 e))], [(40, some ⟨.row 5 (.ints .u8 f), false⟩), (0, some ⟨.box 127 [.v (.int .i64 a), .arr .u64 8 b, .own 5, .v (.int .u64 c)], false⟩), (5, some ⟨.row 5 (.ints .u8 h), false⟩)], 41, 62⟩
def V10 : ASt → Option X10
 | ⟨[(7, .own 40), (1, .ptr 0 0), (3, .v (.int .i64 g)), (45, .arr .u64 8 d), (46, .v (.int .i64 e))], [(40, some ⟨.row 5 (.ints .u8 f), false⟩), (0, some ⟨.box 127 [.v (.int .i64 a), .arr .u64 8 b, .own 5, .v (.int .u64 c)], false⟩), (5, some ⟨.row 5 (.ints .u8 h), false⟩)], 41, 62⟩ => some (g, d, e, f, a, b, c, h)
 | _ => none
theorem aw7 (st) (x) (h : V10 st = some x) : st = S10 x := by
 unfold V10 at h
 split at h
 · cases h; rfl
 · cases h
abbrev Y10 := P.b08
def E10 (K : AExit → ASt → Option R) : Y10 → Option R := (fun x => K (.exit 0) (S10 x))
noncomputable def L10 : qb := fun st K => adk (V10 st) fun x => P.bza x (E10 K)
noncomputable def D : Ctx := ({ P := Tryz.prog, G := [(30, gu.spec), (92, sw.spec), (107, qm.spec)], globs := GLO.gB, hints := [(10, ⟨[1, 3, 45, 46], [(7, 5, .ints .u8 [])], [2], [], some (40, [0, 5]), [], [], []⟩)], loops := [(10, L10)], inl := [] } : Ctx)
theorem aog (K) (next) (x) : lu D (cu Tryz.f93 10) K next (S10 x) = P.bvr x (fun x => next (S10 x)) (E10 K) := by kernel_rfl
theorem awz : jq D (cu Tryz.f93 10) := eu S10 aw7 (by kernel_rfl) P.b7a aog
theorem loops : bg (Tryz.f93.body.getD .skip) = [cu Tryz.f93 10] := by kernel_rfl
noncomputable def ak : Abs.Spec := fun args K => match args with
 | [.agg [.v (.int .i64 b), .arr .u64 8 a, .sl (.ints .u8 c), .v (.int .u64 d)]] => P.aak b a c d (fun e => K (.fr 5 (.ints .u8 e)))
 | _ => none
noncomputable def spec : Abs.Spec := fun args K => ak (kg [.agg [.any, .any, .sl (.ints .u8 []), .any]] args) K
theorem ok0 : Proved Tryz.prog GLO.gB 93 ak := by
 refine asb (D := D) (fn := Tryz.f93) (c := Tryz.f93.body.getD .skip) 5 (.ints .u8 []) (by kernel_rfl) (ah (by kernel_rfl)) (by kernel_rfl) (by kernel_rfl) (by kernel_rfl) ⟨gu.ok, sw.ok, qm.ok, trivial⟩ trivial ?_ ?_
 · rw [loops]; exact ⟨awz, trivial⟩
 · intro args K r h
   unfold ak at h
   split at h
   · rw [P.az8] at h; exact Eq.trans (by kernel_rfl) h
   · cases h
theorem ok : Proved Tryz.prog GLO.gB 93 spec := bn _ ok0
end aak

namespace ads
noncomputable def D : Ctx := ({ P := Tryz.prog, G := [], globs := GLO.gB, hints := [], loops := [], inl := [] } : Ctx)
theorem loops : bg (Tryz.f101.body.getD .skip) = [] := by kernel_rfl
noncomputable def ak : Abs.Spec := fun args K => match args with
 | [.v (.int .i64 a)] => P.ads a (fun b c => K (.tuple [.arr .u64 8 b, .v (.bool c)]))
 | _ => none
noncomputable def spec : Abs.Spec := ak
theorem ok0 : Proved Tryz.prog GLO.gB 101 ak := by
 refine bf (D := D) (fn := Tryz.f101) (c := Tryz.f101.body.getD .skip) [.any, .any] (by kernel_rfl) (ah (by kernel_rfl)) (by kernel_rfl) (by kernel_rfl) (by kernel_rfl) trivial trivial ?_ ?_
 · rw [loops]; exact trivial
 · intro args K r h
   unfold ak at h
   split at h
   · rw [P.aso] at h; exact Eq.trans (by kernel_rfl) h
   · cases h
theorem ok : Proved Tryz.prog GLO.gB 101 spec := ok0
end ads

namespace aah
noncomputable def D : Ctx := ({ P := Tryz.prog, G := [(101, ads.spec)], globs := GLO.gB, hints := [], loops := [], inl := [] } : Ctx)
theorem loops : bg (Tryz.f91.body.getD .skip) = [] := by kernel_rfl
noncomputable def ak : Abs.Spec := fun args K => match args with
 | [.v (.int .i64 e)] => P.aah e (fun b a c d f => K (.tuple [.agg [.v (.int .i64 b), .arr .u64 8 a, .fr 5 (.ints .u8 c), .v (.int .u64 d)], .v (.int .i64 f)]))
 | _ => none
noncomputable def spec : Abs.Spec := ak
theorem ok0 : Proved Tryz.prog GLO.gB 91 ak := by
 refine bf (D := D) (fn := Tryz.f91) (c := Tryz.f91.body.getD .skip) [.agg [.any, .any, .fr 5 (.ints .u8 []), .any], .any] (by kernel_rfl) (ah (by kernel_rfl)) (by kernel_rfl) (by kernel_rfl) (by kernel_rfl) ⟨ads.ok, trivial⟩ trivial ?_ ?_
 · rw [loops]; exact trivial
 · intro args K r h
   unfold ak at h
   split at h
   · rw [P.ayo] at h; exact Eq.trans (by kernel_rfl) h
   · cases h
theorem ok : Proved Tryz.prog GLO.gB 91 spec := ok0
end aah

namespace iw
noncomputable def D : Ctx := ({ P := Tryz.prog, G := [(29, fq.spec), (30, gu.spec), (91, aah.spec), (92, sw.spec), (93, aak.spec)], globs := GLO.gB, hints := [], loops := [], inl := [] } : Ctx)
theorem loops : bg (Tryz.f90.body.getD .skip) = [] := by kernel_rfl
noncomputable def ak : Abs.Spec := fun args K => match args with
 | [.agg [.v (.int .i64 e), .sl (.ints .u8 d), .v (.int .u32 f), .v (.int .i64 a), .v (.int .i64 b), .v (.int .i64 c)], .v (.int .u64 g), .sl (.rows .u8 h)] => P.iw e d f a b c g h (fun i => K (.fr 5 (.ints .u8 i)))
 | _ => none
noncomputable def spec : Abs.Spec := fun args K => ak (kg [.agg [.any, .sl (.ints .u8 []), .any, .any, .any, .any], .any, .sl (.rows .u8 [])] args) K
theorem ok0 : Proved Tryz.prog GLO.gB 90 ak := by
 refine bf (D := D) (fn := Tryz.f90) (c := Tryz.f90.body.getD .skip) [.fr 5 (.ints .u8 [])] (by kernel_rfl) (ah (by kernel_rfl)) (by kernel_rfl) (by kernel_rfl) (by kernel_rfl) ⟨fq.ok, gu.ok, aah.ok, sw.ok, aak.ok, trivial⟩ trivial ?_ ?_
 · rw [loops]; exact trivial
 · intro args K r h
   unfold ak at h
   split at h
   · rw [P.ai1] at h; exact Eq.trans (by kernel_rfl) h
   · cases h
theorem ok : Proved Tryz.prog GLO.gB 90 spec := bn _ ok0
end iw

namespace jy
abbrev X2 := P.bvt
def S2 : X2 → ASt := fun (i, j, k, g, h, a, b, c, d, e, f) => ⟨[(1, .v (.int .i64 i)), (2, .v (.int .u32 j)), (4, .sl (.ints .u8 k)), (5, .ptr 0 0), (12, .v (.int .u32 g)), (13, .v (.int .u32 h))], [(0, some ⟨.box 106 [.v (.int .i64 a), .sl (.ints .u8 b), .v (.int .u32 c), .v (.int .i64 d), .v (.int .i64 e), .v (.int .i64 f)], false⟩)], 1, 29⟩
def V2 : ASt → Option X2
 | ⟨[(1, .v (.int .i64 i)), (2, .v (.int .u32 j)), (4, .sl (.ints .u8 k)), (5, .ptr 0 0), (12, .v (.int .u32 g)), (13, .v (.int .u32 h))], [(0, some ⟨.box 106 [.v (.int .i64 a), .sl (.ints .u8 b), .v (.int .u32 c), .v (.int .i64 d), .v (.int .i64 e), .v (.int .i64 f)], false⟩)], 1, 29⟩ => some (i, j, k, g, h, a, b, c, d, e, f)
 | _ => none
theorem bl3 (st) (x) (h : V2 st = some x) : st = S2 x := by
 unfold V2 at h
 split at h
 · cases h; rfl
 · cases h
abbrev Y2 := P.bzd
def E2 (K : AExit → ASt → Option R) : Y2 → Option R := (fun x => K (.exit 0) (S2 x))
noncomputable def L2 : qb := fun st K => adk (V2 st) fun x => P.b2s x (E2 K)
noncomputable def D : Ctx := ({ P := Tryz.prog, G := [(90, iw.spec)], globs := GLO.gB, hints := [(2, ⟨[1, 2, 4, 5, 12, 13], [], [10], [(4, .sl (.ints .u8 []))], none, [], [], []⟩)], loops := [(2, L2)], inl := [] } : Ctx)
theorem bej (K) (next) (x) : lu D (cu Tryz.f77 2) K next (S2 x) = P.bvl x (fun x => next (S2 x)) (E2 K) := by kernel_rfl
theorem bnx : jq D (cu Tryz.f77 2) := eu S2 bl3 (by kernel_rfl) P.b6q bej
theorem loops : bg (Tryz.f77.body.getD .skip) = [cu Tryz.f77 2] := by kernel_rfl
noncomputable def ak : Abs.Spec := fun args K => match args with
 | [.agg [.v (.int .i64 e), .sl (.ints .u8 d), .v (.int .u32 f), .v (.int .i64 a), .v (.int .i64 b), .v (.int .i64 c)], .v (.int .i64 g), .v (.int .u32 h), .v (.int .u32 i), .sl (.ints .u8 j)] => P.jy e d f a b c g h i j (fun k => K (.sl (.ints .u8 k)))
 | _ => none
noncomputable def spec : Abs.Spec := fun args K => ak (kg [.agg [.any, .sl (.ints .u8 []), .any, .any, .any, .any], .any, .any, .any, .sl (.ints .u8 [])] args) K
theorem ok0 : Proved Tryz.prog GLO.gB 77 ak := by
 refine bf (D := D) (fn := Tryz.f77) (c := Tryz.f77.body.getD .skip) [.sl (.ints .u8 [])] (by kernel_rfl) (ah (by kernel_rfl)) (by kernel_rfl) (by kernel_rfl) (by kernel_rfl) ⟨iw.ok, trivial⟩ trivial ?_ ?_
 · rw [loops]; exact ⟨bnx, trivial⟩
 · intro args K r h
   unfold ak at h
   split at h
   · rw [P.agx] at h; exact Eq.trans (by kernel_rfl) h
   · cases h
theorem ok : Proved Tryz.prog GLO.gB 77 spec := bn _ ok0
end jy

namespace abk
noncomputable def D : Ctx := ({ P := Tryz.prog, G := [], globs := GLO.gB, hints := [], loops := [], inl := [] } : Ctx)
theorem loops : bg (Tryz.f116.body.getD .skip) = [] := by kernel_rfl
noncomputable def ak : Abs.Spec := fun args K => match args with
 | [.sl (.ints .u8 a), .v (.int .i64 b), .v (.int .i64 c)] => P.abk a b c (fun d => K (.v (.bool d)))
 | _ => none
noncomputable def spec : Abs.Spec := fun args K => ak (kg [.sl (.ints .u8 []), .any, .any] args) K
theorem ok0 : Proved Tryz.prog GLO.gB 116 ak := by
 refine bf (D := D) (fn := Tryz.f116) (c := Tryz.f116.body.getD .skip) [.any] (by kernel_rfl) (ah (by kernel_rfl)) (by kernel_rfl) (by kernel_rfl) (by kernel_rfl) trivial trivial ?_ ?_
 · rw [loops]; exact trivial
 · intro args K r h
   unfold ak at h
   split at h
   · rw [P.atv] at h; exact Eq.trans (by kernel_rfl) h
   · cases h
theorem ok : Proved Tryz.prog GLO.gB 116 spec := bn _ ok0
end abk

namespace su
abbrev X8 := P.bt7
def S8 : X8 → ASt := fun (d, e, f, g, a, b, c, h) => ⟨[(0, .sl (.ints .u8 d)), (1, .v (.int .i64 e)), (7, .own 0), (8, .v (.int .u64 f)), (9, .v (.int .i64 g)), (10, .v (.int .i64 a)), (19, .v (.int .i64 b)), (20, .v (.int .i64 c))], [(0, some ⟨.row 41 (.ints .u32 h), false⟩)], 1, 53⟩
def V8 : ASt → Option X8
 | ⟨[(0, .sl (.ints .u8 d)), (1, .v (.int .i64 e)), (7, .own 0), (8, .v (.int .u64 f)), (9, .v (.int .i64 g)), (10, .v (.int .i64 a)), (19, .v (.int .i64 b)), (20, .v (.int .i64 c))], [(0, some ⟨.row 41 (.ints .u32 h), false⟩)], 1, 53⟩ => some (d, e, f, g, a, b, c, h)
 | _ => none
theorem bbh (st) (x) (h : V8 st = some x) : st = S8 x := by
 unfold V8 at h
 split at h
 · cases h; rfl
 · cases h
abbrev Y8 := P.b5n
abbrev X6 := P.buu
def S6 : X6 → ASt := fun (c, d, e, f, a, b, g) => ⟨[(0, .sl (.ints .u8 c)), (1, .v (.int .i64 d)), (7, .own 0), (8, .v (.int .u64 e)), (9, .v (.int .i64 f)), (19, .v (.int .i64 a)), (20, .v (.int .i64 b))], [(0, some ⟨.row 41 (.ints .u32 g), false⟩)], 1, 53⟩
def V6 : ASt → Option X6
 | ⟨[(0, .sl (.ints .u8 c)), (1, .v (.int .i64 d)), (7, .own 0), (8, .v (.int .u64 e)), (9, .v (.int .i64 f)), (19, .v (.int .i64 a)), (20, .v (.int .i64 b))], [(0, some ⟨.row 41 (.ints .u32 g), false⟩)], 1, 53⟩ => some (c, d, e, f, a, b, g)
 | _ => none
theorem bfz (st) (x) (h : V6 st = some x) : st = S6 x := by
 unfold V6 at h
 split at h
 · cases h; rfl
 · cases h
abbrev Y6 := P.b1s
def E8 (K : AExit → ASt → Option R) : Y8 → Option R := (fun x => K (.exit 2) (S8 x))
noncomputable def L8 : qb := fun st K => adk (V8 st) fun x => P.b1k x (E8 K)
def E6 (K : AExit → ASt → Option R) : Y6 → Option R := (fun x => K (.exit 0) (S6 x))
noncomputable def L6 : qb := fun st K => adk (V6 st) fun x => P.b30 x (E6 K)
noncomputable def D : Ctx := ({ P := Tryz.prog, G := [(116, abk.spec)], globs := GLO.gB, hints := [(8, ⟨[0, 1, 7, 8, 9, 10, 19, 20], [], [6], [(0, .sl (.ints .u8 []))], none, [], [], []⟩), (6, ⟨[0, 1, 7, 8, 9, 19, 20], [], [6], [(0, .sl (.ints .u8 []))], none, [], [], []⟩)], loops := [(8, L8), (6, L6)], inl := [] } : Ctx)
theorem aqe (K) (next) (x) : lu D (cu Tryz.f108 8) K next (S8 x) = P.bt6 x (fun x => next (S8 x)) (E8 K) := by kernel_rfl
theorem bcw : jq D (cu Tryz.f108 8) := eu S8 bbh (by kernel_rfl) P.b52 aqe
theorem axh (K) (next) (x) : lu D (cu Tryz.f108 6) K next (S6 x) = P.bwb x (fun x => next (S6 x)) (E6 K) := by kernel_rfl
theorem bgd : jq D (cu Tryz.f108 6) := eu S6 bfz (by kernel_rfl) P.b5q axh
theorem loops : bg (Tryz.f108.body.getD .skip) = [cu Tryz.f108 6, cu Tryz.f108 8] := by kernel_rfl
noncomputable def ak : Abs.Spec := fun args K => match args with
 | [.sl (.ints .u8 a), .v (.int .i64 b), .v (.int .i64 c)] => P.su a b c (fun d => K (.fr 41 (.ints .u32 d)))
 | _ => none
noncomputable def spec : Abs.Spec := fun args K => ak (kg [.sl (.ints .u8 []), .any, .any] args) K
theorem ok0 : Proved Tryz.prog GLO.gB 108 ak := by
 refine bf (D := D) (fn := Tryz.f108) (c := Tryz.f108.body.getD .skip) [.fr 41 (.ints .u32 [])] (by kernel_rfl) (ah (by kernel_rfl)) (by kernel_rfl) (by kernel_rfl) (by kernel_rfl) ⟨abk.ok, trivial⟩ trivial ?_ ?_
 · rw [loops]; exact ⟨bgd, bcw, trivial⟩
 · intro args K r h
   unfold ak at h
   split at h
   · rw [P.amz] at h; exact Eq.trans (by kernel_rfl) h
   · cases h
theorem ok : Proved Tryz.prog GLO.gB 108 spec := bn _ ok0
end su

end
