/-
  ForsSigns, part 19: an interpreter of my own over abstract values, the pure functions, the walks and the plain law.
-/

import Derived.Test.YtjhnljhjpnjieaaGreatDoorForsSignsK
import Derived.Test.YtjhnljhjpnjieaaGreatDoorForsSignsG
import Derived.Test.YtjhnljhjpnjieaaGreatDoorProg
import Derived.Test.YtjhnljhjpnjieaaGreatDoorForsSignsJ
import Derived.Test.YtjhnljhjpnjieaaGreatDoorForsSignsR
import Derived.KernelRfl
import Derived.Test.YtjhnljhjpnjieaaGreatDoorForsSignsL
import Derived.Test.YtjhnljhjpnjieaaGreatDoorForsSignsQ

section
open Go Go.Abs Go.Proofs
set_option maxRecDepth 100000
set_option maxHeartbeats 0
set_option linter.unusedVariables false

namespace nu
abbrev X7 := P.bts
def S7 : X7 → ASt := fun (e, f, a, b, c, d) => ⟨[(1, .ptr 0 0), (2, .ptr 1 0), (3, .ptr 2 0), (4, .v (.int .i64 e)), (5, .ptr 3 0), (6, .v (.int .i64 f))], [(2, some ⟨.box 138 [.arr .u64 24 a], false⟩), (1, some ⟨.box 107 [.arr .u64 25 b], false⟩), (0, some ⟨.box 107 [.arr .u64 25 c], false⟩), (3, some ⟨.box 107 [.arr .u64 25 d], false⟩)], 4, 53⟩
def V7 : ASt → Option X7
 | ⟨[(1, .ptr 0 0), (2, .ptr 1 0), (3, .ptr 2 0), (4, .v (.int .i64 e)), (5, .ptr 3 0), (6, .v (.int .i64 f))], [(2, some ⟨.box 138 [.arr .u64 24 a], false⟩), (1, some ⟨.box 107 [.arr .u64 25 b], false⟩), (0, some ⟨.box 107 [.arr .u64 25 c], false⟩), (3, some ⟨.box 107 [.arr .u64 25 d], false⟩)], 4, 53⟩ => some (e, f, a, b, c, d)
 | _ => none
theorem avr (st) (x) (h : V7 st = some x) : st = S7 x := by
 unfold V7 at h
 split at h
 · cases h; rfl
 · cases h
abbrev Y7 := P.b3h
abbrev X3 := P.bvz
def S3 : X3 → ASt := fun (d, a, b, c) => ⟨[(1, .ptr 0 0), (2, .ptr 1 0), (3, .ptr 2 0), (4, .v (.int .i64 d))], [(0, some ⟨.box 107 [.arr .u64 25 a], false⟩), (1, some ⟨.box 107 [.arr .u64 25 b], false⟩), (2, some ⟨.box 138 [.arr .u64 24 c], false⟩)], 3, 53⟩
def V3 : ASt → Option X3
 | ⟨[(1, .ptr 0 0), (2, .ptr 1 0), (3, .ptr 2 0), (4, .v (.int .i64 d))], [(0, some ⟨.box 107 [.arr .u64 25 a], false⟩), (1, some ⟨.box 107 [.arr .u64 25 b], false⟩), (2, some ⟨.box 138 [.arr .u64 24 c], false⟩)], 3, 53⟩ => some (d, a, b, c)
 | _ => none
theorem akt (st) (x) (h : V3 st = some x) : st = S3 x := by
 unfold V3 at h
 split at h
 · cases h; rfl
 · cases h
abbrev Y3 := P.bzc
def E7 (K : AExit → ASt → Option R) : Y7 → Option R := (fun x => K (.exit 2) (S7 x))
noncomputable def L7 : qc := fun st K => ac6 (V7 st) fun x => P.b3e x (E7 K)
def E3 (K : AExit → ASt → Option R) : Y3 → Option R := (fun x => K (.exit 0) (S3 x))
noncomputable def L3 : qc := fun st K => ac6 (V3 st) fun x => P.bzw x (E3 K)
noncomputable def D : Ctx := ({ P := Tryz.prog, G := [(131, xu.spec), (132, ag2.spec), (133, ach.spec)], globs := GLO.gx, hints := [(7, ⟨[1, 2, 3, 4, 5, 6], [], [2], [], none, [], []⟩), (3, ⟨[1, 2, 3, 4], [], [2], [], none, [], []⟩)], loops := [(7, L7), (3, L3)], inl := [] } : Ctx)
theorem amd (K) (next) (x) : kg D (dh Tryz.f115 7) K next (S7 x) = P.bsr x (fun x => next (S7 x)) (E7 K) := by kernel_rfl
theorem at7 : ji D (dh Tryz.f115 7) := fu S7 avr (by kernel_rfl) P.b6i amd
theorem ad2 (K) (next) (x) : kg D (dh Tryz.f115 3) K next (S3 x) = P.bus x (fun x => next (S3 x)) (E3 K) := by kernel_rfl
theorem akn : ji D (dh Tryz.f115 3) := fu S3 akt (by kernel_rfl) P.b6r ad2
theorem loops : cu (Tryz.f115.body.getD .skip) = [dh Tryz.f115 3, dh Tryz.f115 7] := by kernel_rfl
noncomputable def ay : Abs.Spec := fun args K => match args with
 | [.arr .u64 25 a] => P.nu a (fun b => K (.arr .u64 25 b))
 | _ => none
noncomputable def spec : Abs.Spec := ay
theorem ok0 : Proved Tryz.prog GLO.gx 115 ay := by
 refine bq (D := D) (fn := Tryz.f115) (c := Tryz.f115.body.getD .skip) [.any] (by kernel_rfl) (au (by kernel_rfl)) (by kernel_rfl) (by kernel_rfl) (by kernel_rfl) ⟨xu.ok, ag2.ok, ach.ok, trivial⟩ trivial ?_ ?_
 · rw [loops]; exact ⟨akn, at7, trivial⟩
 · intro args K r h
   unfold ay at h
   split at h
   · rw [P.an0] at h; exact Eq.trans (by kernel_rfl) h
   · cases h
theorem ok : Proved Tryz.prog GLO.gx 115 spec := ok0
end nu

namespace aay
noncomputable def D : Ctx := ({ P := Tryz.prog, G := [], globs := GLO.gx, hints := [], loops := [], inl := [] } : Ctx)
theorem loops : cu (Tryz.f114.body.getD .skip) = [] := by kernel_rfl
noncomputable def ay : Abs.Spec := fun args K => match args with
 | [.v (.int .i64 a)] => P.aay a (fun b => K (.v (.int .i64 b)))
 | _ => none
noncomputable def spec : Abs.Spec := ay
theorem ok0 : Proved Tryz.prog GLO.gx 114 ay := by
 refine bq (D := D) (fn := Tryz.f114) (c := Tryz.f114.body.getD .skip) [.any] (by kernel_rfl) (au (by kernel_rfl)) (by kernel_rfl) (by kernel_rfl) (by kernel_rfl) trivial trivial ?_ ?_
 · rw [loops]; exact trivial
 · intro args K r h
   unfold ay at h
   split at h
   · rw [P.awq] at h; exact Eq.trans (by kernel_rfl) h
   · cases h
theorem ok : Proved Tryz.prog GLO.gx 114 spec := ok0
end aay

namespace yx
noncomputable def D : Ctx := ({ P := Tryz.prog, G := [], globs := GLO.gx, hints := [], loops := [], inl := [] } : Ctx)
theorem loops : cu (Tryz.f116.body.getD .skip) = [] := by kernel_rfl
noncomputable def ay : Abs.Spec := fun args K => match args with
 | [.arr .u64 25 a, .v (.int .i64 b), .v (.int .u8 c)] => P.yx a b c (fun d => K (.arr .u64 25 d))
 | _ => none
noncomputable def spec : Abs.Spec := ay
theorem ok0 : Proved Tryz.prog GLO.gx 116 ay := by
 refine bq (D := D) (fn := Tryz.f116) (c := Tryz.f116.body.getD .skip) [.any] (by kernel_rfl) (au (by kernel_rfl)) (by kernel_rfl) (by kernel_rfl) (by kernel_rfl) trivial trivial ?_ ?_
 · rw [loops]; exact trivial
 · intro args K r h
   unfold ay at h
   split at h
   · rw [P.ax3] at h; exact Eq.trans (by kernel_rfl) h
   · cases h
theorem ok : Proved Tryz.prog GLO.gx 116 spec := ok0
end yx

namespace aap
abbrev X4 := P.bwz
def S4 : X4 → ASt := fun (i, j, a, b, c, d, e, f, g, h) => ⟨[(1, .sl (.ints .u8 i)), (2, .ptr 0 0), (4, .ptr 1 0), (5, .v (.int .i64 j))], [(0, some ⟨.box 109 [.v (.int .i64 a), .arr .u64 25 b, .v (.int .i64 c), .v (.bool d)], false⟩), (1, some ⟨.box 109 [.v (.int .i64 e), .arr .u64 25 f, .v (.int .i64 g), .v (.bool h)], false⟩)], 40, 41⟩
def V4 : ASt → Option X4
 | ⟨[(1, .sl (.ints .u8 i)), (2, .ptr 0 0), (4, .ptr 1 0), (5, .v (.int .i64 j))], [(0, some ⟨.box 109 [.v (.int .i64 a), .arr .u64 25 b, .v (.int .i64 c), .v (.bool d)], false⟩), (1, some ⟨.box 109 [.v (.int .i64 e), .arr .u64 25 f, .v (.int .i64 g), .v (.bool h)], false⟩)], 40, 41⟩ => some (i, j, a, b, c, d, e, f, g, h)
 | _ => none
theorem ar7 (st) (x) (h : V4 st = some x) : st = S4 x := by
 unfold V4 at h
 split at h
 · cases h; rfl
 · cases h
abbrev Y4 := P.by9
def E4 (K : AExit → ASt → Option R) : Y4 → Option R := (fun x => K (.exit 0) (S4 x))
noncomputable def L4 : qc := fun st K => ac6 (V4 st) fun x => P.bz7 x (E4 K)
noncomputable def D : Ctx := ({ P := Tryz.prog, G := [(114, aay.spec), (115, nu.spec), (116, yx.spec)], globs := GLO.gx, hints := [(4, ⟨[1, 2, 4, 5], [], [4], [], some (40, [0, 1]), [], []⟩)], loops := [(4, L4)], inl := [] } : Ctx)
theorem ajq (K) (next) (x) : kg D (dh Tryz.f99 4) K next (S4 x) = P.bt9 x (fun x => next (S4 x)) (E4 K) := by kernel_rfl
theorem arb : ji D (dh Tryz.f99 4) := fu S4 ar7 (by kernel_rfl) P.b6h ajq
theorem loops : cu (Tryz.f99.body.getD .skip) = [dh Tryz.f99 4] := by kernel_rfl
noncomputable def ay : Abs.Spec := fun args K => match args with
 | [.agg [.v (.int .i64 c), .arr .u64 25 a, .v (.int .i64 g), .v (.bool e)], .sl (.ints .u8 i)] => P.aap c a g e i (fun d b h f => K (.agg [.v (.int .i64 d), .arr .u64 25 b, .v (.int .i64 h), .v (.bool f)]))
 | _ => none
noncomputable def spec : Abs.Spec := fun args K => ay (ou [.any, .sl (.ints .u8 [])] args) K
theorem ok0 : Proved Tryz.prog GLO.gx 99 ay := by
 refine bq (D := D) (fn := Tryz.f99) (c := Tryz.f99.body.getD .skip) [.any] (by kernel_rfl) (au (by kernel_rfl)) (by kernel_rfl) (by kernel_rfl) (by kernel_rfl) ⟨aay.ok, nu.ok, yx.ok, trivial⟩ trivial ?_ ?_
 · rw [loops]; exact ⟨arb, trivial⟩
 · intro args K r h
   unfold ay at h
   split at h
   · rw [P.apy] at h; exact Eq.trans (by kernel_rfl) h
   · cases h
theorem ok : Proved Tryz.prog GLO.gx 99 spec := d9 _ ok0
end aap

namespace al7
noncomputable def D : Ctx := ({ P := Tryz.prog, G := [(114, aay.spec)], globs := GLO.gx, hints := [], loops := [], inl := [] } : Ctx)
theorem loops : cu (Tryz.f97.body.getD .skip) = [] := by kernel_rfl
noncomputable def ay : Abs.Spec := fun args K => match args with
 | [.v (.int .i64 e)] => P.al7 e (fun b a d c f => K (.tuple [.agg [.v (.int .i64 b), .arr .u64 25 a, .v (.int .i64 d), .v (.bool c)], .v (.int .i64 f)]))
 | _ => none
noncomputable def spec : Abs.Spec := ay
theorem ok0 : Proved Tryz.prog GLO.gx 97 ay := by
 refine bq (D := D) (fn := Tryz.f97) (c := Tryz.f97.body.getD .skip) [.any, .any] (by kernel_rfl) (au (by kernel_rfl)) (by kernel_rfl) (by kernel_rfl) (by kernel_rfl) ⟨aay.ok, trivial⟩ trivial ?_ ?_
 · rw [loops]; exact trivial
 · intro args K r h
   unfold ay at h
   split at h
   · rw [P.axl] at h; exact Eq.trans (by kernel_rfl) h
   · cases h
theorem ok : Proved Tryz.prog GLO.gx 97 spec := ok0
end al7

namespace yg
abbrev X12 := P.btv
def S12 : X12 → ASt := fun (j, k, i, a, b, c, d, e, f, g, h) => ⟨[(8, .own 40), (1, .v (.int .i64 j)), (2, .ptr 0 0), (4, .ptr 1 0), (6, .v (.int .i64 k))], [(40, some ⟨.row 5 (.ints .u8 i), false⟩), (0, some ⟨.box 109 [.v (.int .i64 a), .arr .u64 25 b, .v (.int .i64 c), .v (.bool d)], false⟩), (1, some ⟨.box 109 [.v (.int .i64 e), .arr .u64 25 f, .v (.int .i64 g), .v (.bool h)], false⟩)], 41, 73⟩
def V12 : ASt → Option X12
 | ⟨[(8, .own 40), (1, .v (.int .i64 j)), (2, .ptr 0 0), (4, .ptr 1 0), (6, .v (.int .i64 k))], [(40, some ⟨.row 5 (.ints .u8 i), false⟩), (0, some ⟨.box 109 [.v (.int .i64 a), .arr .u64 25 b, .v (.int .i64 c), .v (.bool d)], false⟩), (1, some ⟨.box 109 [.v (.int .i64 e), .arr .u64 25 f, .v (.int .i64 g), .v (.bool h)], false⟩)], 41, 73⟩ => some (j, k, i, a, b, c, d, e, f, g, h)
 | _ => none
theorem au6 (st) (x) (h : V12 st = some x) : st = S12 x := by
 unfold V12 at h
 split at h
 · cases h; rfl
 · cases h
abbrev Y12 := P.bzl
def E12 (K : AExit → ASt → Option R) : Y12 → Option R := (fun x => K (.exit 0) (S12 x))
noncomputable def L12 : qc := fun st K => ac6 (V12 st) fun x => P.b1l x (E12 K)
noncomputable def D : Ctx := ({ P := Tryz.prog, G := [(114, aay.spec), (115, nu.spec), (116, yx.spec)], globs := GLO.gx, hints := [(12, ⟨[1, 2, 4, 6], [(8, 5, .ints .u8 [])], [4, 5], [], some (40, [0, 1]), [], []⟩)], loops := [(12, L12)], inl := [] } : Ctx)
theorem ao9 (K) (next) (x) : kg D (dh Tryz.f98 12) K next (S12 x) = P.bvn x (fun x => next (S12 x)) (E12 K) := by kernel_rfl
theorem au0 : ji D (dh Tryz.f98 12) := fu S12 au6 (by kernel_rfl) P.b53 ao9
theorem loops : cu (Tryz.f98.body.getD .skip) = [dh Tryz.f98 12] := by kernel_rfl
noncomputable def ay : Abs.Spec := fun args K => match args with
 | [.agg [.v (.int .i64 c), .arr .u64 25 a, .v (.int .i64 g), .v (.bool e)], .v (.int .i64 i)] => P.yg c a g e i (fun d b h f j => K (.tuple [.agg [.v (.int .i64 d), .arr .u64 25 b, .v (.int .i64 h), .v (.bool f)], .fr 5 (.ints .u8 j)]))
 | _ => none
noncomputable def spec : Abs.Spec := ay
theorem ok0 : Proved Tryz.prog GLO.gx 98 ay := by
 refine bq (D := D) (fn := Tryz.f98) (c := Tryz.f98.body.getD .skip) [.any, .fr 5 (.ints .u8 [])] (by kernel_rfl) (au (by kernel_rfl)) (by kernel_rfl) (by kernel_rfl) (by kernel_rfl) ⟨aay.ok, nu.ok, yx.ok, trivial⟩ trivial ?_ ?_
 · rw [loops]; exact ⟨au0, trivial⟩
 · intro args K r h
   unfold ay at h
   split at h
   · rw [P.an4] at h; exact Eq.trans (by kernel_rfl) h
   · cases h
theorem ok : Proved Tryz.prog GLO.gx 98 spec := ok0
end yg

namespace ah3
noncomputable def D : Ctx := ({ P := Tryz.prog, G := [(97, al7.spec), (98, yg.spec), (99, aap.spec)], globs := GLO.gx, hints := [], loops := [], inl := [] } : Ctx)
theorem loops : cu (Tryz.f69.body.getD .skip) = [] := by kernel_rfl
noncomputable def ay : Abs.Spec := fun args K => match args with
 | [.v (.int .i64 a), .sl (.ints .u8 b), .v (.int .i64 c)] => P.ah3 a b c (fun d e => K (.tuple [.fr 5 (.ints .u8 d), .v (.int .i64 e)]))
 | _ => none
noncomputable def spec : Abs.Spec := fun args K => ay (ou [.any, .sl (.ints .u8 []), .any] args) K
theorem ok0 : Proved Tryz.prog GLO.gx 69 ay := by
 refine bq (D := D) (fn := Tryz.f69) (c := Tryz.f69.body.getD .skip) [.fr 5 (.ints .u8 []), .any] (by kernel_rfl) (au (by kernel_rfl)) (by kernel_rfl) (by kernel_rfl) (by kernel_rfl) ⟨al7.ok, yg.ok, aap.ok, trivial⟩ trivial ?_ ?_
 · rw [loops]; exact trivial
 · intro args K r h
   unfold ay at h
   split at h
   · rw [P.ayt] at h; exact Eq.trans (by kernel_rfl) h
   · cases h
theorem ok : Proved Tryz.prog GLO.gx 69 spec := d9 _ ok0
end ah3

namespace zw
noncomputable def D : Ctx := ({ P := Tryz.prog, G := [(44, jv.spec)], globs := GLO.gx, hints := [], loops := [], inl := [] } : Ctx)
theorem loops : cu (Tryz.f71.body.getD .skip) = [] := by kernel_rfl
noncomputable def ay : Abs.Spec := fun args K => match args with
 | [.arr .u8 32 a] => P.zw a (fun b => K (.fr 5 (.ints .u8 b)))
 | _ => none
noncomputable def spec : Abs.Spec := ay
theorem ok0 : Proved Tryz.prog GLO.gx 71 ay := by
 refine bq (D := D) (fn := Tryz.f71) (c := Tryz.f71.body.getD .skip) [.fr 5 (.ints .u8 [])] (by kernel_rfl) (au (by kernel_rfl)) (by kernel_rfl) (by kernel_rfl) (by kernel_rfl) ⟨jv.ok, trivial⟩ trivial ?_ ?_
 · rw [loops]; exact trivial
 · intro args K r h
   unfold ay at h
   split at h
   · rw [P.asr] at h; exact Eq.trans (by kernel_rfl) h
   · cases h
theorem ok : Proved Tryz.prog GLO.gx 71 spec := ok0
end zw

namespace sw
noncomputable def D : Ctx := ({ P := Tryz.prog, G := [(37, qo.spec), (44, jv.spec), (69, ah3.spec), (70, aek.spec), (71, zw.spec)], globs := GLO.gx, hints := [], loops := [], inl := [] } : Ctx)
theorem loops : cu (Tryz.f41.body.getD .skip) = [] := by kernel_rfl
noncomputable def ay : Abs.Spec := fun args K => match args with
 | [.agg [.v (.int .i64 b), .v (.int .i64 c), .v (.int .i64 d), .v (.int .i64 e), .v (.int .i64 f), .v (.bool a)], .sl (.ints .u8 g), .arr .u8 32 h, .sl (.ints .u8 i)] => P.sw b c d e f a g h i (fun j => K (.sl (.ints .u8 j)))
 | _ => none
noncomputable def spec : Abs.Spec := fun args K => ay (ou [.any, .sl (.ints .u8 []), .any, .sl (.ints .u8 [])] args) K
theorem ok0 : Proved Tryz.prog GLO.gx 41 ay := by
 refine bq (D := D) (fn := Tryz.f41) (c := Tryz.f41.body.getD .skip) [.sl (.ints .u8 [])] (by kernel_rfl) (au (by kernel_rfl)) (by kernel_rfl) (by kernel_rfl) (by kernel_rfl) ⟨qo.ok, jv.ok, ah3.ok, aek.ok, zw.ok, trivial⟩ trivial ?_ ?_
 · rw [loops]; exact trivial
 · intro args K r h
   unfold ay at h
   split at h
   · rw [P.ayn] at h; exact Eq.trans (by kernel_rfl) h
   · cases h
theorem ok : Proved Tryz.prog GLO.gx 41 spec := d9 _ ok0
end sw

namespace vw
noncomputable def D : Ctx := ({ P := Tryz.prog, G := [(37, qo.spec)], globs := GLO.gx, hints := [], loops := [], inl := [] } : Ctx)
theorem loops : cu (Tryz.f10.body.getD .skip) = [] := by kernel_rfl
noncomputable def ay : Abs.Spec := fun args K => match args with
 | [.agg [.v (.int .i64 b), .v (.int .i64 c), .v (.int .i64 d), .v (.int .i64 e), .v (.int .i64 f), .v (.bool a)]] => P.vw b c d e f a (fun g h => K (.tuple [.v (.int .i64 g), .v (.int .i64 h)]))
 | _ => none
noncomputable def spec : Abs.Spec := ay
theorem ok0 : Proved Tryz.prog GLO.gx 10 ay := by
 refine bq (D := D) (fn := Tryz.f10) (c := Tryz.f10.body.getD .skip) [.any, .any] (by kernel_rfl) (au (by kernel_rfl)) (by kernel_rfl) (by kernel_rfl) (by kernel_rfl) ⟨qo.ok, trivial⟩ trivial ?_ ?_
 · rw [loops]; exact trivial
 · intro args K r h
   unfold ay at h
   split at h
   · rw [P.avc] at h; exact Eq.trans (by kernel_rfl) h
   · cases h
theorem ok : Proved Tryz.prog GLO.gx 10 spec := ok0
end vw

namespace zn
abbrev X2 := P.bsx
def S2 : X2 → ASt := fun (c, d, e, a, b) => ⟨[(1, .v (.int .i64 c)), (2, .sl (.ints .u8 d)), (3, .ptr 0 0), (6, .ptr 1 0), (7, .v (.int .i64 e))], [(0, some ⟨.box 25 [.arr .u8 32 a], false⟩), (1, some ⟨.box 25 [.arr .u8 32 b], false⟩)], 2, 23⟩
def V2 : ASt → Option X2
 | ⟨[(1, .v (.int .i64 c)), (2, .sl (.ints .u8 d)), (3, .ptr 0 0), (6, .ptr 1 0), (7, .v (.int .i64 e))], [(0, some ⟨.box 25 [.arr .u8 32 a], false⟩), (1, some ⟨.box 25 [.arr .u8 32 b], false⟩)], 2, 23⟩ => some (c, d, e, a, b)
 | _ => none
theorem bh4 (st) (x) (h : V2 st = some x) : st = S2 x := by
 unfold V2 at h
 split at h
 · cases h; rfl
 · cases h
abbrev Y2 := P.b3i
def E2 (K : AExit → ASt → Option R) : Y2 → Option R := (fun x => K (.exit 0) (S2 x))
noncomputable def L2 : qc := fun st K => ac6 (V2 st) fun x => P.b3v x (E2 K)
noncomputable def D : Ctx := ({ P := Tryz.prog, G := [], globs := GLO.gx, hints := [(2, ⟨[1, 2, 3, 6, 7], [], [6], [], none, [], []⟩)], loops := [(2, L2)], inl := [] } : Ctx)
theorem bdd (K) (next) (x) : kg D (dh Tryz.f103 2) K next (S2 x) = P.bt1 x (fun x => next (S2 x)) (E2 K) := by kernel_rfl
theorem bka : ji D (dh Tryz.f103 2) := fu S2 bh4 (by kernel_rfl) P.b5y bdd
theorem loops : cu (Tryz.f103.body.getD .skip) = [dh Tryz.f103 2] := by kernel_rfl
noncomputable def ay : Abs.Spec := fun args K => match args with
 | [.arr .u8 32 a, .v (.int .i64 b), .sl (.ints .u8 c)] => P.zn a b c (fun d => K (.arr .u8 32 d))
 | _ => none
noncomputable def spec : Abs.Spec := fun args K => ay (ou [.any, .any, .sl (.ints .u8 [])] args) K
theorem ok0 : Proved Tryz.prog GLO.gx 103 ay := by
 refine bq (D := D) (fn := Tryz.f103) (c := Tryz.f103.body.getD .skip) [.any] (by kernel_rfl) (au (by kernel_rfl)) (by kernel_rfl) (by kernel_rfl) (by kernel_rfl) trivial trivial ?_ ?_
 · rw [loops]; exact ⟨bka, trivial⟩
 · intro args K r h
   unfold ay at h
   split at h
   · rw [P.axn] at h; exact Eq.trans (by kernel_rfl) h
   · cases h
theorem ok : Proved Tryz.prog GLO.gx 103 spec := d9 _ ok0
end zn

namespace wh
noncomputable def D : Ctx := ({ P := Tryz.prog, G := [(103, zn.spec), (104, zi.spec)], globs := GLO.gx, hints := [], loops := [], inl := [] } : Ctx)
theorem loops : cu (Tryz.f72.body.getD .skip) = [] := by kernel_rfl
noncomputable def ay : Abs.Spec := fun args K => match args with
 | [.arr .u8 32 a, .v (.int .i64 b), .v (.int .u64 c)] => P.wh a b c (fun d => K (.arr .u8 32 d))
 | _ => none
noncomputable def spec : Abs.Spec := ay
theorem ok0 : Proved Tryz.prog GLO.gx 72 ay := by
 refine bq (D := D) (fn := Tryz.f72) (c := Tryz.f72.body.getD .skip) [.any] (by kernel_rfl) (au (by kernel_rfl)) (by kernel_rfl) (by kernel_rfl) (by kernel_rfl) ⟨zn.ok, zi.ok, trivial⟩ trivial ?_ ?_
 · rw [loops]; exact trivial
 · intro args K r h
   unfold ay at h
   split at h
   · rw [P.ayc] at h; exact Eq.trans (by kernel_rfl) h
   · cases h
theorem ok : Proved Tryz.prog GLO.gx 72 spec := ok0
end wh

namespace aau
noncomputable def D : Ctx := ({ P := Tryz.prog, G := [(105, ac3.spec)], globs := GLO.gx, hints := [], loops := [], inl := [] } : Ctx)
theorem loops : cu (Tryz.f73.body.getD .skip) = [] := by kernel_rfl
noncomputable def ay : Abs.Spec := fun args K => match args with
 | [.arr .u8 32 a] => P.aau a (fun b => K (.v (.int .u64 b)))
 | _ => none
noncomputable def spec : Abs.Spec := ay
theorem ok0 : Proved Tryz.prog GLO.gx 73 ay := by
 refine bq (D := D) (fn := Tryz.f73) (c := Tryz.f73.body.getD .skip) [.any] (by kernel_rfl) (au (by kernel_rfl)) (by kernel_rfl) (by kernel_rfl) (by kernel_rfl) ⟨ac3.ok, trivial⟩ trivial ?_ ?_
 · rw [loops]; exact trivial
 · intro args K r h
   unfold ay at h
   split at h
   · rw [P.aut] at h; exact Eq.trans (by kernel_rfl) h
   · cases h
theorem ok : Proved Tryz.prog GLO.gx 73 spec := ok0
end aau

namespace uq
noncomputable def D : Ctx := ({ P := Tryz.prog, G := [(72, wh.spec), (73, aau.spec)], globs := GLO.gx, hints := [], loops := [], inl := [] } : Ctx)
theorem loops : cu (Tryz.f42.body.getD .skip) = [] := by kernel_rfl
noncomputable def ay : Abs.Spec := fun args K => match args with
 | [.arr .u8 32 a, .v (.int .u64 b), .v (.int .i64 c), .v (.int .u64 d)] => P.uq a b c d (fun e => K (.arr .u8 32 e))
 | _ => none
noncomputable def spec : Abs.Spec := ay
theorem ok0 : Proved Tryz.prog GLO.gx 42 ay := by
 refine bq (D := D) (fn := Tryz.f42) (c := Tryz.f42.body.getD .skip) [.any] (by kernel_rfl) (au (by kernel_rfl)) (by kernel_rfl) (by kernel_rfl) (by kernel_rfl) ⟨wh.ok, aau.ok, trivial⟩ trivial ?_ ?_
 · rw [loops]; exact trivial
 · intro args K r h
   unfold ay at h
   split at h
   · rw [P.bav] at h; exact Eq.trans (by kernel_rfl) h
   · cases h
theorem ok : Proved Tryz.prog GLO.gx 42 spec := ok0
end uq

namespace ahl
noncomputable def D : Ctx := ({ P := Tryz.prog, G := [(41, sw.spec), (44, jv.spec), (72, wh.spec), (73, aau.spec)], globs := GLO.gx, hints := [], loops := [], inl := [] } : Ctx)
theorem loops : cu (Tryz.f46.body.getD .skip) = [] := by kernel_rfl
noncomputable def ay : Abs.Spec := fun args K => match args with
 | [.agg [.v (.int .i64 b), .v (.int .i64 c), .v (.int .i64 d), .v (.int .i64 e), .v (.int .i64 f), .v (.bool a)], .sl (.rows .u8 g), .sl (.ints .u8 h), .arr .u8 32 i] => P.ahl b c d e f a g h i (fun j => K (.sl (.ints .u8 j)))
 | _ => none
noncomputable def spec : Abs.Spec := fun args K => ay (ou [.any, .sl (.rows .u8 []), .sl (.ints .u8 []), .any] args) K
theorem ok0 : Proved Tryz.prog GLO.gx 46 ay := by
 refine bq (D := D) (fn := Tryz.f46) (c := Tryz.f46.body.getD .skip) [.sl (.ints .u8 [])] (by kernel_rfl) (au (by kernel_rfl)) (by kernel_rfl) (by kernel_rfl) (by kernel_rfl) ⟨sw.ok, jv.ok, wh.ok, aau.ok, trivial⟩ trivial ?_ ?_
 · rw [loops]; exact trivial
 · intro args K r h
   unfold ay at h
   split at h
   · rw [P.ax7] at h; exact Eq.trans (by kernel_rfl) h
   · cases h
theorem ok : Proved Tryz.prog GLO.gx 46 spec := d9 _ ok0
end ahl

namespace ql
abbrev X13 := P.bsq
def S13 : X13 → ASt := fun (m, n, h, i, j, k, l, o, a, b, c, d, e, f, g, p) => ⟨[(1, .sl (.ints .u8 m)), (3, .sl (.ints .u8 n)), (5, .ptr 0 0), (9, .ptr 1 0), (13, .own 2), (14, .own 3), (15, .v (.int .i64 h)), (16, .v (.int .u64 i)), (17, .sl (.ints .u8 j)), (18, .sl (.ints .u8 k)), (19, .v (.int .i64 l))], [(2, some ⟨.row 64 (.ints .u32 o), false⟩), (1, some ⟨.box 25 [.arr .u8 32 a], false⟩), (0, some ⟨.box 23 [.v (.int .i64 b), .v (.int .i64 c), .v (.int .i64 d), .v (.int .i64 e), .v (.int .i64 f), .v (.bool g)], false⟩), (3, some ⟨.row 26 (.rows .u8 p), false⟩)], 4, 144⟩
def V13 : ASt → Option X13
 | ⟨[(1, .sl (.ints .u8 m)), (3, .sl (.ints .u8 n)), (5, .ptr 0 0), (9, .ptr 1 0), (13, .own 2), (14, .own 3), (15, .v (.int .i64 h)), (16, .v (.int .u64 i)), (17, .sl (.ints .u8 j)), (18, .sl (.ints .u8 k)), (19, .v (.int .i64 l))], [(2, some ⟨.row 64 (.ints .u32 o), false⟩), (1, some ⟨.box 25 [.arr .u8 32 a], false⟩), (0, some ⟨.box 23 [.v (.int .i64 b), .v (.int .i64 c), .v (.int .i64 d), .v (.int .i64 e), .v (.int .i64 f), .v (.bool g)], false⟩), (3, some ⟨.row 26 (.rows .u8 p), false⟩)], 4, 144⟩ => some (m, n, h, i, j, k, l, o, a, b, c, d, e, f, g, p)
 | _ => none
theorem bsg (st) (x) (h : V13 st = some x) : st = S13 x := by
 unfold V13 at h
 split at h
 · cases h; rfl
 · cases h
abbrev Y13 := P.bys
abbrev X7 := P.bs9
def S7 : X7 → ASt := fun (i, j, h, k, a, b, c, d, e, f, g, l) => ⟨[(14, .own 3), (1, .sl (.ints .u8 i)), (3, .sl (.ints .u8 j)), (5, .ptr 0 0), (9, .ptr 1 0), (13, .own 2), (15, .v (.int .i64 h))], [(3, some ⟨.row 26 (.rows .u8 k), false⟩), (0, some ⟨.box 23 [.v (.int .i64 a), .v (.int .i64 b), .v (.int .i64 c), .v (.int .i64 d), .v (.int .i64 e), .v (.bool f)], false⟩), (1, some ⟨.box 25 [.arr .u8 32 g], false⟩), (2, some ⟨.row 64 (.ints .u32 l), false⟩)], 4, 144⟩
def V7 : ASt → Option X7
 | ⟨[(14, .own 3), (1, .sl (.ints .u8 i)), (3, .sl (.ints .u8 j)), (5, .ptr 0 0), (9, .ptr 1 0), (13, .own 2), (15, .v (.int .i64 h))], [(3, some ⟨.row 26 (.rows .u8 k), false⟩), (0, some ⟨.box 23 [.v (.int .i64 a), .v (.int .i64 b), .v (.int .i64 c), .v (.int .i64 d), .v (.int .i64 e), .v (.bool f)], false⟩), (1, some ⟨.box 25 [.arr .u8 32 g], false⟩), (2, some ⟨.row 64 (.ints .u32 l), false⟩)], 4, 144⟩ => some (i, j, h, k, a, b, c, d, e, f, g, l)
 | _ => none
theorem avr (st) (x) (h : V7 st = some x) : st = S7 x := by
 unfold V7 at h
 split at h
 · cases h; rfl
 · cases h
abbrev Y7 := P.bze
def E13 (K : AExit → ASt → Option R) : Y13 → Option R := (fun x => K (.exit 2) (S13 x))
noncomputable def L13 : qc := fun st K => ac6 (V13 st) fun x => P.b2j x (E13 K)
def E7 (K : AExit → ASt → Option R) : Y7 → Option R := (fun x => K (.exit 0) (S7 x))
noncomputable def L7 : qc := fun st K => ac6 (V7 st) fun x => P.b35 x (E7 K)
noncomputable def D : Ctx := ({ P := Tryz.prog, G := [(10, vw.spec), (37, qo.spec), (41, sw.spec), (42, uq.spec), (44, jv.spec), (46, ahl.spec), (49, uz.spec)], globs := GLO.gx, hints := [(13, ⟨[1, 3, 5, 9, 13, 14, 15, 16, 17, 18, 19], [], [10], [(18, .sl (.ints .u8 []))], none, [], []⟩), (7, ⟨[1, 3, 5, 9, 13, 15], [(14, 26, .rows .u8 [])], [10], [], none, [], []⟩)], loops := [(13, L13), (7, L7)], inl := [] } : Ctx)
theorem bpy (K) (next) (x) : kg D (dh Tryz.f20 13) K next (S13 x) = P.bsi x (fun x => next (S13 x)) (E13 K) := by kernel_rfl
theorem bu7 : ji D (dh Tryz.f20 13) := fu S13 bsg (by kernel_rfl) P.b62 bpy
theorem amd (K) (next) (x) : kg D (dh Tryz.f20 7) K next (S7 x) = P.btf x (fun x => next (S7 x)) (E7 K) := by kernel_rfl
theorem at7 : ji D (dh Tryz.f20 7) := fu S7 avr (by kernel_rfl) P.b5z amd
theorem loops : cu (Tryz.f20.body.getD .skip) = [dh Tryz.f20 7, dh Tryz.f20 13] := by kernel_rfl
noncomputable def ay : Abs.Spec := fun args K => match args with
 | [.agg [.v (.int .i64 b), .v (.int .i64 c), .v (.int .i64 d), .v (.int .i64 e), .v (.int .i64 f), .v (.bool a)], .sl (.ints .u8 g), .sl (.ints .u8 h), .sl (.ints .u8 i), .arr .u8 32 j] => P.ql b c d e f a g h i j (fun k => K (.sl (.ints .u8 k)))
 | _ => none
noncomputable def spec : Abs.Spec := fun args K => ay (ou [.any, .sl (.ints .u8 []), .sl (.ints .u8 []), .sl (.ints .u8 []), .any] args) K
theorem ok0 : Proved Tryz.prog GLO.gx 20 ay := by
 refine bq (D := D) (fn := Tryz.f20) (c := Tryz.f20.body.getD .skip) [.sl (.ints .u8 [])] (by kernel_rfl) (au (by kernel_rfl)) (by kernel_rfl) (by kernel_rfl) (by kernel_rfl) ⟨vw.ok, qo.ok, sw.ok, uq.ok, jv.ok, ahl.ok, uz.ok, trivial⟩ trivial ?_ ?_
 · rw [loops]; exact ⟨at7, bu7, trivial⟩
 · intro args K r h
   unfold ay at h
   split at h
   · rw [P.aa4] at h; exact Eq.trans (by kernel_rfl) h
   · cases h
theorem ok : Proved Tryz.prog GLO.gx 20 spec := d9 _ ok0
end ql

end
