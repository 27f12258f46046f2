/-
  ForsRight, part 14: an interpreter of my own over abstract values, the pure functions, the walks and the plain law.
-/

import Derived.Test.YtjhnljhjpnjieaaDoorForsRightK
import Derived.Test.YtjhnljhjpnjieaaDoorForsRightG
import Derived.Test.YtjhnljhjpnjieaaDoorProg
import Derived.Test.YtjhnljhjpnjieaaDoorForsRightJ
import Derived.Test.YtjhnljhjpnjieaaDoorForsRightM
import Derived.KernelRfl

section
open Go Go.Abs Go.Proofs
set_option maxRecDepth 100000
set_option maxHeartbeats 0
set_option linter.unusedVariables false

namespace j6
abbrev X4 := P.bi8
def S4 : X4 → ASt := fun (k, l, j, a, b, c, d, e, f, g, h, i) => ⟨[(2, .sl (.ints .u8 k)), (3, .ptr 0 0), (4, .ptr 1 0), (6, .ptr 2 0), (7, .ptr 3 0), (8, .v (.int .i64 l)), (19, .v (.int .i64 j))], [(0, some ⟨.box 153 [.v (.int .i64 a), .v (.int .i64 b), .arr .i64 3 c, .arr .i64 3 d, .arr .i64 3 e, .arr .i64 3 f, .fn (.func 137) [] []], false⟩), (1, some ⟨.box 170 [.arr .u32 8 g], false⟩), (2, some ⟨.box 170 [.arr .u32 8 h], false⟩), (3, some ⟨.box 184 [.arr .u32 16 i], false⟩)], 4, 143⟩
def V4 : ASt → Option X4
 | ⟨[(2, .sl (.ints .u8 k)), (3, .ptr 0 0), (4, .ptr 1 0), (6, .ptr 2 0), (7, .ptr 3 0), (8, .v (.int .i64 l)), (19, .v (.int .i64 j))], [(0, some ⟨.box 153 [.v (.int .i64 a), .v (.int .i64 b), .arr .i64 3 c, .arr .i64 3 d, .arr .i64 3 e, .arr .i64 3 f, .fn (.func 137) [] []], false⟩), (1, some ⟨.box 170 [.arr .u32 8 g], false⟩), (2, some ⟨.box 170 [.arr .u32 8 h], false⟩), (3, some ⟨.box 184 [.arr .u32 16 i], false⟩)], 4, 143⟩ => some (k, l, j, a, b, c, d, e, f, g, h, i)
 | _ => none
theorem azm (st) (x) (h : V4 st = some x) : st = S4 x := by
 unfold V4 at h
 split at h
 · cases h; rfl
 · cases h
abbrev Y4 := P.bqk
abbrev X10 := P.bjc
def S10 : X10 → ASt := fun (k, l, a, b, c, d, e, f, g, h, i, j) => ⟨[(3, .ptr 0 0), (4, .ptr 1 0), (6, .ptr 2 0), (7, .ptr 3 0), (10, .ptr 4 0), (38, .v (.int .i64 k)), (39, .v (.int .i64 l))], [(3, some ⟨.box 184 [.arr .u32 16 a], false⟩), (2, some ⟨.box 170 [.arr .u32 8 b], false⟩), (1, some ⟨.box 170 [.arr .u32 8 c], false⟩), (0, some ⟨.box 153 [.v (.int .i64 d), .v (.int .i64 e), .arr .i64 3 f, .arr .i64 3 g, .arr .i64 3 h, .arr .i64 3 i, .fn (.func 137) [] []], false⟩), (4, some ⟨.box 170 [.arr .u32 8 j], false⟩)], 5, 143⟩
def V10 : ASt → Option X10
 | ⟨[(3, .ptr 0 0), (4, .ptr 1 0), (6, .ptr 2 0), (7, .ptr 3 0), (10, .ptr 4 0), (38, .v (.int .i64 k)), (39, .v (.int .i64 l))], [(3, some ⟨.box 184 [.arr .u32 16 a], false⟩), (2, some ⟨.box 170 [.arr .u32 8 b], false⟩), (1, some ⟨.box 170 [.arr .u32 8 c], false⟩), (0, some ⟨.box 153 [.v (.int .i64 d), .v (.int .i64 e), .arr .i64 3 f, .arr .i64 3 g, .arr .i64 3 h, .arr .i64 3 i, .fn (.func 137) [] []], false⟩), (4, some ⟨.box 170 [.arr .u32 8 j], false⟩)], 5, 143⟩ => some (k, l, a, b, c, d, e, f, g, h, i, j)
 | _ => none
theorem atm (st) (x) (h : V10 st = some x) : st = S10 x := by
 unfold V10 at h
 split at h
 · cases h; rfl
 · cases h
abbrev Y10 := P.bqe
abbrev X21 := P.bja
def S21 : X21 → ASt := fun (a, b, c, d) => ⟨[(4, .ptr 1 0), (6, .ptr 2 0), (10, .ptr 4 0), (130, .v (.int .i64 a))], [(1, some ⟨.box 170 [.arr .u32 8 b], false⟩), (2, some ⟨.box 170 [.arr .u32 8 c], false⟩), (4, some ⟨.box 170 [.arr .u32 8 d], false⟩)], 120, 143⟩
def V21 : ASt → Option X21
 | ⟨[(4, .ptr 1 0), (6, .ptr 2 0), (10, .ptr 4 0), (130, .v (.int .i64 a))], [(1, some ⟨.box 170 [.arr .u32 8 b], false⟩), (2, some ⟨.box 170 [.arr .u32 8 c], false⟩), (4, some ⟨.box 170 [.arr .u32 8 d], false⟩)], 120, 143⟩ => some (a, b, c, d)
 | _ => none
theorem bal (st) (x) (h : V21 st = some x) : st = S21 x := by
 unfold V21 at h
 split at h
 · cases h; rfl
 · cases h
abbrev Y21 := P.bqz
def E4 (K : AExit → ASt → Option R) : Y4 → Option R := (fun x => K (.exit 0) (S4 x))
noncomputable def L4 : xw := fun st K => ag4 (V4 st) fun x => P.bm7 x (E4 K)
def E10 (K : AExit → ASt → Option R) : Y10 → Option R := (fun x => K (.exit 2) (S10 x))
noncomputable def L10 : xw := fun st K => ag4 (V10 st) fun x => P.bnm x (E10 K)
def E21 (K : AExit → ASt → Option R) : Y21 → Option R := (fun x => K (.exit 4) (S21 x))
noncomputable def L21 : xw := fun st K => ag4 (V21 st) fun x => P.bph x (E21 K)
noncomputable def D : Ctx := ({ P := Tryd.prog, G := [(134, su.spec), (137, mq.spec), (148, je.spec), (149, jr.spec)], globs := GLO.gx, hints := [(21, ⟨[4, 6, 10, 130], [], [6], [], some (120, [1, 2, 4]), [], []⟩), (10, ⟨[3, 4, 6, 7, 10, 38, 39], [], [6], [], none, [], []⟩), (4, ⟨[2, 3, 4, 6, 7, 8, 19], [], [6], [], none, [], []⟩)], loops := [(4, L4), (10, L10), (21, L21)], inl := [] } : Ctx)
theorem atz (K) (next) (x) : qb D (dw Tryd.f136 4) K next (S4 x) = P.blc x (fun x => next (S4 x)) (E4 K) := by kernel_rfl
theorem azw : ou D (dw Tryd.f136 4) := jf S4 azm (by kernel_rfl) P.brx atz
theorem apl (K) (next) (x) : qb D (dw Tryd.f136 10) K next (S10 x) = P.blv x (fun x => next (S10 x)) (E10 K) := by kernel_rfl
theorem atr : ou D (dw Tryd.f136 10) := jf S10 atm (by kernel_rfl) P.bsj apl
theorem avp (K) (next) (x) : qb D (dw Tryd.f136 21) K next (S21 x) = P.bls x (fun x => next (S21 x)) (E21 K) := by kernel_rfl
theorem bay : ou D (dw Tryd.f136 21) := jf S21 bal (by kernel_rfl) P.brp avp
theorem loops : bq (Tryd.f136.body.getD .skip) = [dw Tryd.f136 4, dw Tryd.f136 10, dw Tryd.f136 21] := by kernel_rfl
noncomputable def bg : Abs.Spec := fun args K => match args with
 | [.agg [.v (.int .i64 f), .v (.int .i64 e), .arr .i64 3 a, .arr .i64 3 b, .arr .i64 3 c, .arr .i64 3 d, .fn (.func 137) [] []], .arr .u32 8 g, .sl (.ints .u8 h)] => P.j6 f e a b c d g h (fun i => K (.arr .u32 8 i))
 | _ => none
noncomputable def spec : Abs.Spec := fun args K => bg (tu [.any, .any, .sl (.ints .u8 [])] args) K
theorem ok0 : Proved Tryd.prog GLO.gx 136 bg := by
 refine dn (D := D) (fn := Tryd.f136) (c := Tryd.f136.body.getD .skip) [.any] (by kernel_rfl) (au (by kernel_rfl)) (by kernel_rfl) (by kernel_rfl) (by kernel_rfl) ⟨su.ok, mq.ok, je.ok, jr.ok, trivial⟩ trivial ?_ ?_
 · rw [loops]; exact ⟨azw, atr, bay, trivial⟩
 · intro args K r h
   unfold bg at h
   split at h
   · rw [P.abh] at h; exact Eq.trans (by kernel_rfl) h
   · cases h
theorem ok : Proved Tryd.prog GLO.gx 136 spec := eu _ ok0
end j6

namespace oq
abbrev X3 := P.bkb
def S3 : X3 → ASt := fun (l, j, k, a, b, c, d, e, f, g, h, i) => ⟨[(2, .sl (.ints .u8 l)), (3, .ptr 0 0), (4, .ptr 1 0), (6, .ptr 2 0), (8, .ptr 3 0), (14, .arr .u64 8 j), (15, .v (.int .i64 k))], [(0, some ⟨.box 153 [.v (.int .i64 a), .v (.int .i64 b), .arr .i64 3 c, .arr .i64 3 d, .arr .i64 3 e, .arr .i64 3 f, .fn (.func 137) [] []], false⟩), (1, some ⟨.box 114 [.arr .u64 8 g], false⟩), (2, some ⟨.box 114 [.arr .u64 8 h], false⟩), (3, some ⟨.box 170 [.arr .u32 8 i], false⟩)], 4, 52⟩
def V3 : ASt → Option X3
 | ⟨[(2, .sl (.ints .u8 l)), (3, .ptr 0 0), (4, .ptr 1 0), (6, .ptr 2 0), (8, .ptr 3 0), (14, .arr .u64 8 j), (15, .v (.int .i64 k))], [(0, some ⟨.box 153 [.v (.int .i64 a), .v (.int .i64 b), .arr .i64 3 c, .arr .i64 3 d, .arr .i64 3 e, .arr .i64 3 f, .fn (.func 137) [] []], false⟩), (1, some ⟨.box 114 [.arr .u64 8 g], false⟩), (2, some ⟨.box 114 [.arr .u64 8 h], false⟩), (3, some ⟨.box 170 [.arr .u32 8 i], false⟩)], 4, 52⟩ => some (l, j, k, a, b, c, d, e, f, g, h, i)
 | _ => none
theorem apf (st) (x) (h : V3 st = some x) : st = S3 x := by
 unfold V3 at h
 split at h
 · cases h; rfl
 · cases h
abbrev Y3 := P.bp0
abbrev X8 := P.blx
def S8 : X8 → ASt := fun (k, j, a, b, c, d, e, f, g, h, i) => ⟨[(2, .sl (.ints .u8 k)), (3, .ptr 0 0), (4, .ptr 1 0), (6, .ptr 2 0), (8, .ptr 3 0), (11, .v (.int .i64 j))], [(3, some ⟨.box 170 [.arr .u32 8 a], false⟩), (2, some ⟨.box 114 [.arr .u64 8 b], false⟩), (1, some ⟨.box 114 [.arr .u64 8 c], false⟩), (0, some ⟨.box 153 [.v (.int .i64 d), .v (.int .i64 e), .arr .i64 3 f, .arr .i64 3 g, .arr .i64 3 h, .arr .i64 3 i, .fn (.func 137) [] []], false⟩)], 4, 52⟩
def V8 : ASt → Option X8
 | ⟨[(2, .sl (.ints .u8 k)), (3, .ptr 0 0), (4, .ptr 1 0), (6, .ptr 2 0), (8, .ptr 3 0), (11, .v (.int .i64 j))], [(3, some ⟨.box 170 [.arr .u32 8 a], false⟩), (2, some ⟨.box 114 [.arr .u64 8 b], false⟩), (1, some ⟨.box 114 [.arr .u64 8 c], false⟩), (0, some ⟨.box 153 [.v (.int .i64 d), .v (.int .i64 e), .arr .i64 3 f, .arr .i64 3 g, .arr .i64 3 h, .arr .i64 3 i, .fn (.func 137) [] []], false⟩)], 4, 52⟩ => some (k, j, a, b, c, d, e, f, g, h, i)
 | _ => none
theorem azs (st) (x) (h : V8 st = some x) : st = S8 x := by
 unfold V8 at h
 split at h
 · cases h; rfl
 · cases h
abbrev Y8 := P.bpo
abbrev X12 := P.biu
def S12 : X12 → ASt := fun (e, c, d, a, b) => ⟨[(2, .sl (.ints .u8 e)), (4, .ptr 1 0), (6, .ptr 2 0), (40, .arr .u32 8 c), (41, .v (.int .i64 d))], [(1, some ⟨.box 114 [.arr .u64 8 a], false⟩), (2, some ⟨.box 114 [.arr .u64 8 b], false⟩)], 120, 52⟩
def V12 : ASt → Option X12
 | ⟨[(2, .sl (.ints .u8 e)), (4, .ptr 1 0), (6, .ptr 2 0), (40, .arr .u32 8 c), (41, .v (.int .i64 d))], [(1, some ⟨.box 114 [.arr .u64 8 a], false⟩), (2, some ⟨.box 114 [.arr .u64 8 b], false⟩)], 120, 52⟩ => some (e, c, d, a, b)
 | _ => none
theorem bck (st) (x) (h : V12 st = some x) : st = S12 x := by
 unfold V12 at h
 split at h
 · cases h; rfl
 · cases h
abbrev Y12 := P.bq2
def E3 (K : AExit → ASt → Option R) : Y3 → Option R := (fun x => K (.exit 0) (S3 x))
noncomputable def L3 : xw := fun st K => ag4 (V3 st) fun x => P.bpl x (E3 K)
def E8 (K : AExit → ASt → Option R) : Y8 → Option R := (fun x => K (.exit 2) (S8 x))
noncomputable def L8 : xw := fun st K => ag4 (V8 st) fun x => P.bqc x (E8 K)
def E12 (K : AExit → ASt → Option R) : Y12 → Option R := (fun x => K (.exit 4) (S12 x))
noncomputable def L12 : xw := fun st K => ag4 (V12 st) fun x => P.bn7 x (E12 K)
noncomputable def D : Ctx := ({ P := Tryd.prog, G := [(136, j6.spec), (137, mq.spec)], globs := GLO.gx, hints := [(12, ⟨[2, 4, 6, 40, 41], [], [6, 7], [], some (120, [1, 2]), [], []⟩), (8, ⟨[2, 3, 4, 6, 8, 11], [], [6, 7], [(2, .sl (.ints .u8 []))], none, [], []⟩), (3, ⟨[2, 3, 4, 6, 8, 14, 15], [], [6, 7], [], none, [], []⟩)], loops := [(3, L3), (8, L8), (12, L12)], inl := [] } : Ctx)
theorem aic (K) (next) (x) : qb D (dw Tryd.f117 3) K next (S3 x) = P.bk7 x (fun x => next (S3 x)) (E3 K) := by kernel_rfl
theorem aol : ou D (dw Tryd.f117 3) := jf S3 apf (by kernel_rfl) P.bsa aic
theorem at1 (K) (next) (x) : qb D (dw Tryd.f117 8) K next (S8 x) = P.bi5 x (fun x => next (S8 x)) (E8 K) := by kernel_rfl
theorem bat : ou D (dw Tryd.f117 8) := jf S8 azs (by kernel_rfl) P.brh at1
theorem avm (K) (next) (x) : qb D (dw Tryd.f117 12) K next (S12 x) = P.bk9 x (fun x => next (S12 x)) (E12 K) := by kernel_rfl
theorem bb9 : ou D (dw Tryd.f117 12) := jf S12 bck (by kernel_rfl) P.br4 avm
theorem loops : bq (Tryd.f117.body.getD .skip) = [dw Tryd.f117 3, dw Tryd.f117 8, dw Tryd.f117 12] := by kernel_rfl
noncomputable def bg : Abs.Spec := fun args K => match args with
 | [.agg [.v (.int .i64 f), .v (.int .i64 e), .arr .i64 3 a, .arr .i64 3 b, .arr .i64 3 c, .arr .i64 3 d, .fn (.func 137) [] []], .arr .u64 8 g, .sl (.ints .u8 h)] => P.oq f e a b c d g h (fun i j => K (.tuple [.arr .u64 8 i, .sl (.ints .u8 j)]))
 | _ => none
noncomputable def spec : Abs.Spec := fun args K => bg (tu [.any, .any, .sl (.ints .u8 [])] args) K
theorem ok0 : Proved Tryd.prog GLO.gx 117 bg := by
 refine dn (D := D) (fn := Tryd.f117) (c := Tryd.f117.body.getD .skip) [.any, .sl (.ints .u8 [])] (by kernel_rfl) (au (by kernel_rfl)) (by kernel_rfl) (by kernel_rfl) (by kernel_rfl) ⟨j6.ok, mq.ok, trivial⟩ trivial ?_ ?_
 · rw [loops]; exact ⟨aol, bat, bb9, trivial⟩
 · intro args K r h
   unfold bg at h
   split at h
   · rw [P.ad3] at h; exact Eq.trans (by kernel_rfl) h
   · cases h
theorem ok : Proved Tryd.prog GLO.gx 117 spec := eu _ ok0
end oq

namespace av
noncomputable def D : Ctx := ({ P := Tryd.prog, G := [(139, ni.spec)], globs := GLO.gx, hints := [], loops := [], inl := [] } : Ctx)
theorem loops : bq (Tryd.f158.body.getD .skip) = [] := by kernel_rfl
noncomputable def bg : Abs.Spec := fun args K => match args with
 | [.agg [.v (.int .i64 f), .v (.int .i64 e), .arr .i64 3 a, .arr .i64 3 b, .arr .i64 3 c, .arr .i64 3 d, .fn (.func 139) [] []], .v (.int .u64 g), .v (.int .i64 h)] => P.av f e a b c d g h (fun i => K (.v (.int .u64 i)))
 | _ => none
noncomputable def spec : Abs.Spec := bg
theorem ok0 : Proved Tryd.prog GLO.gx 158 bg := by
 refine dn (D := D) (fn := Tryd.f158) (c := Tryd.f158.body.getD .skip) [.any] (by kernel_rfl) (au (by kernel_rfl)) (by kernel_rfl) (by kernel_rfl) (by kernel_rfl) ⟨ni.ok, trivial⟩ trivial ?_ ?_
 · rw [loops]; exact trivial
 · intro args K r h
   unfold bg at h
   split at h
   · rw [P.aaf] at h; exact Eq.trans (by kernel_rfl) h
   · cases h
theorem ok : Proved Tryd.prog GLO.gx 158 spec := ok0
end av

namespace jd
noncomputable def D : Ctx := ({ P := Tryd.prog, G := [(139, ni.spec), (158, av.spec)], globs := GLO.gx, hints := [], loops := [], inl := [] } : Ctx)
theorem loops : bq (Tryd.f150.body.getD .skip) = [] := by kernel_rfl
noncomputable def bg : Abs.Spec := fun args K => match args with
 | [.agg [.v (.int .i64 f), .v (.int .i64 e), .arr .i64 3 a, .arr .i64 3 b, .arr .i64 3 c, .arr .i64 3 d, .fn (.func 139) [] []], .v (.int .u64 g), .v (.int .i64 h)] => P.jd f e a b c d g h (fun i => K (.v (.int .u64 i)))
 | _ => none
noncomputable def spec : Abs.Spec := bg
theorem ok0 : Proved Tryd.prog GLO.gx 150 bg := by
 refine dn (D := D) (fn := Tryd.f150) (c := Tryd.f150.body.getD .skip) [.any] (by kernel_rfl) (au (by kernel_rfl)) (by kernel_rfl) (by kernel_rfl) (by kernel_rfl) ⟨ni.ok, av.ok, trivial⟩ trivial ?_ ?_
 · rw [loops]; exact trivial
 · intro args K r h
   unfold bg at h
   split at h
   · rw [P.xg] at h; exact Eq.trans (by kernel_rfl) h
   · cases h
theorem ok : Proved Tryd.prog GLO.gx 150 spec := ok0
end jd

namespace jo
noncomputable def D : Ctx := ({ P := Tryd.prog, G := [(139, ni.spec), (158, av.spec)], globs := GLO.gx, hints := [], loops := [], inl := [] } : Ctx)
theorem loops : bq (Tryd.f151.body.getD .skip) = [] := by kernel_rfl
noncomputable def bg : Abs.Spec := fun args K => match args with
 | [.agg [.v (.int .i64 f), .v (.int .i64 e), .arr .i64 3 a, .arr .i64 3 b, .arr .i64 3 c, .arr .i64 3 d, .fn (.func 139) [] []], .v (.int .u64 g), .v (.int .i64 h)] => P.jo f e a b c d g h (fun i => K (.v (.int .u64 i)))
 | _ => none
noncomputable def spec : Abs.Spec := bg
theorem ok0 : Proved Tryd.prog GLO.gx 151 bg := by
 refine dn (D := D) (fn := Tryd.f151) (c := Tryd.f151.body.getD .skip) [.any] (by kernel_rfl) (au (by kernel_rfl)) (by kernel_rfl) (by kernel_rfl) (by kernel_rfl) ⟨ni.ok, av.ok, trivial⟩ trivial ?_ ?_
 · rw [loops]; exact trivial
 · intro args K r h
   unfold bg at h
   split at h
   · rw [P.yj] at h; exact Eq.trans (by kernel_rfl) h
   · cases h
theorem ok : Proved Tryd.prog GLO.gx 151 spec := ok0
end jo

namespace kg
abbrev X4 := P.bkh
def S4 : X4 → ASt := fun (k, l, j, a, b, c, d, e, f, g, h, i) => ⟨[(2, .sl (.ints .u8 k)), (3, .ptr 0 0), (4, .ptr 1 0), (6, .ptr 2 0), (7, .ptr 3 0), (8, .v (.int .i64 l)), (19, .v (.int .i64 j))], [(0, some ⟨.box 158 [.v (.int .i64 a), .v (.int .i64 b), .arr .i64 3 c, .arr .i64 3 d, .arr .i64 3 e, .arr .i64 3 f, .fn (.func 139) [] []], false⟩), (1, some ⟨.box 114 [.arr .u64 8 g], false⟩), (2, some ⟨.box 114 [.arr .u64 8 h], false⟩), (3, some ⟨.box 187 [.arr .u64 16 i], false⟩)], 4, 142⟩
def V4 : ASt → Option X4
 | ⟨[(2, .sl (.ints .u8 k)), (3, .ptr 0 0), (4, .ptr 1 0), (6, .ptr 2 0), (7, .ptr 3 0), (8, .v (.int .i64 l)), (19, .v (.int .i64 j))], [(0, some ⟨.box 158 [.v (.int .i64 a), .v (.int .i64 b), .arr .i64 3 c, .arr .i64 3 d, .arr .i64 3 e, .arr .i64 3 f, .fn (.func 139) [] []], false⟩), (1, some ⟨.box 114 [.arr .u64 8 g], false⟩), (2, some ⟨.box 114 [.arr .u64 8 h], false⟩), (3, some ⟨.box 187 [.arr .u64 16 i], false⟩)], 4, 142⟩ => some (k, l, j, a, b, c, d, e, f, g, h, i)
 | _ => none
theorem azm (st) (x) (h : V4 st = some x) : st = S4 x := by
 unfold V4 at h
 split at h
 · cases h; rfl
 · cases h
abbrev Y4 := P.bqb
abbrev X10 := P.bkq
def S10 : X10 → ASt := fun (k, l, a, b, c, d, e, f, g, h, i, j) => ⟨[(3, .ptr 0 0), (4, .ptr 1 0), (6, .ptr 2 0), (7, .ptr 3 0), (10, .ptr 4 0), (37, .v (.int .i64 k)), (38, .v (.int .i64 l))], [(3, some ⟨.box 187 [.arr .u64 16 a], false⟩), (2, some ⟨.box 114 [.arr .u64 8 b], false⟩), (1, some ⟨.box 114 [.arr .u64 8 c], false⟩), (0, some ⟨.box 158 [.v (.int .i64 d), .v (.int .i64 e), .arr .i64 3 f, .arr .i64 3 g, .arr .i64 3 h, .arr .i64 3 i, .fn (.func 139) [] []], false⟩), (4, some ⟨.box 114 [.arr .u64 8 j], false⟩)], 5, 142⟩
def V10 : ASt → Option X10
 | ⟨[(3, .ptr 0 0), (4, .ptr 1 0), (6, .ptr 2 0), (7, .ptr 3 0), (10, .ptr 4 0), (37, .v (.int .i64 k)), (38, .v (.int .i64 l))], [(3, some ⟨.box 187 [.arr .u64 16 a], false⟩), (2, some ⟨.box 114 [.arr .u64 8 b], false⟩), (1, some ⟨.box 114 [.arr .u64 8 c], false⟩), (0, some ⟨.box 158 [.v (.int .i64 d), .v (.int .i64 e), .arr .i64 3 f, .arr .i64 3 g, .arr .i64 3 h, .arr .i64 3 i, .fn (.func 139) [] []], false⟩), (4, some ⟨.box 114 [.arr .u64 8 j], false⟩)], 5, 142⟩ => some (k, l, a, b, c, d, e, f, g, h, i, j)
 | _ => none
theorem atm (st) (x) (h : V10 st = some x) : st = S10 x := by
 unfold V10 at h
 split at h
 · cases h; rfl
 · cases h
abbrev Y10 := P.boa
abbrev X21 := P.blf
def S21 : X21 → ASt := fun (a, b, c, d) => ⟨[(4, .ptr 1 0), (6, .ptr 2 0), (10, .ptr 4 0), (129, .v (.int .i64 a))], [(1, some ⟨.box 114 [.arr .u64 8 b], false⟩), (2, some ⟨.box 114 [.arr .u64 8 c], false⟩), (4, some ⟨.box 114 [.arr .u64 8 d], false⟩)], 120, 142⟩
def V21 : ASt → Option X21
 | ⟨[(4, .ptr 1 0), (6, .ptr 2 0), (10, .ptr 4 0), (129, .v (.int .i64 a))], [(1, some ⟨.box 114 [.arr .u64 8 b], false⟩), (2, some ⟨.box 114 [.arr .u64 8 c], false⟩), (4, some ⟨.box 114 [.arr .u64 8 d], false⟩)], 120, 142⟩ => some (a, b, c, d)
 | _ => none
theorem bal (st) (x) (h : V21 st = some x) : st = S21 x := by
 unfold V21 at h
 split at h
 · cases h; rfl
 · cases h
abbrev Y21 := P.bnr
def E4 (K : AExit → ASt → Option R) : Y4 → Option R := (fun x => K (.exit 0) (S4 x))
noncomputable def L4 : xw := fun st K => ag4 (V4 st) fun x => P.bp5 x (E4 K)
def E10 (K : AExit → ASt → Option R) : Y10 → Option R := (fun x => K (.exit 2) (S10 x))
noncomputable def L10 : xw := fun st K => ag4 (V10 st) fun x => P.bpr x (E10 K)
def E21 (K : AExit → ASt → Option R) : Y21 → Option R := (fun x => K (.exit 4) (S21 x))
noncomputable def L21 : xw := fun st K => ag4 (V21 st) fun x => P.bqh x (E21 K)
noncomputable def D : Ctx := ({ P := Tryd.prog, G := [(134, su.spec), (139, ni.spec), (150, jd.spec), (151, jo.spec)], globs := GLO.gx, hints := [(21, ⟨[4, 6, 10, 129], [], [6], [], some (120, [1, 2, 4]), [], []⟩), (10, ⟨[3, 4, 6, 7, 10, 37, 38], [], [6], [], none, [], []⟩), (4, ⟨[2, 3, 4, 6, 7, 8, 19], [], [6], [], none, [], []⟩)], loops := [(4, L4), (10, L10), (21, L21)], inl := [] } : Ctx)
theorem atz (K) (next) (x) : qb D (dw Tryd.f138 4) K next (S4 x) = P.bjy x (fun x => next (S4 x)) (E4 K) := by kernel_rfl
theorem azw : ou D (dw Tryd.f138 4) := jf S4 azm (by kernel_rfl) P.bsk atz
theorem apl (K) (next) (x) : qb D (dw Tryd.f138 10) K next (S10 x) = P.biy x (fun x => next (S10 x)) (E10 K) := by kernel_rfl
theorem atr : ou D (dw Tryd.f138 10) := jf S10 atm (by kernel_rfl) P.bsm apl
theorem avp (K) (next) (x) : qb D (dw Tryd.f138 21) K next (S21 x) = P.blj x (fun x => next (S21 x)) (E21 K) := by kernel_rfl
theorem bay : ou D (dw Tryd.f138 21) := jf S21 bal (by kernel_rfl) P.bsb avp
theorem loops : bq (Tryd.f138.body.getD .skip) = [dw Tryd.f138 4, dw Tryd.f138 10, dw Tryd.f138 21] := by kernel_rfl
noncomputable def bg : Abs.Spec := fun args K => match args with
 | [.agg [.v (.int .i64 f), .v (.int .i64 e), .arr .i64 3 a, .arr .i64 3 b, .arr .i64 3 c, .arr .i64 3 d, .fn (.func 139) [] []], .arr .u64 8 g, .sl (.ints .u8 h)] => P.kg f e a b c d g h (fun i => K (.arr .u64 8 i))
 | _ => none
noncomputable def spec : Abs.Spec := fun args K => bg (tu [.any, .any, .sl (.ints .u8 [])] args) K
theorem ok0 : Proved Tryd.prog GLO.gx 138 bg := by
 refine dn (D := D) (fn := Tryd.f138) (c := Tryd.f138.body.getD .skip) [.any] (by kernel_rfl) (au (by kernel_rfl)) (by kernel_rfl) (by kernel_rfl) (by kernel_rfl) ⟨su.ok, ni.ok, jd.ok, jo.ok, trivial⟩ trivial ?_ ?_
 · rw [loops]; exact ⟨azw, atr, bay, trivial⟩
 · intro args K r h
   unfold bg at h
   split at h
   · rw [P.abl] at h; exact Eq.trans (by kernel_rfl) h
   · cases h
theorem ok : Proved Tryd.prog GLO.gx 138 spec := eu _ ok0
end kg

namespace om
abbrev X3 := P.bi3
def S3 : X3 → ASt := fun (l, j, k, a, b, c, d, e, f, g, h, i) => ⟨[(2, .sl (.ints .u8 l)), (3, .ptr 0 0), (4, .ptr 1 0), (6, .ptr 2 0), (8, .ptr 3 0), (14, .arr .u64 8 j), (15, .v (.int .i64 k))], [(0, some ⟨.box 158 [.v (.int .i64 a), .v (.int .i64 b), .arr .i64 3 c, .arr .i64 3 d, .arr .i64 3 e, .arr .i64 3 f, .fn (.func 139) [] []], false⟩), (1, some ⟨.box 114 [.arr .u64 8 g], false⟩), (2, some ⟨.box 114 [.arr .u64 8 h], false⟩), (3, some ⟨.box 114 [.arr .u64 8 i], false⟩)], 4, 50⟩
def V3 : ASt → Option X3
 | ⟨[(2, .sl (.ints .u8 l)), (3, .ptr 0 0), (4, .ptr 1 0), (6, .ptr 2 0), (8, .ptr 3 0), (14, .arr .u64 8 j), (15, .v (.int .i64 k))], [(0, some ⟨.box 158 [.v (.int .i64 a), .v (.int .i64 b), .arr .i64 3 c, .arr .i64 3 d, .arr .i64 3 e, .arr .i64 3 f, .fn (.func 139) [] []], false⟩), (1, some ⟨.box 114 [.arr .u64 8 g], false⟩), (2, some ⟨.box 114 [.arr .u64 8 h], false⟩), (3, some ⟨.box 114 [.arr .u64 8 i], false⟩)], 4, 50⟩ => some (l, j, k, a, b, c, d, e, f, g, h, i)
 | _ => none
theorem apf (st) (x) (h : V3 st = some x) : st = S3 x := by
 unfold V3 at h
 split at h
 · cases h; rfl
 · cases h
abbrev Y3 := P.bnq
abbrev X8 := P.bk0
def S8 : X8 → ASt := fun (k, j, a, b, c, d, e, f, g, h, i) => ⟨[(2, .sl (.ints .u8 k)), (3, .ptr 0 0), (4, .ptr 1 0), (6, .ptr 2 0), (8, .ptr 3 0), (11, .v (.int .i64 j))], [(3, some ⟨.box 114 [.arr .u64 8 a], false⟩), (2, some ⟨.box 114 [.arr .u64 8 b], false⟩), (1, some ⟨.box 114 [.arr .u64 8 c], false⟩), (0, some ⟨.box 158 [.v (.int .i64 d), .v (.int .i64 e), .arr .i64 3 f, .arr .i64 3 g, .arr .i64 3 h, .arr .i64 3 i, .fn (.func 139) [] []], false⟩)], 4, 50⟩
def V8 : ASt → Option X8
 | ⟨[(2, .sl (.ints .u8 k)), (3, .ptr 0 0), (4, .ptr 1 0), (6, .ptr 2 0), (8, .ptr 3 0), (11, .v (.int .i64 j))], [(3, some ⟨.box 114 [.arr .u64 8 a], false⟩), (2, some ⟨.box 114 [.arr .u64 8 b], false⟩), (1, some ⟨.box 114 [.arr .u64 8 c], false⟩), (0, some ⟨.box 158 [.v (.int .i64 d), .v (.int .i64 e), .arr .i64 3 f, .arr .i64 3 g, .arr .i64 3 h, .arr .i64 3 i, .fn (.func 139) [] []], false⟩)], 4, 50⟩ => some (k, j, a, b, c, d, e, f, g, h, i)
 | _ => none
theorem azs (st) (x) (h : V8 st = some x) : st = S8 x := by
 unfold V8 at h
 split at h
 · cases h; rfl
 · cases h
abbrev Y8 := P.bpg
abbrev X12 := P.bjn
def S12 : X12 → ASt := fun (e, c, d, a, b) => ⟨[(2, .sl (.ints .u8 e)), (4, .ptr 1 0), (6, .ptr 2 0), (39, .arr .u64 8 c), (40, .v (.int .i64 d))], [(1, some ⟨.box 114 [.arr .u64 8 a], false⟩), (2, some ⟨.box 114 [.arr .u64 8 b], false⟩)], 120, 50⟩
def V12 : ASt → Option X12
 | ⟨[(2, .sl (.ints .u8 e)), (4, .ptr 1 0), (6, .ptr 2 0), (39, .arr .u64 8 c), (40, .v (.int .i64 d))], [(1, some ⟨.box 114 [.arr .u64 8 a], false⟩), (2, some ⟨.box 114 [.arr .u64 8 b], false⟩)], 120, 50⟩ => some (e, c, d, a, b)
 | _ => none
theorem bck (st) (x) (h : V12 st = some x) : st = S12 x := by
 unfold V12 at h
 split at h
 · cases h; rfl
 · cases h
abbrev Y12 := P.bp1
def E3 (K : AExit → ASt → Option R) : Y3 → Option R := (fun x => K (.exit 0) (S3 x))
noncomputable def L3 : xw := fun st K => ag4 (V3 st) fun x => P.bq4 x (E3 K)
def E8 (K : AExit → ASt → Option R) : Y8 → Option R := (fun x => K (.exit 2) (S8 x))
noncomputable def L8 : xw := fun st K => ag4 (V8 st) fun x => P.bn3 x (E8 K)
def E12 (K : AExit → ASt → Option R) : Y12 → Option R := (fun x => K (.exit 4) (S12 x))
noncomputable def L12 : xw := fun st K => ag4 (V12 st) fun x => P.bow x (E12 K)
noncomputable def D : Ctx := ({ P := Tryd.prog, G := [(138, kg.spec), (139, ni.spec)], globs := GLO.gx, hints := [(12, ⟨[2, 4, 6, 39, 40], [], [6, 7], [], some (120, [1, 2]), [], []⟩), (8, ⟨[2, 3, 4, 6, 8, 11], [], [6, 7], [(2, .sl (.ints .u8 []))], none, [], []⟩), (3, ⟨[2, 3, 4, 6, 8, 14, 15], [], [6, 7], [], none, [], []⟩)], loops := [(3, L3), (8, L8), (12, L12)], inl := [] } : Ctx)
theorem aic (K) (next) (x) : qb D (dw Tryd.f119 3) K next (S3 x) = P.bj8 x (fun x => next (S3 x)) (E3 K) := by kernel_rfl
theorem aol : ou D (dw Tryd.f119 3) := jf S3 apf (by kernel_rfl) P.brf aic
theorem at1 (K) (next) (x) : qb D (dw Tryd.f119 8) K next (S8 x) = P.bkl x (fun x => next (S8 x)) (E8 K) := by kernel_rfl
theorem bat : ou D (dw Tryd.f119 8) := jf S8 azs (by kernel_rfl) P.brn at1
theorem avm (K) (next) (x) : qb D (dw Tryd.f119 12) K next (S12 x) = P.bjp x (fun x => next (S12 x)) (E12 K) := by kernel_rfl
theorem bb9 : ou D (dw Tryd.f119 12) := jf S12 bck (by kernel_rfl) P.bsf avm
theorem loops : bq (Tryd.f119.body.getD .skip) = [dw Tryd.f119 3, dw Tryd.f119 8, dw Tryd.f119 12] := by kernel_rfl
noncomputable def bg : Abs.Spec := fun args K => match args with
 | [.agg [.v (.int .i64 f), .v (.int .i64 e), .arr .i64 3 a, .arr .i64 3 b, .arr .i64 3 c, .arr .i64 3 d, .fn (.func 139) [] []], .arr .u64 8 g, .sl (.ints .u8 h)] => P.om f e a b c d g h (fun i j => K (.tuple [.arr .u64 8 i, .sl (.ints .u8 j)]))
 | _ => none
noncomputable def spec : Abs.Spec := fun args K => bg (tu [.any, .any, .sl (.ints .u8 [])] args) K
theorem ok0 : Proved Tryd.prog GLO.gx 119 bg := by
 refine dn (D := D) (fn := Tryd.f119) (c := Tryd.f119.body.getD .skip) [.any, .sl (.ints .u8 [])] (by kernel_rfl) (au (by kernel_rfl)) (by kernel_rfl) (by kernel_rfl) (by kernel_rfl) ⟨kg.ok, ni.ok, trivial⟩ trivial ?_ ?_
 · rw [loops]; exact ⟨aol, bat, bb9, trivial⟩
 · intro args K r h
   unfold bg at h
   split at h
   · rw [P.ad7] at h; exact Eq.trans (by kernel_rfl) h
   · cases h
theorem ok : Proved Tryd.prog GLO.gx 119 spec := eu _ ok0
end om

namespace oh
noncomputable def D : Ctx := { P := Tryd.prog, G := [], globs := GLO.gx, hints := [], loops := [] }
noncomputable def c : Code := Tryd.f121.body.getD .skip
noncomputable def o0 : Oper := (ax9 (sq1 c)).getD 0 aya
noncomputable def o1 : Oper := (ax9 (sq1 (sq1 (sq2 c)))).getD 0 aya
noncomputable def o2 : Oper := (ax9 (sq1 (sq1 (sq2 c)))).getD 1 aya
noncomputable def X : Code := bm6 (sq2 (sq1 (sq2 c)))
noncomputable def rest : Code := sq2 (sq2 c)
noncomputable def ox : Oper := (ax9 (sq1 X)).getD 0 aya
theorem bh5 (a : List Int) : acs D rest ⟨[(0, .sl (.ints .u8 a)), (2, .v (.slice none 0 0))], [], 0, Tryd.f121.ntmps⟩ (br6 D [.fr 5 (.ints .u8 a)] Tryd.f121) = br (decide ((0 + a.length) * 1 ≤ 140737488355328)) (some (.fr 5 (.ints .u8 a))) none := by kernel_rfl
noncomputable def bg : Abs.Spec := fun args K => match args with
  | [.sl (.ints .u8 a)] => P.oh a (fun a => K (.fr 5 (.ints .u8 a)))
  | _ => none
theorem bfz : Tryd.f121.body = some (.seq (.region 0 #[o0] false) (.seq (.seq (.region 1 #[o1, o2] false) (.cond (.tmp 4) X .skip)) rest)) := by kernel_rfl
theorem ok0 : Proved Tryd.prog GLO.gx 121 bg := by
  refine ⟨⟨Tryd.f121, by kernel_rfl, by kernel_rfl, by kernel_rfl⟩, fun args K r h => ?_⟩
  unfold bg at h
  split at h
  · rename_i a
    unfold P.oh at h
    obtain ⟨hp, hK⟩ := pre_some h
    refine ⟨_, hK, bd2 (D := D) (fn := Tryd.f121) (t := 22) (e := 5) trivial (au (by kernel_rfl)) trivial (by kernel_rfl) (by kernel_rfl) bfz ⟨by kernel_rfl, by kernel_rfl, by kernel_rfl⟩ ⟨by kernel_rfl, by kernel_rfl, by kernel_rfl⟩ ⟨by kernel_rfl, by kernel_rfl, by kernel_rfl⟩ (by kernel_rfl) (by decide +kernel) (by kernel_rfl) (by kernel_rfl) ⟨2, ox, by kernel_rfl, by kernel_rfl, by kernel_rfl, by kernel_rfl⟩ (by kernel_rfl) rfl rfl rfl ?_⟩
    rw [bh5, bf (by omega)]
  · cases h
noncomputable def spec : Abs.Spec := fun args K => bg (tu [.sl (.ints .u8 [])] args) K
theorem ok : Proved Tryd.prog GLO.gx 121 spec := eu _ ok0
end oh

end
