/-
  ForsSigns, part 14: an interpreter of my own over abstract values, the pure functions, the walks and the plain law.
-/

import Derived.Test.YtjhnljhjpnjieaaGreatDoorForsSignsK
import Derived.Test.YtjhnljhjpnjieaaGreatDoorForsSignsG
import Derived.Test.YtjhnljhjpnjieaaGreatDoorProg
import Derived.Test.YtjhnljhjpnjieaaGreatDoorForsSignsJ
import Derived.Test.YtjhnljhjpnjieaaGreatDoorForsSignsM
import Derived.KernelRfl

section
open Go Go.Abs Go.Proofs
set_option maxRecDepth 100000
set_option maxHeartbeats 0
set_option linter.unusedVariables false

namespace ku
abbrev X4 := P.bsk
def S4 : X4 → ASt := fun (k, l, j, a, b, c, d, e, f, g, h, i) => ⟨[(2, .sl (.ints .u8 k)), (3, .ptr 0 0), (4, .ptr 1 0), (6, .ptr 2 0), (7, .ptr 3 0), (8, .v (.int .i64 l)), (19, .v (.int .i64 j))], [(0, some ⟨.box 159 [.v (.int .i64 a), .v (.int .i64 b), .arr .i64 3 c, .arr .i64 3 d, .arr .i64 3 e, .arr .i64 3 f, .fn (.func 154) [] []], false⟩), (1, some ⟨.box 173 [.arr .u32 8 g], false⟩), (2, some ⟨.box 173 [.arr .u32 8 h], false⟩), (3, some ⟨.box 178 [.arr .u32 16 i], false⟩)], 4, 143⟩
def V4 : ASt → Option X4
 | ⟨[(2, .sl (.ints .u8 k)), (3, .ptr 0 0), (4, .ptr 1 0), (6, .ptr 2 0), (7, .ptr 3 0), (8, .v (.int .i64 l)), (19, .v (.int .i64 j))], [(0, some ⟨.box 159 [.v (.int .i64 a), .v (.int .i64 b), .arr .i64 3 c, .arr .i64 3 d, .arr .i64 3 e, .arr .i64 3 f, .fn (.func 154) [] []], false⟩), (1, some ⟨.box 173 [.arr .u32 8 g], false⟩), (2, some ⟨.box 173 [.arr .u32 8 h], false⟩), (3, some ⟨.box 178 [.arr .u32 16 i], false⟩)], 4, 143⟩ => some (k, l, j, a, b, c, d, e, f, g, h, i)
 | _ => none
theorem ar7 (st) (x) (h : V4 st = some x) : st = S4 x := by
 unfold V4 at h
 split at h
 · cases h; rfl
 · cases h
abbrev Y4 := P.bz0
abbrev X10 := P.bsp
def S10 : X10 → ASt := fun (k, l, a, b, c, d, e, f, g, h, i, j) => ⟨[(3, .ptr 0 0), (4, .ptr 1 0), (6, .ptr 2 0), (7, .ptr 3 0), (10, .ptr 4 0), (38, .v (.int .i64 k)), (39, .v (.int .i64 l))], [(3, some ⟨.box 178 [.arr .u32 16 a], false⟩), (2, some ⟨.box 173 [.arr .u32 8 b], false⟩), (1, some ⟨.box 173 [.arr .u32 8 c], false⟩), (0, some ⟨.box 159 [.v (.int .i64 d), .v (.int .i64 e), .arr .i64 3 f, .arr .i64 3 g, .arr .i64 3 h, .arr .i64 3 i, .fn (.func 154) [] []], false⟩), (4, some ⟨.box 173 [.arr .u32 8 j], false⟩)], 5, 143⟩
def V10 : ASt → Option X10
 | ⟨[(3, .ptr 0 0), (4, .ptr 1 0), (6, .ptr 2 0), (7, .ptr 3 0), (10, .ptr 4 0), (38, .v (.int .i64 k)), (39, .v (.int .i64 l))], [(3, some ⟨.box 178 [.arr .u32 16 a], false⟩), (2, some ⟨.box 173 [.arr .u32 8 b], false⟩), (1, some ⟨.box 173 [.arr .u32 8 c], false⟩), (0, some ⟨.box 159 [.v (.int .i64 d), .v (.int .i64 e), .arr .i64 3 f, .arr .i64 3 g, .arr .i64 3 h, .arr .i64 3 i, .fn (.func 154) [] []], false⟩), (4, some ⟨.box 173 [.arr .u32 8 j], false⟩)], 5, 143⟩ => some (k, l, a, b, c, d, e, f, g, h, i, j)
 | _ => none
theorem bcj (st) (x) (h : V10 st = some x) : st = S10 x := by
 unfold V10 at h
 split at h
 · cases h; rfl
 · cases h
abbrev Y10 := P.b4y
abbrev X21 := P.bu6
def S21 : X21 → ASt := fun (a, b, c, d) => ⟨[(4, .ptr 1 0), (6, .ptr 2 0), (10, .ptr 4 0), (130, .v (.int .i64 a))], [(1, some ⟨.box 173 [.arr .u32 8 b], false⟩), (2, some ⟨.box 173 [.arr .u32 8 c], false⟩), (4, some ⟨.box 173 [.arr .u32 8 d], false⟩)], 120, 143⟩
def V21 : ASt → Option X21
 | ⟨[(4, .ptr 1 0), (6, .ptr 2 0), (10, .ptr 4 0), (130, .v (.int .i64 a))], [(1, some ⟨.box 173 [.arr .u32 8 b], false⟩), (2, some ⟨.box 173 [.arr .u32 8 c], false⟩), (4, some ⟨.box 173 [.arr .u32 8 d], false⟩)], 120, 143⟩ => some (a, b, c, d)
 | _ => none
theorem biw (st) (x) (h : V21 st = some x) : st = S21 x := by
 unfold V21 at h
 split at h
 · cases h; rfl
 · cases h
abbrev Y21 := P.b3z
def E4 (K : AExit → ASt → Option R) : Y4 → Option R := (fun x => K (.exit 0) (S4 x))
noncomputable def L4 : qc := fun st K => ac6 (V4 st) fun x => P.byu x (E4 K)
def E10 (K : AExit → ASt → Option R) : Y10 → Option R := (fun x => K (.exit 2) (S10 x))
noncomputable def L10 : qc := fun st K => ac6 (V10 st) fun x => P.b45 x (E10 K)
def E21 (K : AExit → ASt → Option R) : Y21 → Option R := (fun x => K (.exit 4) (S21 x))
noncomputable def L21 : qc := fun st K => ac6 (V21 st) fun x => P.b4e x (E21 K)
noncomputable def D : Ctx := ({ P := Tryz.prog, G := [(106, u6.spec), (154, ny.spec), (159, jf.spec), (160, jo.spec)], globs := GLO.gx, hints := [(21, ⟨[4, 6, 10, 130], [], [6], [], some (120, [1, 2, 4]), [], []⟩), (10, ⟨[3, 4, 6, 7, 10, 38, 39], [], [6], [], none, [], []⟩), (4, ⟨[2, 3, 4, 6, 7, 8, 19], [], [6], [], none, [], []⟩)], loops := [(4, L4), (10, L10), (21, L21)], inl := [] } : Ctx)
theorem ajq (K) (next) (x) : kg D (dh Tryz.f153 4) K next (S4 x) = P.br1 x (fun x => next (S4 x)) (E4 K) := by kernel_rfl
theorem arb : ji D (dh Tryz.f153 4) := fu S4 ar7 (by kernel_rfl) P.b68 ajq
theorem auc (K) (next) (x) : kg D (dh Tryz.f153 10) K next (S10 x) = P.bu3 x (fun x => next (S10 x)) (E10 K) := by kernel_rfl
theorem bct : ji D (dh Tryz.f153 10) := fu S10 bcj (by kernel_rfl) P.b6z auc
theorem ber (K) (next) (x) : kg D (dh Tryz.f153 21) K next (S21 x) = P.bv8 x (fun x => next (S21 x)) (E21 K) := by kernel_rfl
theorem bku : ji D (dh Tryz.f153 21) := fu S21 biw (by kernel_rfl) P.b7g ber
theorem loops : cu (Tryz.f153.body.getD .skip) = [dh Tryz.f153 4, dh Tryz.f153 10, dh Tryz.f153 21] := by kernel_rfl
noncomputable def ay : Abs.Spec := fun args K => match args with
 | [.agg [.v (.int .i64 f), .v (.int .i64 e), .arr .i64 3 a, .arr .i64 3 b, .arr .i64 3 c, .arr .i64 3 d, .fn (.func 154) [] []], .arr .u32 8 g, .sl (.ints .u8 h)] => P.ku f e a b c d g h (fun i => K (.arr .u32 8 i))
 | _ => none
noncomputable def spec : Abs.Spec := fun args K => ay (ou [.any, .any, .sl (.ints .u8 [])] args) K
theorem ok0 : Proved Tryz.prog GLO.gx 153 ay := by
 refine bq (D := D) (fn := Tryz.f153) (c := Tryz.f153.body.getD .skip) [.any] (by kernel_rfl) (au (by kernel_rfl)) (by kernel_rfl) (by kernel_rfl) (by kernel_rfl) ⟨u6.ok, ny.ok, jf.ok, jo.ok, trivial⟩ trivial ?_ ?_
 · rw [loops]; exact ⟨arb, bct, bku, trivial⟩
 · intro args K r h
   unfold ay at h
   split at h
   · rw [P.ac0] at h; exact Eq.trans (by kernel_rfl) h
   · cases h
theorem ok : Proved Tryz.prog GLO.gx 153 spec := d9 _ ok0
end ku

namespace ow
abbrev X3 := P.btq
def S3 : X3 → ASt := fun (l, j, k, a, b, c, d, e, f, g, h, i) => ⟨[(2, .sl (.ints .u8 l)), (3, .ptr 0 0), (4, .ptr 1 0), (6, .ptr 2 0), (8, .ptr 3 0), (14, .arr .u64 8 j), (15, .v (.int .i64 k))], [(0, some ⟨.box 159 [.v (.int .i64 a), .v (.int .i64 b), .arr .i64 3 c, .arr .i64 3 d, .arr .i64 3 e, .arr .i64 3 f, .fn (.func 154) [] []], false⟩), (1, some ⟨.box 115 [.arr .u64 8 g], false⟩), (2, some ⟨.box 115 [.arr .u64 8 h], false⟩), (3, some ⟨.box 173 [.arr .u32 8 i], false⟩)], 4, 52⟩
def V3 : ASt → Option X3
 | ⟨[(2, .sl (.ints .u8 l)), (3, .ptr 0 0), (4, .ptr 1 0), (6, .ptr 2 0), (8, .ptr 3 0), (14, .arr .u64 8 j), (15, .v (.int .i64 k))], [(0, some ⟨.box 159 [.v (.int .i64 a), .v (.int .i64 b), .arr .i64 3 c, .arr .i64 3 d, .arr .i64 3 e, .arr .i64 3 f, .fn (.func 154) [] []], false⟩), (1, some ⟨.box 115 [.arr .u64 8 g], false⟩), (2, some ⟨.box 115 [.arr .u64 8 h], false⟩), (3, some ⟨.box 173 [.arr .u32 8 i], false⟩)], 4, 52⟩ => some (l, j, k, a, b, c, d, e, f, g, h, i)
 | _ => none
theorem akt (st) (x) (h : V3 st = some x) : st = S3 x := by
 unfold V3 at h
 split at h
 · cases h; rfl
 · cases h
abbrev Y3 := P.b38
abbrev X8 := P.bs5
def S8 : X8 → ASt := fun (k, j, a, b, c, d, e, f, g, h, i) => ⟨[(2, .sl (.ints .u8 k)), (3, .ptr 0 0), (4, .ptr 1 0), (6, .ptr 2 0), (8, .ptr 3 0), (11, .v (.int .i64 j))], [(3, some ⟨.box 173 [.arr .u32 8 a], false⟩), (2, some ⟨.box 115 [.arr .u64 8 b], false⟩), (1, some ⟨.box 115 [.arr .u64 8 c], false⟩), (0, some ⟨.box 159 [.v (.int .i64 d), .v (.int .i64 e), .arr .i64 3 f, .arr .i64 3 g, .arr .i64 3 h, .arr .i64 3 i, .fn (.func 154) [] []], false⟩)], 4, 52⟩
def V8 : ASt → Option X8
 | ⟨[(2, .sl (.ints .u8 k)), (3, .ptr 0 0), (4, .ptr 1 0), (6, .ptr 2 0), (8, .ptr 3 0), (11, .v (.int .i64 j))], [(3, some ⟨.box 173 [.arr .u32 8 a], false⟩), (2, some ⟨.box 115 [.arr .u64 8 b], false⟩), (1, some ⟨.box 115 [.arr .u64 8 c], false⟩), (0, some ⟨.box 159 [.v (.int .i64 d), .v (.int .i64 e), .arr .i64 3 f, .arr .i64 3 g, .arr .i64 3 h, .arr .i64 3 i, .fn (.func 154) [] []], false⟩)], 4, 52⟩ => some (k, j, a, b, c, d, e, f, g, h, i)
 | _ => none
theorem bd5 (st) (x) (h : V8 st = some x) : st = S8 x := by
 unfold V8 at h
 split at h
 · cases h; rfl
 · cases h
abbrev Y8 := P.b0e
abbrev X12 := P.bwu
def S12 : X12 → ASt := fun (e, c, d, a, b) => ⟨[(2, .sl (.ints .u8 e)), (4, .ptr 1 0), (6, .ptr 2 0), (40, .arr .u32 8 c), (41, .v (.int .i64 d))], [(1, some ⟨.box 115 [.arr .u64 8 a], false⟩), (2, some ⟨.box 115 [.arr .u64 8 b], false⟩)], 120, 52⟩
def V12 : ASt → Option X12
 | ⟨[(2, .sl (.ints .u8 e)), (4, .ptr 1 0), (6, .ptr 2 0), (40, .arr .u32 8 c), (41, .v (.int .i64 d))], [(1, some ⟨.box 115 [.arr .u64 8 a], false⟩), (2, some ⟨.box 115 [.arr .u64 8 b], false⟩)], 120, 52⟩ => some (e, c, d, a, b)
 | _ => none
theorem au6 (st) (x) (h : V12 st = some x) : st = S12 x := by
 unfold V12 at h
 split at h
 · cases h; rfl
 · cases h
abbrev Y12 := P.b0o
def E3 (K : AExit → ASt → Option R) : Y3 → Option R := (fun x => K (.exit 0) (S3 x))
noncomputable def L3 : qc := fun st K => ac6 (V3 st) fun x => P.b2n x (E3 K)
def E8 (K : AExit → ASt → Option R) : Y8 → Option R := (fun x => K (.exit 2) (S8 x))
noncomputable def L8 : qc := fun st K => ac6 (V8 st) fun x => P.bzu x (E8 K)
def E12 (K : AExit → ASt → Option R) : Y12 → Option R := (fun x => K (.exit 4) (S12 x))
noncomputable def L12 : qc := fun st K => ac6 (V12 st) fun x => P.b4i x (E12 K)
noncomputable def D : Ctx := ({ P := Tryz.prog, G := [(153, ku.spec), (154, ny.spec)], globs := GLO.gx, hints := [(12, ⟨[2, 4, 6, 40, 41], [], [6, 7], [], some (120, [1, 2]), [], []⟩), (8, ⟨[2, 3, 4, 6, 8, 11], [], [6, 7], [(2, .sl (.ints .u8 []))], none, [], []⟩), (3, ⟨[2, 3, 4, 6, 8, 14, 15], [], [6, 7], [], none, [], []⟩)], loops := [(3, L3), (8, L8), (12, L12)], inl := [] } : Ctx)
theorem ad2 (K) (next) (x) : kg D (dh Tryz.f144 3) K next (S3 x) = P.bw1 x (fun x => next (S3 x)) (E3 K) := by kernel_rfl
theorem akn : ji D (dh Tryz.f144 3) := fu S3 akt (by kernel_rfl) P.b7l ad2
theorem avk (K) (next) (x) : kg D (dh Tryz.f144 8) K next (S8 x) = P.bsn x (fun x => next (S8 x)) (E8 K) := by kernel_rfl
theorem bey : ji D (dh Tryz.f144 8) := fu S8 bd5 (by kernel_rfl) P.b6y avk
theorem ao9 (K) (next) (x) : kg D (dh Tryz.f144 12) K next (S12 x) = P.bu2 x (fun x => next (S12 x)) (E12 K) := by kernel_rfl
theorem au0 : ji D (dh Tryz.f144 12) := fu S12 au6 (by kernel_rfl) P.b67 ao9
theorem loops : cu (Tryz.f144.body.getD .skip) = [dh Tryz.f144 3, dh Tryz.f144 8, dh Tryz.f144 12] := by kernel_rfl
noncomputable def ay : Abs.Spec := fun args K => match args with
 | [.agg [.v (.int .i64 f), .v (.int .i64 e), .arr .i64 3 a, .arr .i64 3 b, .arr .i64 3 c, .arr .i64 3 d, .fn (.func 154) [] []], .arr .u64 8 g, .sl (.ints .u8 h)] => P.ow f e a b c d g h (fun i j => K (.tuple [.arr .u64 8 i, .sl (.ints .u8 j)]))
 | _ => none
noncomputable def spec : Abs.Spec := fun args K => ay (ou [.any, .any, .sl (.ints .u8 [])] args) K
theorem ok0 : Proved Tryz.prog GLO.gx 144 ay := by
 refine bq (D := D) (fn := Tryz.f144) (c := Tryz.f144.body.getD .skip) [.any, .sl (.ints .u8 [])] (by kernel_rfl) (au (by kernel_rfl)) (by kernel_rfl) (by kernel_rfl) (by kernel_rfl) ⟨ku.ok, ny.ok, trivial⟩ trivial ?_ ?_
 · rw [loops]; exact ⟨akn, bey, au0, trivial⟩
 · intro args K r h
   unfold ay at h
   split at h
   · rw [P.afw] at h; exact Eq.trans (by kernel_rfl) h
   · cases h
theorem ok : Proved Tryz.prog GLO.gx 144 spec := d9 _ ok0
end ow

namespace bf
noncomputable def D : Ctx := ({ P := Tryz.prog, G := [(156, nk.spec)], globs := GLO.gx, hints := [], loops := [], inl := [] } : Ctx)
theorem loops : cu (Tryz.f164.body.getD .skip) = [] := by kernel_rfl
noncomputable def ay : Abs.Spec := fun args K => match args with
 | [.agg [.v (.int .i64 f), .v (.int .i64 e), .arr .i64 3 a, .arr .i64 3 b, .arr .i64 3 c, .arr .i64 3 d, .fn (.func 156) [] []], .v (.int .u64 g), .v (.int .i64 h)] => P.bf f e a b c d g h (fun i => K (.v (.int .u64 i)))
 | _ => none
noncomputable def spec : Abs.Spec := ay
theorem ok0 : Proved Tryz.prog GLO.gx 164 ay := by
 refine bq (D := D) (fn := Tryz.f164) (c := Tryz.f164.body.getD .skip) [.any] (by kernel_rfl) (au (by kernel_rfl)) (by kernel_rfl) (by kernel_rfl) (by kernel_rfl) ⟨nk.ok, trivial⟩ trivial ?_ ?_
 · rw [loops]; exact trivial
 · intro args K r h
   unfold ay at h
   split at h
   · rw [P.abk] at h; exact Eq.trans (by kernel_rfl) h
   · cases h
theorem ok : Proved Tryz.prog GLO.gx 164 spec := ok0
end bf

namespace jg
noncomputable def D : Ctx := ({ P := Tryz.prog, G := [(156, nk.spec), (164, bf.spec)], globs := GLO.gx, hints := [], loops := [], inl := [] } : Ctx)
theorem loops : cu (Tryz.f161.body.getD .skip) = [] := by kernel_rfl
noncomputable def ay : Abs.Spec := fun args K => match args with
 | [.agg [.v (.int .i64 f), .v (.int .i64 e), .arr .i64 3 a, .arr .i64 3 b, .arr .i64 3 c, .arr .i64 3 d, .fn (.func 156) [] []], .v (.int .u64 g), .v (.int .i64 h)] => P.jg f e a b c d g h (fun i => K (.v (.int .u64 i)))
 | _ => none
noncomputable def spec : Abs.Spec := ay
theorem ok0 : Proved Tryz.prog GLO.gx 161 ay := by
 refine bq (D := D) (fn := Tryz.f161) (c := Tryz.f161.body.getD .skip) [.any] (by kernel_rfl) (au (by kernel_rfl)) (by kernel_rfl) (by kernel_rfl) (by kernel_rfl) ⟨nk.ok, bf.ok, trivial⟩ trivial ?_ ?_
 · rw [loops]; exact trivial
 · intro args K r h
   unfold ay at h
   split at h
   · rw [P.zy] at h; exact Eq.trans (by kernel_rfl) h
   · cases h
theorem ok : Proved Tryz.prog GLO.gx 161 spec := ok0
end jg

namespace jr
noncomputable def D : Ctx := ({ P := Tryz.prog, G := [(156, nk.spec), (164, bf.spec)], globs := GLO.gx, hints := [], loops := [], inl := [] } : Ctx)
theorem loops : cu (Tryz.f162.body.getD .skip) = [] := by kernel_rfl
noncomputable def ay : Abs.Spec := fun args K => match args with
 | [.agg [.v (.int .i64 f), .v (.int .i64 e), .arr .i64 3 a, .arr .i64 3 b, .arr .i64 3 c, .arr .i64 3 d, .fn (.func 156) [] []], .v (.int .u64 g), .v (.int .i64 h)] => P.jr f e a b c d g h (fun i => K (.v (.int .u64 i)))
 | _ => none
noncomputable def spec : Abs.Spec := ay
theorem ok0 : Proved Tryz.prog GLO.gx 162 ay := by
 refine bq (D := D) (fn := Tryz.f162) (c := Tryz.f162.body.getD .skip) [.any] (by kernel_rfl) (au (by kernel_rfl)) (by kernel_rfl) (by kernel_rfl) (by kernel_rfl) ⟨nk.ok, bf.ok, trivial⟩ trivial ?_ ?_
 · rw [loops]; exact trivial
 · intro args K r h
   unfold ay at h
   split at h
   · rw [P.aal] at h; exact Eq.trans (by kernel_rfl) h
   · cases h
theorem ok : Proved Tryz.prog GLO.gx 162 spec := ok0
end jr

namespace kr
abbrev X4 := P.bwb
def S4 : X4 → ASt := fun (k, l, j, a, b, c, d, e, f, g, h, i) => ⟨[(2, .sl (.ints .u8 k)), (3, .ptr 0 0), (4, .ptr 1 0), (6, .ptr 2 0), (7, .ptr 3 0), (8, .v (.int .i64 l)), (19, .v (.int .i64 j))], [(0, some ⟨.box 164 [.v (.int .i64 a), .v (.int .i64 b), .arr .i64 3 c, .arr .i64 3 d, .arr .i64 3 e, .arr .i64 3 f, .fn (.func 156) [] []], false⟩), (1, some ⟨.box 115 [.arr .u64 8 g], false⟩), (2, some ⟨.box 115 [.arr .u64 8 h], false⟩), (3, some ⟨.box 181 [.arr .u64 16 i], false⟩)], 4, 142⟩
def V4 : ASt → Option X4
 | ⟨[(2, .sl (.ints .u8 k)), (3, .ptr 0 0), (4, .ptr 1 0), (6, .ptr 2 0), (7, .ptr 3 0), (8, .v (.int .i64 l)), (19, .v (.int .i64 j))], [(0, some ⟨.box 164 [.v (.int .i64 a), .v (.int .i64 b), .arr .i64 3 c, .arr .i64 3 d, .arr .i64 3 e, .arr .i64 3 f, .fn (.func 156) [] []], false⟩), (1, some ⟨.box 115 [.arr .u64 8 g], false⟩), (2, some ⟨.box 115 [.arr .u64 8 h], false⟩), (3, some ⟨.box 181 [.arr .u64 16 i], false⟩)], 4, 142⟩ => some (k, l, j, a, b, c, d, e, f, g, h, i)
 | _ => none
theorem ar7 (st) (x) (h : V4 st = some x) : st = S4 x := by
 unfold V4 at h
 split at h
 · cases h; rfl
 · cases h
abbrev Y4 := P.b0n
abbrev X10 := P.bvb
def S10 : X10 → ASt := fun (k, l, a, b, c, d, e, f, g, h, i, j) => ⟨[(3, .ptr 0 0), (4, .ptr 1 0), (6, .ptr 2 0), (7, .ptr 3 0), (10, .ptr 4 0), (37, .v (.int .i64 k)), (38, .v (.int .i64 l))], [(3, some ⟨.box 181 [.arr .u64 16 a], false⟩), (2, some ⟨.box 115 [.arr .u64 8 b], false⟩), (1, some ⟨.box 115 [.arr .u64 8 c], false⟩), (0, some ⟨.box 164 [.v (.int .i64 d), .v (.int .i64 e), .arr .i64 3 f, .arr .i64 3 g, .arr .i64 3 h, .arr .i64 3 i, .fn (.func 156) [] []], false⟩), (4, some ⟨.box 115 [.arr .u64 8 j], false⟩)], 5, 142⟩
def V10 : ASt → Option X10
 | ⟨[(3, .ptr 0 0), (4, .ptr 1 0), (6, .ptr 2 0), (7, .ptr 3 0), (10, .ptr 4 0), (37, .v (.int .i64 k)), (38, .v (.int .i64 l))], [(3, some ⟨.box 181 [.arr .u64 16 a], false⟩), (2, some ⟨.box 115 [.arr .u64 8 b], false⟩), (1, some ⟨.box 115 [.arr .u64 8 c], false⟩), (0, some ⟨.box 164 [.v (.int .i64 d), .v (.int .i64 e), .arr .i64 3 f, .arr .i64 3 g, .arr .i64 3 h, .arr .i64 3 i, .fn (.func 156) [] []], false⟩), (4, some ⟨.box 115 [.arr .u64 8 j], false⟩)], 5, 142⟩ => some (k, l, a, b, c, d, e, f, g, h, i, j)
 | _ => none
theorem bcj (st) (x) (h : V10 st = some x) : st = S10 x := by
 unfold V10 at h
 split at h
 · cases h; rfl
 · cases h
abbrev Y10 := P.b3x
abbrev X21 := P.bt7
def S21 : X21 → ASt := fun (a, b, c, d) => ⟨[(4, .ptr 1 0), (6, .ptr 2 0), (10, .ptr 4 0), (129, .v (.int .i64 a))], [(1, some ⟨.box 115 [.arr .u64 8 b], false⟩), (2, some ⟨.box 115 [.arr .u64 8 c], false⟩), (4, some ⟨.box 115 [.arr .u64 8 d], false⟩)], 120, 142⟩
def V21 : ASt → Option X21
 | ⟨[(4, .ptr 1 0), (6, .ptr 2 0), (10, .ptr 4 0), (129, .v (.int .i64 a))], [(1, some ⟨.box 115 [.arr .u64 8 b], false⟩), (2, some ⟨.box 115 [.arr .u64 8 c], false⟩), (4, some ⟨.box 115 [.arr .u64 8 d], false⟩)], 120, 142⟩ => some (a, b, c, d)
 | _ => none
theorem biw (st) (x) (h : V21 st = some x) : st = S21 x := by
 unfold V21 at h
 split at h
 · cases h; rfl
 · cases h
abbrev Y21 := P.b1b
def E4 (K : AExit → ASt → Option R) : Y4 → Option R := (fun x => K (.exit 0) (S4 x))
noncomputable def L4 : qc := fun st K => ac6 (V4 st) fun x => P.b0d x (E4 K)
def E10 (K : AExit → ASt → Option R) : Y10 → Option R := (fun x => K (.exit 2) (S10 x))
noncomputable def L10 : qc := fun st K => ac6 (V10 st) fun x => P.b3y x (E10 K)
def E21 (K : AExit → ASt → Option R) : Y21 → Option R := (fun x => K (.exit 4) (S21 x))
noncomputable def L21 : qc := fun st K => ac6 (V21 st) fun x => P.bzj x (E21 K)
noncomputable def D : Ctx := ({ P := Tryz.prog, G := [(106, u6.spec), (156, nk.spec), (161, jg.spec), (162, jr.spec)], globs := GLO.gx, hints := [(21, ⟨[4, 6, 10, 129], [], [6], [], some (120, [1, 2, 4]), [], []⟩), (10, ⟨[3, 4, 6, 7, 10, 37, 38], [], [6], [], none, [], []⟩), (4, ⟨[2, 3, 4, 6, 7, 8, 19], [], [6], [], none, [], []⟩)], loops := [(4, L4), (10, L10), (21, L21)], inl := [] } : Ctx)
theorem ajq (K) (next) (x) : kg D (dh Tryz.f155 4) K next (S4 x) = P.bv5 x (fun x => next (S4 x)) (E4 K) := by kernel_rfl
theorem arb : ji D (dh Tryz.f155 4) := fu S4 ar7 (by kernel_rfl) P.b6f ajq
theorem auc (K) (next) (x) : kg D (dh Tryz.f155 10) K next (S10 x) = P.bsc x (fun x => next (S10 x)) (E10 K) := by kernel_rfl
theorem bct : ji D (dh Tryz.f155 10) := fu S10 bcj (by kernel_rfl) P.b6l auc
theorem ber (K) (next) (x) : kg D (dh Tryz.f155 21) K next (S21 x) = P.br5 x (fun x => next (S21 x)) (E21 K) := by kernel_rfl
theorem bku : ji D (dh Tryz.f155 21) := fu S21 biw (by kernel_rfl) P.b6d ber
theorem loops : cu (Tryz.f155.body.getD .skip) = [dh Tryz.f155 4, dh Tryz.f155 10, dh Tryz.f155 21] := by kernel_rfl
noncomputable def ay : Abs.Spec := fun args K => match args with
 | [.agg [.v (.int .i64 f), .v (.int .i64 e), .arr .i64 3 a, .arr .i64 3 b, .arr .i64 3 c, .arr .i64 3 d, .fn (.func 156) [] []], .arr .u64 8 g, .sl (.ints .u8 h)] => P.kr f e a b c d g h (fun i => K (.arr .u64 8 i))
 | _ => none
noncomputable def spec : Abs.Spec := fun args K => ay (ou [.any, .any, .sl (.ints .u8 [])] args) K
theorem ok0 : Proved Tryz.prog GLO.gx 155 ay := by
 refine bq (D := D) (fn := Tryz.f155) (c := Tryz.f155.body.getD .skip) [.any] (by kernel_rfl) (au (by kernel_rfl)) (by kernel_rfl) (by kernel_rfl) (by kernel_rfl) ⟨u6.ok, nk.ok, jg.ok, jr.ok, trivial⟩ trivial ?_ ?_
 · rw [loops]; exact ⟨arb, bct, bku, trivial⟩
 · intro args K r h
   unfold ay at h
   split at h
   · rw [P.acy] at h; exact Eq.trans (by kernel_rfl) h
   · cases h
theorem ok : Proved Tryz.prog GLO.gx 155 spec := d9 _ ok0
end kr

namespace o7
abbrev X3 := P.bv4
def S3 : X3 → ASt := fun (l, j, k, a, b, c, d, e, f, g, h, i) => ⟨[(2, .sl (.ints .u8 l)), (3, .ptr 0 0), (4, .ptr 1 0), (6, .ptr 2 0), (8, .ptr 3 0), (14, .arr .u64 8 j), (15, .v (.int .i64 k))], [(0, some ⟨.box 164 [.v (.int .i64 a), .v (.int .i64 b), .arr .i64 3 c, .arr .i64 3 d, .arr .i64 3 e, .arr .i64 3 f, .fn (.func 156) [] []], false⟩), (1, some ⟨.box 115 [.arr .u64 8 g], false⟩), (2, some ⟨.box 115 [.arr .u64 8 h], false⟩), (3, some ⟨.box 115 [.arr .u64 8 i], false⟩)], 4, 50⟩
def V3 : ASt → Option X3
 | ⟨[(2, .sl (.ints .u8 l)), (3, .ptr 0 0), (4, .ptr 1 0), (6, .ptr 2 0), (8, .ptr 3 0), (14, .arr .u64 8 j), (15, .v (.int .i64 k))], [(0, some ⟨.box 164 [.v (.int .i64 a), .v (.int .i64 b), .arr .i64 3 c, .arr .i64 3 d, .arr .i64 3 e, .arr .i64 3 f, .fn (.func 156) [] []], false⟩), (1, some ⟨.box 115 [.arr .u64 8 g], false⟩), (2, some ⟨.box 115 [.arr .u64 8 h], false⟩), (3, some ⟨.box 115 [.arr .u64 8 i], false⟩)], 4, 50⟩ => some (l, j, k, a, b, c, d, e, f, g, h, i)
 | _ => none
theorem akt (st) (x) (h : V3 st = some x) : st = S3 x := by
 unfold V3 at h
 split at h
 · cases h; rfl
 · cases h
abbrev Y3 := P.b2b
abbrev X8 := P.bw2
def S8 : X8 → ASt := fun (k, j, a, b, c, d, e, f, g, h, i) => ⟨[(2, .sl (.ints .u8 k)), (3, .ptr 0 0), (4, .ptr 1 0), (6, .ptr 2 0), (8, .ptr 3 0), (11, .v (.int .i64 j))], [(3, some ⟨.box 115 [.arr .u64 8 a], false⟩), (2, some ⟨.box 115 [.arr .u64 8 b], false⟩), (1, some ⟨.box 115 [.arr .u64 8 c], false⟩), (0, some ⟨.box 164 [.v (.int .i64 d), .v (.int .i64 e), .arr .i64 3 f, .arr .i64 3 g, .arr .i64 3 h, .arr .i64 3 i, .fn (.func 156) [] []], false⟩)], 4, 50⟩
def V8 : ASt → Option X8
 | ⟨[(2, .sl (.ints .u8 k)), (3, .ptr 0 0), (4, .ptr 1 0), (6, .ptr 2 0), (8, .ptr 3 0), (11, .v (.int .i64 j))], [(3, some ⟨.box 115 [.arr .u64 8 a], false⟩), (2, some ⟨.box 115 [.arr .u64 8 b], false⟩), (1, some ⟨.box 115 [.arr .u64 8 c], false⟩), (0, some ⟨.box 164 [.v (.int .i64 d), .v (.int .i64 e), .arr .i64 3 f, .arr .i64 3 g, .arr .i64 3 h, .arr .i64 3 i, .fn (.func 156) [] []], false⟩)], 4, 50⟩ => some (k, j, a, b, c, d, e, f, g, h, i)
 | _ => none
theorem bd5 (st) (x) (h : V8 st = some x) : st = S8 x := by
 unfold V8 at h
 split at h
 · cases h; rfl
 · cases h
abbrev Y8 := P.b2k
abbrev X12 := P.bwa
def S12 : X12 → ASt := fun (e, c, d, a, b) => ⟨[(2, .sl (.ints .u8 e)), (4, .ptr 1 0), (6, .ptr 2 0), (39, .arr .u64 8 c), (40, .v (.int .i64 d))], [(1, some ⟨.box 115 [.arr .u64 8 a], false⟩), (2, some ⟨.box 115 [.arr .u64 8 b], false⟩)], 120, 50⟩
def V12 : ASt → Option X12
 | ⟨[(2, .sl (.ints .u8 e)), (4, .ptr 1 0), (6, .ptr 2 0), (39, .arr .u64 8 c), (40, .v (.int .i64 d))], [(1, some ⟨.box 115 [.arr .u64 8 a], false⟩), (2, some ⟨.box 115 [.arr .u64 8 b], false⟩)], 120, 50⟩ => some (e, c, d, a, b)
 | _ => none
theorem au6 (st) (x) (h : V12 st = some x) : st = S12 x := by
 unfold V12 at h
 split at h
 · cases h; rfl
 · cases h
abbrev Y12 := P.b5r
def E3 (K : AExit → ASt → Option R) : Y3 → Option R := (fun x => K (.exit 0) (S3 x))
noncomputable def L3 : qc := fun st K => ac6 (V3 st) fun x => P.bzo x (E3 K)
def E8 (K : AExit → ASt → Option R) : Y8 → Option R := (fun x => K (.exit 2) (S8 x))
noncomputable def L8 : qc := fun st K => ac6 (V8 st) fun x => P.b41 x (E8 K)
def E12 (K : AExit → ASt → Option R) : Y12 → Option R := (fun x => K (.exit 4) (S12 x))
noncomputable def L12 : qc := fun st K => ac6 (V12 st) fun x => P.b47 x (E12 K)
noncomputable def D : Ctx := ({ P := Tryz.prog, G := [(155, kr.spec), (156, nk.spec)], globs := GLO.gx, hints := [(12, ⟨[2, 4, 6, 39, 40], [], [6, 7], [], some (120, [1, 2]), [], []⟩), (8, ⟨[2, 3, 4, 6, 8, 11], [], [6, 7], [(2, .sl (.ints .u8 []))], none, [], []⟩), (3, ⟨[2, 3, 4, 6, 8, 14, 15], [], [6, 7], [], none, [], []⟩)], loops := [(3, L3), (8, L8), (12, L12)], inl := [] } : Ctx)
theorem ad2 (K) (next) (x) : kg D (dh Tryz.f146 3) K next (S3 x) = P.buo x (fun x => next (S3 x)) (E3 K) := by kernel_rfl
theorem akn : ji D (dh Tryz.f146 3) := fu S3 akt (by kernel_rfl) P.b6o ad2
theorem avk (K) (next) (x) : kg D (dh Tryz.f146 8) K next (S8 x) = P.bsv x (fun x => next (S8 x)) (E8 K) := by kernel_rfl
theorem bey : ji D (dh Tryz.f146 8) := fu S8 bd5 (by kernel_rfl) P.b7o avk
theorem ao9 (K) (next) (x) : kg D (dh Tryz.f146 12) K next (S12 x) = P.bwq x (fun x => next (S12 x)) (E12 K) := by kernel_rfl
theorem au0 : ji D (dh Tryz.f146 12) := fu S12 au6 (by kernel_rfl) P.b5x ao9
theorem loops : cu (Tryz.f146.body.getD .skip) = [dh Tryz.f146 3, dh Tryz.f146 8, dh Tryz.f146 12] := by kernel_rfl
noncomputable def ay : Abs.Spec := fun args K => match args with
 | [.agg [.v (.int .i64 f), .v (.int .i64 e), .arr .i64 3 a, .arr .i64 3 b, .arr .i64 3 c, .arr .i64 3 d, .fn (.func 156) [] []], .arr .u64 8 g, .sl (.ints .u8 h)] => P.o7 f e a b c d g h (fun i j => K (.tuple [.arr .u64 8 i, .sl (.ints .u8 j)]))
 | _ => none
noncomputable def spec : Abs.Spec := fun args K => ay (ou [.any, .any, .sl (.ints .u8 [])] args) K
theorem ok0 : Proved Tryz.prog GLO.gx 146 ay := by
 refine bq (D := D) (fn := Tryz.f146) (c := Tryz.f146.body.getD .skip) [.any, .sl (.ints .u8 [])] (by kernel_rfl) (au (by kernel_rfl)) (by kernel_rfl) (by kernel_rfl) (by kernel_rfl) ⟨kr.ok, nk.ok, trivial⟩ trivial ?_ ?_
 · rw [loops]; exact ⟨akn, bey, au0, trivial⟩
 · intro args K r h
   unfold ay at h
   split at h
   · rw [P.afm] at h; exact Eq.trans (by kernel_rfl) h
   · cases h
theorem ok : Proved Tryz.prog GLO.gx 146 spec := d9 _ ok0
end o7

namespace oq
noncomputable def D : Ctx := { P := Tryz.prog, G := [], globs := GLO.gx, hints := [], loops := [] }
noncomputable def c : Code := Tryz.f148.body.getD .skip
noncomputable def o0 : Oper := (bgw (sq1 c)).getD 0 bf4
noncomputable def o1 : Oper := (bgw (sq1 (sq1 (sq2 c)))).getD 0 bf4
noncomputable def o2 : Oper := (bgw (sq1 (sq1 (sq2 c)))).getD 1 bf4
noncomputable def X : Code := b5o (sq2 (sq1 (sq2 c)))
noncomputable def rest : Code := sq2 (sq2 c)
noncomputable def ox : Oper := (bgw (sq1 X)).getD 0 bf4
theorem bql (a : List Int) : ad8 D rest ⟨[(0, .sl (.ints .u8 a)), (2, .v (.slice none 0 0))], [], 0, Tryz.f148.ntmps⟩ (b6s D [.fr 5 (.ints .u8 a)] Tryz.f148) = br (decide ((0 + a.length) * 1 ≤ 140737488355328)) (some (.fr 5 (.ints .u8 a))) none := by kernel_rfl
noncomputable def ay : Abs.Spec := fun args K => match args with
  | [.sl (.ints .u8 a)] => P.oq a (fun a => K (.fr 5 (.ints .u8 a)))
  | _ => none
theorem bpr : Tryz.f148.body = some (.seq (.region 0 #[o0] false) (.seq (.seq (.region 1 #[o1, o2] false) (.cond (.tmp 4) X .skip)) rest)) := by kernel_rfl
theorem ok0 : Proved Tryz.prog GLO.gx 148 ay := by
  refine ⟨⟨Tryz.f148, by kernel_rfl, by kernel_rfl, by kernel_rfl⟩, fun args K r h => ?_⟩
  unfold ay at h
  split at h
  · rename_i a
    unfold P.oq at h
    obtain ⟨hp, hK⟩ := pre_some h
    refine ⟨_, hK, bmf (D := D) (fn := Tryz.f148) (t := 26) (e := 5) trivial (au (by kernel_rfl)) trivial (by kernel_rfl) (by kernel_rfl) bpr ⟨by kernel_rfl, by kernel_rfl, by kernel_rfl⟩ ⟨by kernel_rfl, by kernel_rfl, by kernel_rfl⟩ ⟨by kernel_rfl, by kernel_rfl, by kernel_rfl⟩ (by kernel_rfl) (by decide +kernel) (by kernel_rfl) (by kernel_rfl) ⟨2, ox, by kernel_rfl, by kernel_rfl, by kernel_rfl, by kernel_rfl⟩ (by kernel_rfl) rfl rfl rfl ?_⟩
    rw [bql, av (by omega)]
  · cases h
noncomputable def spec : Abs.Spec := fun args K => ay (ou [.sl (.ints .u8 [])] args) K
theorem ok : Proved Tryz.prog GLO.gx 148 spec := d9 _ ok0
end oq

end
