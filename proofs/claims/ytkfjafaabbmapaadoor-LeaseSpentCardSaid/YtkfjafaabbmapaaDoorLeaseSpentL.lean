/-
  LeaseSpent, part 12: an interpreter of my own over abstract values, the pure functions, the walks and the plain law.
-/

import Derived.Test.YtkfjafaabbmapaaDoorLeaseSpentI
import Derived.Test.YtkfjafaabbmapaaDoorLeaseSpentH
import Derived.Test.YtkfjafaabbmapaaDoorProg
import Derived.Test.YtkfjafaabbmapaaDoorLeaseSpentJ
import Derived.KernelRfl
import Derived.Test.YtkfjafaabbmapaaDoorLeaseSpentK

section
open Go Go.Abs Go.Proofs
set_option maxRecDepth 100000
set_option maxHeartbeats 0
set_option linter.unusedVariables false

namespace qh
abbrev X3 := P.zt6
def S3 : X3 → ASt := fun (a, b, c, d) => ⟨[(3, .v (.int .u64 a)), (6, .sl (.ints .u8 b)), (7, .v (.int .i64 c)), (8, .v (.int .i64 d))], [], 0, 19⟩
def V3 : ASt → Option X3
 | ⟨[(3, .v (.int .u64 a)), (6, .sl (.ints .u8 b)), (7, .v (.int .i64 c)), (8, .v (.int .i64 d))], [], 0, 19⟩ => some (a, b, c, d)
 | _ => none
theorem al3 (st) (x) (h : V3 st = some x) : st = S3 x := by
 unfold V3 at h
 split at h
 · cases h; rfl
 · cases h
abbrev Y3 := P.zy6
def E3 (K : AExit → ASt → Option R) : Y3 → Option R := (fun x => K (.exit 0) (S3 x))
noncomputable def L3 : yc := fun st K => agy (V3 st) fun x => P.zm6 x (E3 K)
noncomputable def D : Ctx := ({ P := Tryd.prog, G := [], globs := GLO.gB, hints := [(3, ⟨[3, 6, 7, 8], [], [2], [], none, [], [], []⟩)], loops := [(3, L3)], inl := [] } : Ctx)
theorem afw (K) (next) (x) : oq D (jc Tryd.f65 3) K next (S3 x) = P.zs6 x (fun x => next (S3 x)) (E3 K) := by kernel_rfl
theorem ak4 : nk D (jc Tryd.f65 3) := jo S3 al3 (by kernel_rfl) P.ze6 afw
theorem loops : d9 (Tryd.f65.body.getD .skip) = [jc Tryd.f65 3] := by kernel_rfl
noncomputable def dn : Abs.Spec := fun args K => match args with
 | [.sl (.ints .u8 a)] => P.qh a (fun b => K (.v (.int .u64 b)))
 | _ => none
noncomputable def spec : Abs.Spec := fun args K => dn (p9 [.sl (.ints .u8 [])] args) K
theorem ok0 : Proved Tryd.prog GLO.gB 65 dn := by
 refine gq (D := D) (fn := Tryd.f65) (c := Tryd.f65.body.getD .skip) [.any] (by kernel_rfl) (bf (by kernel_rfl)) (by kernel_rfl) (by kernel_rfl) (by kernel_rfl) trivial trivial ?_ ?_
 · rw [loops]; exact ⟨ak4, trivial⟩
 · intro args K r h
   unfold dn at h
   split at h
   · rw [P.aox] at h; exact Eq.trans (by kernel_rfl) h
   · cases h
theorem ok : Proved Tryd.prog GLO.gB 65 spec := jd _ ok0
end qh

namespace aax
abbrev X5 := P.bjm
def S5 : X5 → ASt := fun (c, d, e, a, b) => ⟨[(0, .sl (.ints .u8 c)), (1, .sl (.ints .u8 d)), (5, .v (.int .u8 e)), (13, .v (.int .i64 a)), (14, .v (.int .i64 b))], [], 0, 31⟩
def V5 : ASt → Option X5
 | ⟨[(0, .sl (.ints .u8 c)), (1, .sl (.ints .u8 d)), (5, .v (.int .u8 e)), (13, .v (.int .i64 a)), (14, .v (.int .i64 b))], [], 0, 31⟩ => some (c, d, e, a, b)
 | _ => none
theorem bcg (st) (x) (h : V5 st = some x) : st = S5 x := by
 unfold V5 at h
 split at h
 · cases h; rfl
 · cases h
abbrev Y5 := P.bm2
def E5 (K : AExit → ASt → Option R) : Y5 → Option R := (fun x => K (.exit 0) (S5 x))
noncomputable def L5 : yc := fun st K => agy (V5 st) fun x => P.bmm x (E5 K)
noncomputable def D : Ctx := ({ P := Tryd.prog, G := [], globs := GLO.gB, hints := [(5, ⟨[0, 1, 5, 13, 14], [], [4], [], none, [], [], []⟩)], loops := [(5, L5)], inl := [] } : Ctx)
theorem avj (K) (next) (x) : oq D (jc Tryd.f64 5) K next (S5 x) = P.bje x (fun x => next (S5 x)) (E5 K) := by kernel_rfl
theorem bb6 : nk D (jc Tryd.f64 5) := jo S5 bcg (by kernel_rfl) P.bp5 avj
theorem loops : d9 (Tryd.f64.body.getD .skip) = [jc Tryd.f64 5] := by kernel_rfl
noncomputable def dn : Abs.Spec := fun args K => match args with
 | [.sl (.ints .u8 a), .sl (.ints .u8 b)] => P.aax a b (fun c => K (.v (.bool c)))
 | _ => none
noncomputable def spec : Abs.Spec := fun args K => dn (p9 [.sl (.ints .u8 []), .sl (.ints .u8 [])] args) K
theorem ok0 : Proved Tryd.prog GLO.gB 64 dn := by
 refine gq (D := D) (fn := Tryd.f64) (c := Tryd.f64.body.getD .skip) [.any] (by kernel_rfl) (bf (by kernel_rfl)) (by kernel_rfl) (by kernel_rfl) (by kernel_rfl) trivial trivial ?_ ?_
 · rw [loops]; exact ⟨bb6, trivial⟩
 · intro args K r h
   unfold dn at h
   split at h
   · rw [P.amr] at h; exact Eq.trans (by kernel_rfl) h
   · cases h
theorem ok : Proved Tryd.prog GLO.gB 64 spec := jd _ ok0
end aax

namespace l9
noncomputable def D : Ctx := ({ P := Tryd.prog, G := [], globs := GLO.gB, hints := [], loops := [], inl := [] } : Ctx)
theorem loops : d9 (Tryd.f87.body.getD .skip) = [] := by kernel_rfl
noncomputable def dn : Abs.Spec := fun args K => match args with
 | [.v (.int .i64 a)] => P.l9 a (fun b => K (.v (.int .u64 b)))
 | _ => none
noncomputable def spec : Abs.Spec := dn
theorem ok0 : Proved Tryd.prog GLO.gB 87 dn := by
 refine gq (D := D) (fn := Tryd.f87) (c := Tryd.f87.body.getD .skip) [.any] (by kernel_rfl) (bf (by kernel_rfl)) (by kernel_rfl) (by kernel_rfl) (by kernel_rfl) trivial trivial ?_ ?_
 · rw [loops]; exact trivial
 · intro args K r h
   unfold dn at h
   split at h
   · rw [P.aiq] at h; exact Eq.trans (by kernel_rfl) h
   · cases h
theorem ok : Proved Tryd.prog GLO.gB 87 spec := ok0
end l9

namespace aay
noncomputable def D : Ctx := ({ P := Tryd.prog, G := [(87, l9.spec)], globs := GLO.gB, hints := [], loops := [], inl := [] } : Ctx)
theorem loops : d9 (Tryd.f81.body.getD .skip) = [] := by kernel_rfl
noncomputable def dn : Abs.Spec := fun args K => match args with
 | [] => P.aay (fun f e a b c d => K (.agg [.v (.int .i64 f), .v (.int .i64 e), .arr .i64 3 a, .arr .i64 3 b, .arr .i64 3 c, .arr .i64 3 d, .fn (.func 87) [] []]))
 | _ => none
noncomputable def spec : Abs.Spec := dn
theorem ok0 : Proved Tryd.prog GLO.gB 81 dn := by
 refine gq (D := D) (fn := Tryd.f81) (c := Tryd.f81.body.getD .skip) [.any] (by kernel_rfl) (bf (by kernel_rfl)) (by kernel_rfl) (by kernel_rfl) (by kernel_rfl) ⟨l9.ok, trivial⟩ trivial ?_ ?_
 · rw [loops]; exact trivial
 · intro args K r h
   unfold dn at h
   split at h
   · rw [P.amj] at h; exact Eq.trans (by kernel_rfl) h
   · cases h
theorem ok : Proved Tryd.prog GLO.gB 81 spec := ok0
end aay

namespace l7
noncomputable def D : Ctx := ({ P := Tryd.prog, G := [], globs := GLO.gB, hints := [], loops := [], inl := [] } : Ctx)
theorem loops : d9 (Tryd.f85.body.getD .skip) = [] := by kernel_rfl
noncomputable def dn : Abs.Spec := fun args K => match args with
 | [.v (.int .i64 a)] => P.l7 a (fun b => K (.v (.int .u32 b)))
 | _ => none
noncomputable def spec : Abs.Spec := dn
theorem ok0 : Proved Tryd.prog GLO.gB 85 dn := by
 refine gq (D := D) (fn := Tryd.f85) (c := Tryd.f85.body.getD .skip) [.any] (by kernel_rfl) (bf (by kernel_rfl)) (by kernel_rfl) (by kernel_rfl) (by kernel_rfl) trivial trivial ?_ ?_
 · rw [loops]; exact trivial
 · intro args K r h
   unfold dn at h
   split at h
   · rw [P.ais] at h; exact Eq.trans (by kernel_rfl) h
   · cases h
theorem ok : Proved Tryd.prog GLO.gB 85 spec := ok0
end l7

namespace aam
noncomputable def D : Ctx := ({ P := Tryd.prog, G := [(85, l7.spec)], globs := GLO.gB, hints := [], loops := [], inl := [] } : Ctx)
theorem loops : d9 (Tryd.f79.body.getD .skip) = [] := by kernel_rfl
noncomputable def dn : Abs.Spec := fun args K => match args with
 | [] => P.aam (fun f e a b c d => K (.agg [.v (.int .i64 f), .v (.int .i64 e), .arr .i64 3 a, .arr .i64 3 b, .arr .i64 3 c, .arr .i64 3 d, .fn (.func 85) [] []]))
 | _ => none
noncomputable def spec : Abs.Spec := dn
theorem ok0 : Proved Tryd.prog GLO.gB 79 dn := by
 refine gq (D := D) (fn := Tryd.f79) (c := Tryd.f79.body.getD .skip) [.any] (by kernel_rfl) (bf (by kernel_rfl)) (by kernel_rfl) (by kernel_rfl) (by kernel_rfl) ⟨l7.ok, trivial⟩ trivial ?_ ?_
 · rw [loops]; exact trivial
 · intro args K r h
   unfold dn at h
   split at h
   · rw [P.ami] at h; exact Eq.trans (by kernel_rfl) h
   · cases h
theorem ok : Proved Tryd.prog GLO.gB 79 spec := ok0
end aam

namespace bn
noncomputable def D : Ctx := ({ P := Tryd.prog, G := [(85, l7.spec)], globs := GLO.gB, hints := [], loops := [], inl := [] } : Ctx)
theorem loops : d9 (Tryd.f97.body.getD .skip) = [] := by kernel_rfl
noncomputable def dn : Abs.Spec := fun args K => match args with
 | [.agg [.v (.int .i64 f), .v (.int .i64 e), .arr .i64 3 a, .arr .i64 3 b, .arr .i64 3 c, .arr .i64 3 d, .fn (.func 85) [] []], .v (.int .u32 g), .v (.int .i64 h)] => P.bn f e a b c d g h (fun i => K (.v (.int .u32 i)))
 | _ => none
noncomputable def spec : Abs.Spec := dn
theorem ok0 : Proved Tryd.prog GLO.gB 97 dn := by
 refine gq (D := D) (fn := Tryd.f97) (c := Tryd.f97.body.getD .skip) [.any] (by kernel_rfl) (bf (by kernel_rfl)) (by kernel_rfl) (by kernel_rfl) (by kernel_rfl) ⟨l7.ok, trivial⟩ trivial ?_ ?_
 · rw [loops]; exact trivial
 · intro args K r h
   unfold dn at h
   split at h
   · rw [P.zx] at h; exact Eq.trans (by kernel_rfl) h
   · cases h
theorem ok : Proved Tryd.prog GLO.gB 97 spec := ok0
end bn

namespace jk
noncomputable def D : Ctx := ({ P := Tryd.prog, G := [(85, l7.spec), (97, bn.spec)], globs := GLO.gB, hints := [], loops := [], inl := [] } : Ctx)
theorem loops : d9 (Tryd.f92.body.getD .skip) = [] := by kernel_rfl
noncomputable def dn : Abs.Spec := fun args K => match args with
 | [.agg [.v (.int .i64 f), .v (.int .i64 e), .arr .i64 3 a, .arr .i64 3 b, .arr .i64 3 c, .arr .i64 3 d, .fn (.func 85) [] []], .v (.int .u32 g), .v (.int .i64 h)] => P.jk f e a b c d g h (fun i => K (.v (.int .u32 i)))
 | _ => none
noncomputable def spec : Abs.Spec := dn
theorem ok0 : Proved Tryd.prog GLO.gB 92 dn := by
 refine gq (D := D) (fn := Tryd.f92) (c := Tryd.f92.body.getD .skip) [.any] (by kernel_rfl) (bf (by kernel_rfl)) (by kernel_rfl) (by kernel_rfl) (by kernel_rfl) ⟨l7.ok, bn.ok, trivial⟩ trivial ?_ ?_
 · rw [loops]; exact trivial
 · intro args K r h
   unfold dn at h
   split at h
   · rw [P.wm] at h; exact Eq.trans (by kernel_rfl) h
   · cases h
theorem ok : Proved Tryd.prog GLO.gB 92 spec := ok0
end jk

namespace jr
noncomputable def D : Ctx := ({ P := Tryd.prog, G := [(85, l7.spec), (97, bn.spec)], globs := GLO.gB, hints := [], loops := [], inl := [] } : Ctx)
theorem loops : d9 (Tryd.f93.body.getD .skip) = [] := by kernel_rfl
noncomputable def dn : Abs.Spec := fun args K => match args with
 | [.agg [.v (.int .i64 f), .v (.int .i64 e), .arr .i64 3 a, .arr .i64 3 b, .arr .i64 3 c, .arr .i64 3 d, .fn (.func 85) [] []], .v (.int .u32 g), .v (.int .i64 h)] => P.jr f e a b c d g h (fun i => K (.v (.int .u32 i)))
 | _ => none
noncomputable def spec : Abs.Spec := dn
theorem ok0 : Proved Tryd.prog GLO.gB 93 dn := by
 refine gq (D := D) (fn := Tryd.f93) (c := Tryd.f93.body.getD .skip) [.any] (by kernel_rfl) (bf (by kernel_rfl)) (by kernel_rfl) (by kernel_rfl) (by kernel_rfl) ⟨l7.ok, bn.ok, trivial⟩ trivial ?_ ?_
 · rw [loops]; exact trivial
 · intro args K r h
   unfold dn at h
   split at h
   · rw [P.w9] at h; exact Eq.trans (by kernel_rfl) h
   · cases h
theorem ok : Proved Tryd.prog GLO.gB 93 spec := ok0
end jr

namespace j5
abbrev X4 := P.zt7
def S4 : X4 → ASt := fun (k, l, j, a, b, c, d, e, f, g, h, i) => ⟨[(2, .sl (.ints .u8 k)), (3, .ptr 0 0), (4, .ptr 1 0), (6, .ptr 2 0), (7, .ptr 3 0), (8, .v (.int .i64 l)), (19, .v (.int .i64 j))], [(0, some ⟨.box 133 [.v (.int .i64 a), .v (.int .i64 b), .arr .i64 3 c, .arr .i64 3 d, .arr .i64 3 e, .arr .i64 3 f, .fn (.func 85) [] []], false⟩), (1, some ⟨.box 141 [.arr .u32 8 g], false⟩), (2, some ⟨.box 141 [.arr .u32 8 h], false⟩), (3, some ⟨.box 150 [.arr .u32 16 i], false⟩)], 4, 143⟩
def V4 : ASt → Option X4
 | ⟨[(2, .sl (.ints .u8 k)), (3, .ptr 0 0), (4, .ptr 1 0), (6, .ptr 2 0), (7, .ptr 3 0), (8, .v (.int .i64 l)), (19, .v (.int .i64 j))], [(0, some ⟨.box 133 [.v (.int .i64 a), .v (.int .i64 b), .arr .i64 3 c, .arr .i64 3 d, .arr .i64 3 e, .arr .i64 3 f, .fn (.func 85) [] []], false⟩), (1, some ⟨.box 141 [.arr .u32 8 g], false⟩), (2, some ⟨.box 141 [.arr .u32 8 h], false⟩), (3, some ⟨.box 150 [.arr .u32 16 i], false⟩)], 4, 143⟩ => some (k, l, j, a, b, c, d, e, f, g, h, i)
 | _ => none
theorem ape (st) (x) (h : V4 st = some x) : st = S4 x := by
 unfold V4 at h
 split at h
 · cases h; rfl
 · cases h
abbrev Y4 := P.zy7
abbrev X10 := P.zt8
def S10 : X10 → ASt := fun (k, l, a, b, c, d, e, f, g, h, i, j) => ⟨[(3, .ptr 0 0), (4, .ptr 1 0), (6, .ptr 2 0), (7, .ptr 3 0), (10, .ptr 4 0), (38, .v (.int .i64 k)), (39, .v (.int .i64 l))], [(3, some ⟨.box 150 [.arr .u32 16 a], false⟩), (2, some ⟨.box 141 [.arr .u32 8 b], false⟩), (1, some ⟨.box 141 [.arr .u32 8 c], false⟩), (0, some ⟨.box 133 [.v (.int .i64 d), .v (.int .i64 e), .arr .i64 3 f, .arr .i64 3 g, .arr .i64 3 h, .arr .i64 3 i, .fn (.func 85) [] []], false⟩), (4, some ⟨.box 141 [.arr .u32 8 j], false⟩)], 5, 143⟩
def V10 : ASt → Option X10
 | ⟨[(3, .ptr 0 0), (4, .ptr 1 0), (6, .ptr 2 0), (7, .ptr 3 0), (10, .ptr 4 0), (38, .v (.int .i64 k)), (39, .v (.int .i64 l))], [(3, some ⟨.box 150 [.arr .u32 16 a], false⟩), (2, some ⟨.box 141 [.arr .u32 8 b], false⟩), (1, some ⟨.box 141 [.arr .u32 8 c], false⟩), (0, some ⟨.box 133 [.v (.int .i64 d), .v (.int .i64 e), .arr .i64 3 f, .arr .i64 3 g, .arr .i64 3 h, .arr .i64 3 i, .fn (.func 85) [] []], false⟩), (4, some ⟨.box 141 [.arr .u32 8 j], false⟩)], 5, 143⟩ => some (k, l, a, b, c, d, e, f, g, h, i, j)
 | _ => none
theorem au6 (st) (x) (h : V10 st = some x) : st = S10 x := by
 unfold V10 at h
 split at h
 · cases h; rfl
 · cases h
abbrev Y10 := P.zy8
abbrev X21 := P.zt9
def S21 : X21 → ASt := fun (a, b, c, d) => ⟨[(4, .ptr 1 0), (6, .ptr 2 0), (10, .ptr 4 0), (130, .v (.int .i64 a))], [(1, some ⟨.box 141 [.arr .u32 8 b], false⟩), (2, some ⟨.box 141 [.arr .u32 8 c], false⟩), (4, some ⟨.box 141 [.arr .u32 8 d], false⟩)], 120, 143⟩
def V21 : ASt → Option X21
 | ⟨[(4, .ptr 1 0), (6, .ptr 2 0), (10, .ptr 4 0), (130, .v (.int .i64 a))], [(1, some ⟨.box 141 [.arr .u32 8 b], false⟩), (2, some ⟨.box 141 [.arr .u32 8 c], false⟩), (4, some ⟨.box 141 [.arr .u32 8 d], false⟩)], 120, 143⟩ => some (a, b, c, d)
 | _ => none
theorem az0 (st) (x) (h : V21 st = some x) : st = S21 x := by
 unfold V21 at h
 split at h
 · cases h; rfl
 · cases h
abbrev Y21 := P.zy9
def E4 (K : AExit → ASt → Option R) : Y4 → Option R := (fun x => K (.exit 0) (S4 x))
noncomputable def L4 : yc := fun st K => agy (V4 st) fun x => P.zm7 x (E4 K)
def E10 (K : AExit → ASt → Option R) : Y10 → Option R := (fun x => K (.exit 2) (S10 x))
noncomputable def L10 : yc := fun st K => agy (V10 st) fun x => P.zm8 x (E10 K)
def E21 (K : AExit → ASt → Option R) : Y21 → Option R := (fun x => K (.exit 4) (S21 x))
noncomputable def L21 : yc := fun st K => agy (V21 st) fun x => P.zm9 x (E21 K)
noncomputable def D : Ctx := ({ P := Tryd.prog, G := [(65, qh.spec), (85, l7.spec), (92, jk.spec), (93, jr.spec)], globs := GLO.gB, hints := [(21, ⟨[4, 6, 10, 130], [], [6], [], some (120, [1, 2, 4]), [], [], []⟩), (10, ⟨[3, 4, 6, 7, 10, 38, 39], [], [6], [], none, [], [], []⟩), (4, ⟨[2, 3, 4, 6, 7, 8, 19], [], [6], [], none, [], [], []⟩)], loops := [(4, L4), (10, L10), (21, L21)], inl := [] } : Ctx)
theorem ahu (K) (next) (x) : oq D (jc Tryd.f84 4) K next (S4 x) = P.zs7 x (fun x => next (S4 x)) (E4 K) := by kernel_rfl
theorem an8 : nk D (jc Tryd.f84 4) := jo S4 ape (by kernel_rfl) P.ze7 ahu
theorem aoo (K) (next) (x) : oq D (jc Tryd.f84 10) K next (S10 x) = P.zs8 x (fun x => next (S10 x)) (E10 K) := by kernel_rfl
theorem aty : nk D (jc Tryd.f84 10) := jo S10 au6 (by kernel_rfl) P.ze8 aoo
theorem av6 (K) (next) (x) : oq D (jc Tryd.f84 21) K next (S21 x) = P.zs9 x (fun x => next (S21 x)) (E21 K) := by kernel_rfl
theorem bas : nk D (jc Tryd.f84 21) := jo S21 az0 (by kernel_rfl) P.ze9 av6
theorem loops : d9 (Tryd.f84.body.getD .skip) = [jc Tryd.f84 4, jc Tryd.f84 10, jc Tryd.f84 21] := by kernel_rfl
noncomputable def dn : Abs.Spec := fun args K => match args with
 | [.agg [.v (.int .i64 f), .v (.int .i64 e), .arr .i64 3 a, .arr .i64 3 b, .arr .i64 3 c, .arr .i64 3 d, .fn (.func 85) [] []], .arr .u32 8 g, .sl (.ints .u8 h)] => P.j5 f e a b c d g h (fun i => K (.arr .u32 8 i))
 | _ => none
noncomputable def spec : Abs.Spec := fun args K => dn (p9 [.any, .any, .sl (.ints .u8 [])] args) K
theorem ok0 : Proved Tryd.prog GLO.gB 84 dn := by
 refine gq (D := D) (fn := Tryd.f84) (c := Tryd.f84.body.getD .skip) [.any] (by kernel_rfl) (bf (by kernel_rfl)) (by kernel_rfl) (by kernel_rfl) (by kernel_rfl) ⟨qh.ok, l7.ok, jk.ok, jr.ok, trivial⟩ trivial ?_ ?_
 · rw [loops]; exact ⟨an8, aty, bas, trivial⟩
 · intro args K r h
   unfold dn at h
   split at h
   · rw [P.abb] at h; exact Eq.trans (by kernel_rfl) h
   · cases h
theorem ok : Proved Tryd.prog GLO.gB 84 spec := jd _ ok0
end j5

namespace mq
abbrev X3 := P.bhx
def S3 : X3 → ASt := fun (l, j, k, a, b, c, d, e, f, g, h, i) => ⟨[(2, .sl (.ints .u8 l)), (3, .ptr 0 0), (4, .ptr 1 0), (6, .ptr 2 0), (8, .ptr 3 0), (14, .arr .u64 8 j), (15, .v (.int .i64 k))], [(0, some ⟨.box 133 [.v (.int .i64 a), .v (.int .i64 b), .arr .i64 3 c, .arr .i64 3 d, .arr .i64 3 e, .arr .i64 3 f, .fn (.func 85) [] []], false⟩), (1, some ⟨.box 111 [.arr .u64 8 g], false⟩), (2, some ⟨.box 111 [.arr .u64 8 h], false⟩), (3, some ⟨.box 141 [.arr .u32 8 i], false⟩)], 4, 52⟩
def V3 : ASt → Option X3
 | ⟨[(2, .sl (.ints .u8 l)), (3, .ptr 0 0), (4, .ptr 1 0), (6, .ptr 2 0), (8, .ptr 3 0), (14, .arr .u64 8 j), (15, .v (.int .i64 k))], [(0, some ⟨.box 133 [.v (.int .i64 a), .v (.int .i64 b), .arr .i64 3 c, .arr .i64 3 d, .arr .i64 3 e, .arr .i64 3 f, .fn (.func 85) [] []], false⟩), (1, some ⟨.box 111 [.arr .u64 8 g], false⟩), (2, some ⟨.box 111 [.arr .u64 8 h], false⟩), (3, some ⟨.box 141 [.arr .u32 8 i], false⟩)], 4, 52⟩ => some (l, j, k, a, b, c, d, e, f, g, h, i)
 | _ => none
theorem al3 (st) (x) (h : V3 st = some x) : st = S3 x := by
 unfold V3 at h
 split at h
 · cases h; rfl
 · cases h
abbrev Y3 := P.bnj
abbrev X8 := P.bii
def S8 : X8 → ASt := fun (k, j, a, b, c, d, e, f, g, h, i) => ⟨[(2, .sl (.ints .u8 k)), (3, .ptr 0 0), (4, .ptr 1 0), (6, .ptr 2 0), (8, .ptr 3 0), (11, .v (.int .i64 j))], [(3, some ⟨.box 141 [.arr .u32 8 a], false⟩), (2, some ⟨.box 111 [.arr .u64 8 b], false⟩), (1, some ⟨.box 111 [.arr .u64 8 c], false⟩), (0, some ⟨.box 133 [.v (.int .i64 d), .v (.int .i64 e), .arr .i64 3 f, .arr .i64 3 g, .arr .i64 3 h, .arr .i64 3 i, .fn (.func 85) [] []], false⟩)], 4, 52⟩
def V8 : ASt → Option X8
 | ⟨[(2, .sl (.ints .u8 k)), (3, .ptr 0 0), (4, .ptr 1 0), (6, .ptr 2 0), (8, .ptr 3 0), (11, .v (.int .i64 j))], [(3, some ⟨.box 141 [.arr .u32 8 a], false⟩), (2, some ⟨.box 111 [.arr .u64 8 b], false⟩), (1, some ⟨.box 111 [.arr .u64 8 c], false⟩), (0, some ⟨.box 133 [.v (.int .i64 d), .v (.int .i64 e), .arr .i64 3 f, .arr .i64 3 g, .arr .i64 3 h, .arr .i64 3 i, .fn (.func 85) [] []], false⟩)], 4, 52⟩ => some (k, j, a, b, c, d, e, f, g, h, i)
 | _ => none
theorem aw1 (st) (x) (h : V8 st = some x) : st = S8 x := by
 unfold V8 at h
 split at h
 · cases h; rfl
 · cases h
abbrev Y8 := P.bod
abbrev X12 := P.bh3
def S12 : X12 → ASt := fun (e, c, d, a, b) => ⟨[(2, .sl (.ints .u8 e)), (4, .ptr 1 0), (6, .ptr 2 0), (40, .arr .u32 8 c), (41, .v (.int .i64 d))], [(1, some ⟨.box 111 [.arr .u64 8 a], false⟩), (2, some ⟨.box 111 [.arr .u64 8 b], false⟩)], 120, 52⟩
def V12 : ASt → Option X12
 | ⟨[(2, .sl (.ints .u8 e)), (4, .ptr 1 0), (6, .ptr 2 0), (40, .arr .u32 8 c), (41, .v (.int .i64 d))], [(1, some ⟨.box 111 [.arr .u64 8 a], false⟩), (2, some ⟨.box 111 [.arr .u64 8 b], false⟩)], 120, 52⟩ => some (e, c, d, a, b)
 | _ => none
theorem bbq (st) (x) (h : V12 st = some x) : st = S12 x := by
 unfold V12 at h
 split at h
 · cases h; rfl
 · cases h
abbrev Y12 := P.bnx
def E3 (K : AExit → ASt → Option R) : Y3 → Option R := (fun x => K (.exit 0) (S3 x))
noncomputable def L3 : yc := fun st K => agy (V3 st) fun x => P.bnf x (E3 K)
def E8 (K : AExit → ASt → Option R) : Y8 → Option R := (fun x => K (.exit 2) (S8 x))
noncomputable def L8 : yc := fun st K => agy (V8 st) fun x => P.boy x (E8 K)
def E12 (K : AExit → ASt → Option R) : Y12 → Option R := (fun x => K (.exit 4) (S12 x))
noncomputable def L12 : yc := fun st K => agy (V12 st) fun x => P.bl3 x (E12 K)
noncomputable def D : Ctx := ({ P := Tryd.prog, G := [(84, j5.spec), (85, l7.spec)], globs := GLO.gB, hints := [(12, ⟨[2, 4, 6, 40, 41], [], [6, 7], [], some (120, [1, 2]), [], [], []⟩), (8, ⟨[2, 3, 4, 6, 8, 11], [], [6, 7], [(2, .sl (.ints .u8 []))], none, [], [], []⟩), (3, ⟨[2, 3, 4, 6, 8, 14, 15], [], [6, 7], [], none, [], [], []⟩)], loops := [(3, L3), (8, L8), (12, L12)], inl := [] } : Ctx)
theorem afw (K) (next) (x) : oq D (jc Tryd.f78 3) K next (S3 x) = P.bjr x (fun x => next (S3 x)) (E3 K) := by kernel_rfl
theorem ak4 : nk D (jc Tryd.f78 3) := jo S3 al3 (by kernel_rfl) P.bqn afw
theorem apb (K) (next) (x) : oq D (jc Tryd.f78 8) K next (S8 x) = P.bh6 x (fun x => next (S8 x)) (E8 K) := by kernel_rfl
theorem av5 : nk D (jc Tryd.f78 8) := jo S8 aw1 (by kernel_rfl) P.bp6 apb
theorem awm (K) (next) (x) : oq D (jc Tryd.f78 12) K next (S12 x) = P.zs12 x (fun x => next (S12 x)) (E12 K) := by kernel_rfl
theorem az6 : nk D (jc Tryd.f78 12) := jo S12 bbq (by kernel_rfl) P.bqv awm
theorem loops : d9 (Tryd.f78.body.getD .skip) = [jc Tryd.f78 3, jc Tryd.f78 8, jc Tryd.f78 12] := by kernel_rfl
noncomputable def dn : Abs.Spec := fun args K => match args with
 | [.agg [.v (.int .i64 f), .v (.int .i64 e), .arr .i64 3 a, .arr .i64 3 b, .arr .i64 3 c, .arr .i64 3 d, .fn (.func 85) [] []], .arr .u64 8 g, .sl (.ints .u8 h)] => P.mq f e a b c d g h (fun i j => K (.tuple [.arr .u64 8 i, .sl (.ints .u8 j)]))
 | _ => none
noncomputable def spec : Abs.Spec := fun args K => dn (p9 [.any, .any, .sl (.ints .u8 [])] args) K
theorem ok0 : Proved Tryd.prog GLO.gB 78 dn := by
 refine gq (D := D) (fn := Tryd.f78) (c := Tryd.f78.body.getD .skip) [.any, .sl (.ints .u8 [])] (by kernel_rfl) (bf (by kernel_rfl)) (by kernel_rfl) (by kernel_rfl) (by kernel_rfl) ⟨j5.ok, l7.ok, trivial⟩ trivial ?_ ?_
 · rw [loops]; exact ⟨ak4, av5, az6, trivial⟩
 · intro args K r h
   unfold dn at h
   split at h
   · rw [P.adl] at h; exact Eq.trans (by kernel_rfl) h
   · cases h
theorem ok : Proved Tryd.prog GLO.gB 78 spec := jd _ ok0
end mq

namespace cu
noncomputable def D : Ctx := ({ P := Tryd.prog, G := [(87, l9.spec)], globs := GLO.gB, hints := [], loops := [], inl := [] } : Ctx)
theorem loops : d9 (Tryd.f98.body.getD .skip) = [] := by kernel_rfl
noncomputable def dn : Abs.Spec := fun args K => match args with
 | [.agg [.v (.int .i64 f), .v (.int .i64 e), .arr .i64 3 a, .arr .i64 3 b, .arr .i64 3 c, .arr .i64 3 d, .fn (.func 87) [] []], .v (.int .u64 g), .v (.int .i64 h)] => P.cu f e a b c d g h (fun i => K (.v (.int .u64 i)))
 | _ => none
noncomputable def spec : Abs.Spec := dn
theorem ok0 : Proved Tryd.prog GLO.gB 98 dn := by
 refine gq (D := D) (fn := Tryd.f98) (c := Tryd.f98.body.getD .skip) [.any] (by kernel_rfl) (bf (by kernel_rfl)) (by kernel_rfl) (by kernel_rfl) (by kernel_rfl) ⟨l9.ok, trivial⟩ trivial ?_ ?_
 · rw [loops]; exact trivial
 · intro args K r h
   unfold dn at h
   split at h
   · rw [P.zw] at h; exact Eq.trans (by kernel_rfl) h
   · cases h
theorem ok : Proved Tryd.prog GLO.gB 98 spec := ok0
end cu

namespace ji
noncomputable def D : Ctx := ({ P := Tryd.prog, G := [(87, l9.spec), (98, cu.spec)], globs := GLO.gB, hints := [], loops := [], inl := [] } : Ctx)
theorem loops : d9 (Tryd.f94.body.getD .skip) = [] := by kernel_rfl
noncomputable def dn : Abs.Spec := fun args K => match args with
 | [.agg [.v (.int .i64 f), .v (.int .i64 e), .arr .i64 3 a, .arr .i64 3 b, .arr .i64 3 c, .arr .i64 3 d, .fn (.func 87) [] []], .v (.int .u64 g), .v (.int .i64 h)] => P.ji f e a b c d g h (fun i => K (.v (.int .u64 i)))
 | _ => none
noncomputable def spec : Abs.Spec := dn
theorem ok0 : Proved Tryd.prog GLO.gB 94 dn := by
 refine gq (D := D) (fn := Tryd.f94) (c := Tryd.f94.body.getD .skip) [.any] (by kernel_rfl) (bf (by kernel_rfl)) (by kernel_rfl) (by kernel_rfl) (by kernel_rfl) ⟨l9.ok, cu.ok, trivial⟩ trivial ?_ ?_
 · rw [loops]; exact trivial
 · intro args K r h
   unfold dn at h
   split at h
   · rw [P.wh] at h; exact Eq.trans (by kernel_rfl) h
   · cases h
theorem ok : Proved Tryd.prog GLO.gB 94 spec := ok0
end ji

namespace jq
noncomputable def D : Ctx := ({ P := Tryd.prog, G := [(87, l9.spec), (98, cu.spec)], globs := GLO.gB, hints := [], loops := [], inl := [] } : Ctx)
theorem loops : d9 (Tryd.f95.body.getD .skip) = [] := by kernel_rfl
noncomputable def dn : Abs.Spec := fun args K => match args with
 | [.agg [.v (.int .i64 f), .v (.int .i64 e), .arr .i64 3 a, .arr .i64 3 b, .arr .i64 3 c, .arr .i64 3 d, .fn (.func 87) [] []], .v (.int .u64 g), .v (.int .i64 h)] => P.jq f e a b c d g h (fun i => K (.v (.int .u64 i)))
 | _ => none
noncomputable def spec : Abs.Spec := dn
theorem ok0 : Proved Tryd.prog GLO.gB 95 dn := by
 refine gq (D := D) (fn := Tryd.f95) (c := Tryd.f95.body.getD .skip) [.any] (by kernel_rfl) (bf (by kernel_rfl)) (by kernel_rfl) (by kernel_rfl) (by kernel_rfl) ⟨l9.ok, cu.ok, trivial⟩ trivial ?_ ?_
 · rw [loops]; exact trivial
 · intro args K r h
   unfold dn at h
   split at h
   · rw [P.xq] at h; exact Eq.trans (by kernel_rfl) h
   · cases h
theorem ok : Proved Tryd.prog GLO.gB 95 spec := ok0
end jq

end
