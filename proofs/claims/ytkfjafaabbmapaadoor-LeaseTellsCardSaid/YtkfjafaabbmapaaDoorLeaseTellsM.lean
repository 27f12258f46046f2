/-
  LeaseTells, part 13: an interpreter of my own over abstract values, the pure functions, the walks and the plain law.
-/

import Derived.Test.YtkfjafaabbmapaaDoorLeaseTellsI
import Derived.Test.YtkfjafaabbmapaaDoorLeaseTellsH
import Derived.Test.YtkfjafaabbmapaaDoorProg
import Derived.Test.YtkfjafaabbmapaaDoorLeaseTellsJ
import Derived.KernelRfl
import Derived.Test.YtkfjafaabbmapaaDoorLeaseTellsK

section
open Go Go.Abs Go.Proofs
set_option maxRecDepth 100000
set_option maxHeartbeats 0
set_option linter.unusedVariables false

namespace rz
abbrev X3 := P.zt6
def S3 : X3 → ASt := fun (a, b, c, d) => ⟨[(3, .v (.int .u64 a)), (6, .sl (.ints .u8 b)), (7, .v (.int .i64 c)), (8, .v (.int .i64 d))], [], 0, 19⟩
def V3 : ASt → Option X3
 | ⟨[(3, .v (.int .u64 a)), (6, .sl (.ints .u8 b)), (7, .v (.int .i64 c)), (8, .v (.int .i64 d))], [], 0, 19⟩ => some (a, b, c, d)
 | _ => none
theorem amo (st) (x) (h : V3 st = some x) : st = S3 x := by
 unfold V3 at h
 split at h
 · cases h; rfl
 · cases h
abbrev Y3 := P.zy6
def E3 (K : AExit → ASt → Option R) : Y3 → Option R := (fun x => K (.exit 0) (S3 x))
noncomputable def L3 : zn := fun st K => ahn (V3 st) fun x => P.zm6 x (E3 K)
noncomputable def D : Ctx := ({ P := Tryd.prog, G := [], globs := GLO.gB, hints := [(3, ⟨[3, 6, 7, 8], [], [2], [], none, [], [], []⟩)], loops := [(3, L3)], inl := [] } : Ctx)
theorem agu (K) (next) (x) : qb D (jh Tryd.f65 3) K next (S3 x) = P.zs6 x (fun x => next (S3 x)) (E3 K) := by kernel_rfl
theorem amr : ou D (jh Tryd.f65 3) := j5 S3 amo (by kernel_rfl) P.ze6 agu
theorem loops : fq (Tryd.f65.body.getD .skip) = [jh Tryd.f65 3] := by kernel_rfl
noncomputable def dx : Abs.Spec := fun args K => match args with
 | [.sl (.ints .u8 a)] => P.rz a (fun b => K (.v (.int .u64 b)))
 | _ => none
noncomputable def spec : Abs.Spec := fun args K => dx (ow [.sl (.ints .u8 [])] args) K
theorem ok0 : Proved Tryd.prog GLO.gB 65 dx := by
 refine gu (D := D) (fn := Tryd.f65) (c := Tryd.f65.body.getD .skip) [.any] (by kernel_rfl) (cu (by kernel_rfl)) (by kernel_rfl) (by kernel_rfl) (by kernel_rfl) trivial trivial ?_ ?_
 · rw [loops]; exact ⟨amr, trivial⟩
 · intro args K r h
   unfold dx at h
   split at h
   · rw [P.aqs] at h; exact Eq.trans (by kernel_rfl) h
   · cases h
theorem ok : Proved Tryd.prog GLO.gB 65 spec := jc _ ok0
end rz

namespace aa3
abbrev X5 := P.bjf
def S5 : X5 → ASt := fun (c, d, e, a, b) => ⟨[(0, .sl (.ints .u8 c)), (1, .sl (.ints .u8 d)), (5, .v (.int .u8 e)), (13, .v (.int .i64 a)), (14, .v (.int .i64 b))], [], 0, 31⟩
def V5 : ASt → Option X5
 | ⟨[(0, .sl (.ints .u8 c)), (1, .sl (.ints .u8 d)), (5, .v (.int .u8 e)), (13, .v (.int .i64 a)), (14, .v (.int .i64 b))], [], 0, 31⟩ => some (c, d, e, a, b)
 | _ => none
theorem bcx (st) (x) (h : V5 st = some x) : st = S5 x := by
 unfold V5 at h
 split at h
 · cases h; rfl
 · cases h
abbrev Y5 := P.boj
def E5 (K : AExit → ASt → Option R) : Y5 → Option R := (fun x => K (.exit 0) (S5 x))
noncomputable def L5 : zn := fun st K => ahn (V5 st) fun x => P.bo5 x (E5 K)
noncomputable def D : Ctx := ({ P := Tryd.prog, G := [], globs := GLO.gB, hints := [(5, ⟨[0, 1, 5, 13, 14], [], [4], [], none, [], [], []⟩)], loops := [(5, L5)], inl := [] } : Ctx)
theorem av7 (K) (next) (x) : qb D (jh Tryd.f64 5) K next (S5 x) = P.bj3 x (fun x => next (S5 x)) (E5 K) := by kernel_rfl
theorem bbv : ou D (jh Tryd.f64 5) := j5 S5 bcx (by kernel_rfl) P.brd av7
theorem loops : fq (Tryd.f64.body.getD .skip) = [jh Tryd.f64 5] := by kernel_rfl
noncomputable def dx : Abs.Spec := fun args K => match args with
 | [.sl (.ints .u8 a), .sl (.ints .u8 b)] => P.aa3 a b (fun c => K (.v (.bool c)))
 | _ => none
noncomputable def spec : Abs.Spec := fun args K => dx (ow [.sl (.ints .u8 []), .sl (.ints .u8 [])] args) K
theorem ok0 : Proved Tryd.prog GLO.gB 64 dx := by
 refine gu (D := D) (fn := Tryd.f64) (c := Tryd.f64.body.getD .skip) [.any] (by kernel_rfl) (cu (by kernel_rfl)) (by kernel_rfl) (by kernel_rfl) (by kernel_rfl) trivial trivial ?_ ?_
 · rw [loops]; exact ⟨bbv, trivial⟩
 · intro args K r h
   unfold dx at h
   split at h
   · rw [P.anm] at h; exact Eq.trans (by kernel_rfl) h
   · cases h
theorem ok : Proved Tryd.prog GLO.gB 64 spec := jc _ ok0
end aa3

namespace ni
noncomputable def D : Ctx := ({ P := Tryd.prog, G := [], globs := GLO.gB, hints := [], loops := [], inl := [] } : Ctx)
theorem loops : fq (Tryd.f87.body.getD .skip) = [] := by kernel_rfl
noncomputable def dx : Abs.Spec := fun args K => match args with
 | [.v (.int .i64 a)] => P.ni a (fun b => K (.v (.int .u64 b)))
 | _ => none
noncomputable def spec : Abs.Spec := dx
theorem ok0 : Proved Tryd.prog GLO.gB 87 dx := by
 refine gu (D := D) (fn := Tryd.f87) (c := Tryd.f87.body.getD .skip) [.any] (by kernel_rfl) (cu (by kernel_rfl)) (by kernel_rfl) (by kernel_rfl) (by kernel_rfl) trivial trivial ?_ ?_
 · rw [loops]; exact trivial
 · intro args K r h
   unfold dx at h
   split at h
   · rw [P.ajt] at h; exact Eq.trans (by kernel_rfl) h
   · cases h
theorem ok : Proved Tryd.prog GLO.gB 87 spec := ok0
end ni

namespace abn
noncomputable def D : Ctx := ({ P := Tryd.prog, G := [(87, ni.spec)], globs := GLO.gB, hints := [], loops := [], inl := [] } : Ctx)
theorem loops : fq (Tryd.f81.body.getD .skip) = [] := by kernel_rfl
noncomputable def dx : Abs.Spec := fun args K => match args with
 | [] => P.abn (fun f e a b c d => K (.agg [.v (.int .i64 f), .v (.int .i64 e), .arr .i64 3 a, .arr .i64 3 b, .arr .i64 3 c, .arr .i64 3 d, .fn (.func 87) [] []]))
 | _ => none
noncomputable def spec : Abs.Spec := dx
theorem ok0 : Proved Tryd.prog GLO.gB 81 dx := by
 refine gu (D := D) (fn := Tryd.f81) (c := Tryd.f81.body.getD .skip) [.any] (by kernel_rfl) (cu (by kernel_rfl)) (by kernel_rfl) (by kernel_rfl) (by kernel_rfl) ⟨ni.ok, trivial⟩ trivial ?_ ?_
 · rw [loops]; exact trivial
 · intro args K r h
   unfold dx at h
   split at h
   · rw [P.ano] at h; exact Eq.trans (by kernel_rfl) h
   · cases h
theorem ok : Proved Tryd.prog GLO.gB 81 spec := ok0
end abn

namespace mo
noncomputable def D : Ctx := ({ P := Tryd.prog, G := [], globs := GLO.gB, hints := [], loops := [], inl := [] } : Ctx)
theorem loops : fq (Tryd.f85.body.getD .skip) = [] := by kernel_rfl
noncomputable def dx : Abs.Spec := fun args K => match args with
 | [.v (.int .i64 a)] => P.mo a (fun b => K (.v (.int .u32 b)))
 | _ => none
noncomputable def spec : Abs.Spec := dx
theorem ok0 : Proved Tryd.prog GLO.gB 85 dx := by
 refine gu (D := D) (fn := Tryd.f85) (c := Tryd.f85.body.getD .skip) [.any] (by kernel_rfl) (cu (by kernel_rfl)) (by kernel_rfl) (by kernel_rfl) (by kernel_rfl) trivial trivial ?_ ?_
 · rw [loops]; exact trivial
 · intro args K r h
   unfold dx at h
   split at h
   · rw [P.ajs] at h; exact Eq.trans (by kernel_rfl) h
   · cases h
theorem ok : Proved Tryd.prog GLO.gB 85 spec := ok0
end mo

namespace aa0
noncomputable def D : Ctx := ({ P := Tryd.prog, G := [(85, mo.spec)], globs := GLO.gB, hints := [], loops := [], inl := [] } : Ctx)
theorem loops : fq (Tryd.f79.body.getD .skip) = [] := by kernel_rfl
noncomputable def dx : Abs.Spec := fun args K => match args with
 | [] => P.aa0 (fun f e a b c d => K (.agg [.v (.int .i64 f), .v (.int .i64 e), .arr .i64 3 a, .arr .i64 3 b, .arr .i64 3 c, .arr .i64 3 d, .fn (.func 85) [] []]))
 | _ => none
noncomputable def spec : Abs.Spec := dx
theorem ok0 : Proved Tryd.prog GLO.gB 79 dx := by
 refine gu (D := D) (fn := Tryd.f79) (c := Tryd.f79.body.getD .skip) [.any] (by kernel_rfl) (cu (by kernel_rfl)) (by kernel_rfl) (by kernel_rfl) (by kernel_rfl) ⟨mo.ok, trivial⟩ trivial ?_ ?_
 · rw [loops]; exact trivial
 · intro args K r h
   unfold dx at h
   split at h
   · rw [P.an7] at h; exact Eq.trans (by kernel_rfl) h
   · cases h
theorem ok : Proved Tryd.prog GLO.gB 79 spec := ok0
end aa0

namespace dw
noncomputable def D : Ctx := ({ P := Tryd.prog, G := [(85, mo.spec)], globs := GLO.gB, hints := [], loops := [], inl := [] } : Ctx)
theorem loops : fq (Tryd.f97.body.getD .skip) = [] := by kernel_rfl
noncomputable def dx : Abs.Spec := fun args K => match args with
 | [.agg [.v (.int .i64 f), .v (.int .i64 e), .arr .i64 3 a, .arr .i64 3 b, .arr .i64 3 c, .arr .i64 3 d, .fn (.func 85) [] []], .v (.int .u32 g), .v (.int .i64 h)] => P.dw f e a b c d g h (fun i => K (.v (.int .u32 i)))
 | _ => none
noncomputable def spec : Abs.Spec := dx
theorem ok0 : Proved Tryd.prog GLO.gB 97 dx := by
 refine gu (D := D) (fn := Tryd.f97) (c := Tryd.f97.body.getD .skip) [.any] (by kernel_rfl) (cu (by kernel_rfl)) (by kernel_rfl) (by kernel_rfl) (by kernel_rfl) ⟨mo.ok, trivial⟩ trivial ?_ ?_
 · rw [loops]; exact trivial
 · intro args K r h
   unfold dx at h
   split at h
   · rw [P.aat] at h; exact Eq.trans (by kernel_rfl) h
   · cases h
theorem ok : Proved Tryd.prog GLO.gB 97 spec := ok0
end dw

namespace jo
noncomputable def D : Ctx := ({ P := Tryd.prog, G := [(85, mo.spec), (97, dw.spec)], globs := GLO.gB, hints := [], loops := [], inl := [] } : Ctx)
theorem loops : fq (Tryd.f92.body.getD .skip) = [] := by kernel_rfl
noncomputable def dx : Abs.Spec := fun args K => match args with
 | [.agg [.v (.int .i64 f), .v (.int .i64 e), .arr .i64 3 a, .arr .i64 3 b, .arr .i64 3 c, .arr .i64 3 d, .fn (.func 85) [] []], .v (.int .u32 g), .v (.int .i64 h)] => P.jo f e a b c d g h (fun i => K (.v (.int .u32 i)))
 | _ => none
noncomputable def spec : Abs.Spec := dx
theorem ok0 : Proved Tryd.prog GLO.gB 92 dx := by
 refine gu (D := D) (fn := Tryd.f92) (c := Tryd.f92.body.getD .skip) [.any] (by kernel_rfl) (cu (by kernel_rfl)) (by kernel_rfl) (by kernel_rfl) (by kernel_rfl) ⟨mo.ok, dw.ok, trivial⟩ trivial ?_ ?_
 · rw [loops]; exact trivial
 · intro args K r h
   unfold dx at h
   split at h
   · rw [P.yj] at h; exact Eq.trans (by kernel_rfl) h
   · cases h
theorem ok : Proved Tryd.prog GLO.gB 92 spec := ok0
end jo

namespace jy
noncomputable def D : Ctx := ({ P := Tryd.prog, G := [(85, mo.spec), (97, dw.spec)], globs := GLO.gB, hints := [], loops := [], inl := [] } : Ctx)
theorem loops : fq (Tryd.f93.body.getD .skip) = [] := by kernel_rfl
noncomputable def dx : Abs.Spec := fun args K => match args with
 | [.agg [.v (.int .i64 f), .v (.int .i64 e), .arr .i64 3 a, .arr .i64 3 b, .arr .i64 3 c, .arr .i64 3 d, .fn (.func 85) [] []], .v (.int .u32 g), .v (.int .i64 h)] => P.jy f e a b c d g h (fun i => K (.v (.int .u32 i)))
 | _ => none
noncomputable def spec : Abs.Spec := dx
theorem ok0 : Proved Tryd.prog GLO.gB 93 dx := by
 refine gu (D := D) (fn := Tryd.f93) (c := Tryd.f93.body.getD .skip) [.any] (by kernel_rfl) (cu (by kernel_rfl)) (by kernel_rfl) (by kernel_rfl) (by kernel_rfl) ⟨mo.ok, dw.ok, trivial⟩ trivial ?_ ?_
 · rw [loops]; exact trivial
 · intro args K r h
   unfold dx at h
   split at h
   · rw [P.y8] at h; exact Eq.trans (by kernel_rfl) h
   · cases h
theorem ok : Proved Tryd.prog GLO.gB 93 spec := ok0
end jy

namespace ko
abbrev X4 := P.zt7
def S4 : X4 → ASt := fun (k, l, j, a, b, c, d, e, f, g, h, i) => ⟨[(2, .sl (.ints .u8 k)), (3, .ptr 0 0), (4, .ptr 1 0), (6, .ptr 2 0), (7, .ptr 3 0), (8, .v (.int .i64 l)), (19, .v (.int .i64 j))], [(0, some ⟨.box 133 [.v (.int .i64 a), .v (.int .i64 b), .arr .i64 3 c, .arr .i64 3 d, .arr .i64 3 e, .arr .i64 3 f, .fn (.func 85) [] []], false⟩), (1, some ⟨.box 141 [.arr .u32 8 g], false⟩), (2, some ⟨.box 141 [.arr .u32 8 h], false⟩), (3, some ⟨.box 150 [.arr .u32 16 i], false⟩)], 4, 143⟩
def V4 : ASt → Option X4
 | ⟨[(2, .sl (.ints .u8 k)), (3, .ptr 0 0), (4, .ptr 1 0), (6, .ptr 2 0), (7, .ptr 3 0), (8, .v (.int .i64 l)), (19, .v (.int .i64 j))], [(0, some ⟨.box 133 [.v (.int .i64 a), .v (.int .i64 b), .arr .i64 3 c, .arr .i64 3 d, .arr .i64 3 e, .arr .i64 3 f, .fn (.func 85) [] []], false⟩), (1, some ⟨.box 141 [.arr .u32 8 g], false⟩), (2, some ⟨.box 141 [.arr .u32 8 h], false⟩), (3, some ⟨.box 150 [.arr .u32 16 i], false⟩)], 4, 143⟩ => some (k, l, j, a, b, c, d, e, f, g, h, i)
 | _ => none
theorem akk (st) (x) (h : V4 st = some x) : st = S4 x := by
 unfold V4 at h
 split at h
 · cases h; rfl
 · cases h
abbrev Y4 := P.zy7
abbrev X10 := P.zt8
def S10 : X10 → ASt := fun (k, l, a, b, c, d, e, f, g, h, i, j) => ⟨[(3, .ptr 0 0), (4, .ptr 1 0), (6, .ptr 2 0), (7, .ptr 3 0), (10, .ptr 4 0), (38, .v (.int .i64 k)), (39, .v (.int .i64 l))], [(3, some ⟨.box 150 [.arr .u32 16 a], false⟩), (2, some ⟨.box 141 [.arr .u32 8 b], false⟩), (1, some ⟨.box 141 [.arr .u32 8 c], false⟩), (0, some ⟨.box 133 [.v (.int .i64 d), .v (.int .i64 e), .arr .i64 3 f, .arr .i64 3 g, .arr .i64 3 h, .arr .i64 3 i, .fn (.func 85) [] []], false⟩), (4, some ⟨.box 141 [.arr .u32 8 j], false⟩)], 5, 143⟩
def V10 : ASt → Option X10
 | ⟨[(3, .ptr 0 0), (4, .ptr 1 0), (6, .ptr 2 0), (7, .ptr 3 0), (10, .ptr 4 0), (38, .v (.int .i64 k)), (39, .v (.int .i64 l))], [(3, some ⟨.box 150 [.arr .u32 16 a], false⟩), (2, some ⟨.box 141 [.arr .u32 8 b], false⟩), (1, some ⟨.box 141 [.arr .u32 8 c], false⟩), (0, some ⟨.box 133 [.v (.int .i64 d), .v (.int .i64 e), .arr .i64 3 f, .arr .i64 3 g, .arr .i64 3 h, .arr .i64 3 i, .fn (.func 85) [] []], false⟩), (4, some ⟨.box 141 [.arr .u32 8 j], false⟩)], 5, 143⟩ => some (k, l, a, b, c, d, e, f, g, h, i, j)
 | _ => none
theorem awq (st) (x) (h : V10 st = some x) : st = S10 x := by
 unfold V10 at h
 split at h
 · cases h; rfl
 · cases h
abbrev Y10 := P.zy8
abbrev X21 := P.zt9
def S21 : X21 → ASt := fun (a, b, c, d) => ⟨[(4, .ptr 1 0), (6, .ptr 2 0), (10, .ptr 4 0), (130, .v (.int .i64 a))], [(1, some ⟨.box 141 [.arr .u32 8 b], false⟩), (2, some ⟨.box 141 [.arr .u32 8 c], false⟩), (4, some ⟨.box 141 [.arr .u32 8 d], false⟩)], 120, 143⟩
def V21 : ASt → Option X21
 | ⟨[(4, .ptr 1 0), (6, .ptr 2 0), (10, .ptr 4 0), (130, .v (.int .i64 a))], [(1, some ⟨.box 141 [.arr .u32 8 b], false⟩), (2, some ⟨.box 141 [.arr .u32 8 c], false⟩), (4, some ⟨.box 141 [.arr .u32 8 d], false⟩)], 120, 143⟩ => some (a, b, c, d)
 | _ => none
theorem bdd (st) (x) (h : V21 st = some x) : st = S21 x := by
 unfold V21 at h
 split at h
 · cases h; rfl
 · cases h
abbrev Y21 := P.zy9
def E4 (K : AExit → ASt → Option R) : Y4 → Option R := (fun x => K (.exit 0) (S4 x))
noncomputable def L4 : zn := fun st K => ahn (V4 st) fun x => P.zm7 x (E4 K)
def E10 (K : AExit → ASt → Option R) : Y10 → Option R := (fun x => K (.exit 2) (S10 x))
noncomputable def L10 : zn := fun st K => ahn (V10 st) fun x => P.zm8 x (E10 K)
def E21 (K : AExit → ASt → Option R) : Y21 → Option R := (fun x => K (.exit 4) (S21 x))
noncomputable def L21 : zn := fun st K => ahn (V21 st) fun x => P.zm9 x (E21 K)
noncomputable def D : Ctx := ({ P := Tryd.prog, G := [(65, rz.spec), (85, mo.spec), (92, jo.spec), (93, jy.spec)], globs := GLO.gB, hints := [(21, ⟨[4, 6, 10, 130], [], [6], [], some (120, [1, 2, 4]), [], [], []⟩), (10, ⟨[3, 4, 6, 7, 10, 38, 39], [], [6], [], none, [], [], []⟩), (4, ⟨[2, 3, 4, 6, 7, 8, 19], [], [6], [], none, [], [], []⟩)], loops := [(4, L4), (10, L10), (21, L21)], inl := [] } : Ctx)
theorem afi (K) (next) (x) : qb D (jh Tryd.f84 4) K next (S4 x) = P.zs7 x (fun x => next (S4 x)) (E4 K) := by kernel_rfl
theorem aj9 : ou D (jh Tryd.f84 4) := j5 S4 akk (by kernel_rfl) P.ze7 afi
theorem apy (K) (next) (x) : qb D (jh Tryd.f84 10) K next (S10 x) = P.zs8 x (fun x => next (S10 x)) (E10 K) := by kernel_rfl
theorem awj : ou D (jh Tryd.f84 10) := j5 S10 awq (by kernel_rfl) P.ze8 apy
theorem ax1 (K) (next) (x) : qb D (jh Tryd.f84 21) K next (S21 x) = P.zs9 x (fun x => next (S21 x)) (E21 K) := by kernel_rfl
theorem bdg : ou D (jh Tryd.f84 21) := j5 S21 bdd (by kernel_rfl) P.ze9 ax1
theorem loops : fq (Tryd.f84.body.getD .skip) = [jh Tryd.f84 4, jh Tryd.f84 10, jh Tryd.f84 21] := by kernel_rfl
noncomputable def dx : Abs.Spec := fun args K => match args with
 | [.agg [.v (.int .i64 f), .v (.int .i64 e), .arr .i64 3 a, .arr .i64 3 b, .arr .i64 3 c, .arr .i64 3 d, .fn (.func 85) [] []], .arr .u32 8 g, .sl (.ints .u8 h)] => P.ko f e a b c d g h (fun i => K (.arr .u32 8 i))
 | _ => none
noncomputable def spec : Abs.Spec := fun args K => dx (ow [.any, .any, .sl (.ints .u8 [])] args) K
theorem ok0 : Proved Tryd.prog GLO.gB 84 dx := by
 refine gu (D := D) (fn := Tryd.f84) (c := Tryd.f84.body.getD .skip) [.any] (by kernel_rfl) (cu (by kernel_rfl)) (by kernel_rfl) (by kernel_rfl) (by kernel_rfl) ⟨rz.ok, mo.ok, jo.ok, jy.ok, trivial⟩ trivial ?_ ?_
 · rw [loops]; exact ⟨aj9, awj, bdg, trivial⟩
 · intro args K r h
   unfold dx at h
   split at h
   · rw [P.abx] at h; exact Eq.trans (by kernel_rfl) h
   · cases h
theorem ok : Proved Tryd.prog GLO.gB 84 spec := jc _ ok0
end ko

namespace og
abbrev X3 := P.bj7
def S3 : X3 → ASt := fun (l, j, k, a, b, c, d, e, f, g, h, i) => ⟨[(2, .sl (.ints .u8 l)), (3, .ptr 0 0), (4, .ptr 1 0), (6, .ptr 2 0), (8, .ptr 3 0), (14, .arr .u64 8 j), (15, .v (.int .i64 k))], [(0, some ⟨.box 133 [.v (.int .i64 a), .v (.int .i64 b), .arr .i64 3 c, .arr .i64 3 d, .arr .i64 3 e, .arr .i64 3 f, .fn (.func 85) [] []], false⟩), (1, some ⟨.box 111 [.arr .u64 8 g], false⟩), (2, some ⟨.box 111 [.arr .u64 8 h], false⟩), (3, some ⟨.box 141 [.arr .u32 8 i], false⟩)], 4, 52⟩
def V3 : ASt → Option X3
 | ⟨[(2, .sl (.ints .u8 l)), (3, .ptr 0 0), (4, .ptr 1 0), (6, .ptr 2 0), (8, .ptr 3 0), (14, .arr .u64 8 j), (15, .v (.int .i64 k))], [(0, some ⟨.box 133 [.v (.int .i64 a), .v (.int .i64 b), .arr .i64 3 c, .arr .i64 3 d, .arr .i64 3 e, .arr .i64 3 f, .fn (.func 85) [] []], false⟩), (1, some ⟨.box 111 [.arr .u64 8 g], false⟩), (2, some ⟨.box 111 [.arr .u64 8 h], false⟩), (3, some ⟨.box 141 [.arr .u32 8 i], false⟩)], 4, 52⟩ => some (l, j, k, a, b, c, d, e, f, g, h, i)
 | _ => none
theorem amo (st) (x) (h : V3 st = some x) : st = S3 x := by
 unfold V3 at h
 split at h
 · cases h; rfl
 · cases h
abbrev Y3 := P.bp5
abbrev X8 := P.bkv
def S8 : X8 → ASt := fun (k, j, a, b, c, d, e, f, g, h, i) => ⟨[(2, .sl (.ints .u8 k)), (3, .ptr 0 0), (4, .ptr 1 0), (6, .ptr 2 0), (8, .ptr 3 0), (11, .v (.int .i64 j))], [(3, some ⟨.box 141 [.arr .u32 8 a], false⟩), (2, some ⟨.box 111 [.arr .u64 8 b], false⟩), (1, some ⟨.box 111 [.arr .u64 8 c], false⟩), (0, some ⟨.box 133 [.v (.int .i64 d), .v (.int .i64 e), .arr .i64 3 f, .arr .i64 3 g, .arr .i64 3 h, .arr .i64 3 i, .fn (.func 85) [] []], false⟩)], 4, 52⟩
def V8 : ASt → Option X8
 | ⟨[(2, .sl (.ints .u8 k)), (3, .ptr 0 0), (4, .ptr 1 0), (6, .ptr 2 0), (8, .ptr 3 0), (11, .v (.int .i64 j))], [(3, some ⟨.box 141 [.arr .u32 8 a], false⟩), (2, some ⟨.box 111 [.arr .u64 8 b], false⟩), (1, some ⟨.box 111 [.arr .u64 8 c], false⟩), (0, some ⟨.box 133 [.v (.int .i64 d), .v (.int .i64 e), .arr .i64 3 f, .arr .i64 3 g, .arr .i64 3 h, .arr .i64 3 i, .fn (.func 85) [] []], false⟩)], 4, 52⟩ => some (k, j, a, b, c, d, e, f, g, h, i)
 | _ => none
theorem bdc (st) (x) (h : V8 st = some x) : st = S8 x := by
 unfold V8 at h
 split at h
 · cases h; rfl
 · cases h
abbrev Y8 := P.boi
abbrev X12 := P.bkd
def S12 : X12 → ASt := fun (e, c, d, a, b) => ⟨[(2, .sl (.ints .u8 e)), (4, .ptr 1 0), (6, .ptr 2 0), (40, .arr .u32 8 c), (41, .v (.int .i64 d))], [(1, some ⟨.box 111 [.arr .u64 8 a], false⟩), (2, some ⟨.box 111 [.arr .u64 8 b], false⟩)], 120, 52⟩
def V12 : ASt → Option X12
 | ⟨[(2, .sl (.ints .u8 e)), (4, .ptr 1 0), (6, .ptr 2 0), (40, .arr .u32 8 c), (41, .v (.int .i64 d))], [(1, some ⟨.box 111 [.arr .u64 8 a], false⟩), (2, some ⟨.box 111 [.arr .u64 8 b], false⟩)], 120, 52⟩ => some (e, c, d, a, b)
 | _ => none
theorem bc4 (st) (x) (h : V12 st = some x) : st = S12 x := by
 unfold V12 at h
 split at h
 · cases h; rfl
 · cases h
abbrev Y12 := P.bow
def E3 (K : AExit → ASt → Option R) : Y3 → Option R := (fun x => K (.exit 0) (S3 x))
noncomputable def L3 : zn := fun st K => ahn (V3 st) fun x => P.bpp x (E3 K)
def E8 (K : AExit → ASt → Option R) : Y8 → Option R := (fun x => K (.exit 2) (S8 x))
noncomputable def L8 : zn := fun st K => ahn (V8 st) fun x => P.bpy x (E8 K)
def E12 (K : AExit → ASt → Option R) : Y12 → Option R := (fun x => K (.exit 4) (S12 x))
noncomputable def L12 : zn := fun st K => ahn (V12 st) fun x => P.bpq x (E12 K)
noncomputable def D : Ctx := ({ P := Tryd.prog, G := [(84, ko.spec), (85, mo.spec)], globs := GLO.gB, hints := [(12, ⟨[2, 4, 6, 40, 41], [], [6, 7], [], some (120, [1, 2]), [], [], []⟩), (8, ⟨[2, 3, 4, 6, 8, 11], [], [6, 7], [(2, .sl (.ints .u8 []))], none, [], [], []⟩), (3, ⟨[2, 3, 4, 6, 8, 14, 15], [], [6, 7], [], none, [], [], []⟩)], loops := [(3, L3), (8, L8), (12, L12)], inl := [] } : Ctx)
theorem agu (K) (next) (x) : qb D (jh Tryd.f78 3) K next (S3 x) = P.bl8 x (fun x => next (S3 x)) (E3 K) := by kernel_rfl
theorem amr : ou D (jh Tryd.f78 3) := j5 S3 amo (by kernel_rfl) P.bq6 agu
theorem av6 (K) (next) (x) : qb D (jh Tryd.f78 8) K next (S8 x) = P.bk5 x (fun x => next (S8 x)) (E8 K) := by kernel_rfl
theorem bb9 : ou D (jh Tryd.f78 8) := j5 S8 bdc (by kernel_rfl) P.brh av6
theorem ayo (K) (next) (x) : qb D (jh Tryd.f78 12) K next (S12 x) = P.zs12 x (fun x => next (S12 x)) (E12 K) := by kernel_rfl
theorem beb : ou D (jh Tryd.f78 12) := j5 S12 bc4 (by kernel_rfl) P.bri ayo
theorem loops : fq (Tryd.f78.body.getD .skip) = [jh Tryd.f78 3, jh Tryd.f78 8, jh Tryd.f78 12] := by kernel_rfl
noncomputable def dx : Abs.Spec := fun args K => match args with
 | [.agg [.v (.int .i64 f), .v (.int .i64 e), .arr .i64 3 a, .arr .i64 3 b, .arr .i64 3 c, .arr .i64 3 d, .fn (.func 85) [] []], .arr .u64 8 g, .sl (.ints .u8 h)] => P.og f e a b c d g h (fun i j => K (.tuple [.arr .u64 8 i, .sl (.ints .u8 j)]))
 | _ => none
noncomputable def spec : Abs.Spec := fun args K => dx (ow [.any, .any, .sl (.ints .u8 [])] args) K
theorem ok0 : Proved Tryd.prog GLO.gB 78 dx := by
 refine gu (D := D) (fn := Tryd.f78) (c := Tryd.f78.body.getD .skip) [.any, .sl (.ints .u8 [])] (by kernel_rfl) (cu (by kernel_rfl)) (by kernel_rfl) (by kernel_rfl) (by kernel_rfl) ⟨ko.ok, mo.ok, trivial⟩ trivial ?_ ?_
 · rw [loops]; exact ⟨amr, bb9, beb, trivial⟩
 · intro args K r h
   unfold dx at h
   split at h
   · rw [P.ad5] at h; exact Eq.trans (by kernel_rfl) h
   · cases h
theorem ok : Proved Tryd.prog GLO.gB 78 spec := jc _ ok0
end og

namespace dn
noncomputable def D : Ctx := ({ P := Tryd.prog, G := [(87, ni.spec)], globs := GLO.gB, hints := [], loops := [], inl := [] } : Ctx)
theorem loops : fq (Tryd.f98.body.getD .skip) = [] := by kernel_rfl
noncomputable def dx : Abs.Spec := fun args K => match args with
 | [.agg [.v (.int .i64 f), .v (.int .i64 e), .arr .i64 3 a, .arr .i64 3 b, .arr .i64 3 c, .arr .i64 3 d, .fn (.func 87) [] []], .v (.int .u64 g), .v (.int .i64 h)] => P.dn f e a b c d g h (fun i => K (.v (.int .u64 i)))
 | _ => none
noncomputable def spec : Abs.Spec := dx
theorem ok0 : Proved Tryd.prog GLO.gB 98 dx := by
 refine gu (D := D) (fn := Tryd.f98) (c := Tryd.f98.body.getD .skip) [.any] (by kernel_rfl) (cu (by kernel_rfl)) (by kernel_rfl) (by kernel_rfl) (by kernel_rfl) ⟨ni.ok, trivial⟩ trivial ?_ ?_
 · rw [loops]; exact trivial
 · intro args K r h
   unfold dx at h
   split at h
   · rw [P.aav] at h; exact Eq.trans (by kernel_rfl) h
   · cases h
theorem ok : Proved Tryd.prog GLO.gB 98 spec := ok0
end dn

namespace jm
noncomputable def D : Ctx := ({ P := Tryd.prog, G := [(87, ni.spec), (98, dn.spec)], globs := GLO.gB, hints := [], loops := [], inl := [] } : Ctx)
theorem loops : fq (Tryd.f94.body.getD .skip) = [] := by kernel_rfl
noncomputable def dx : Abs.Spec := fun args K => match args with
 | [.agg [.v (.int .i64 f), .v (.int .i64 e), .arr .i64 3 a, .arr .i64 3 b, .arr .i64 3 c, .arr .i64 3 d, .fn (.func 87) [] []], .v (.int .u64 g), .v (.int .i64 h)] => P.jm f e a b c d g h (fun i => K (.v (.int .u64 i)))
 | _ => none
noncomputable def spec : Abs.Spec := dx
theorem ok0 : Proved Tryd.prog GLO.gB 94 dx := by
 refine gu (D := D) (fn := Tryd.f94) (c := Tryd.f94.body.getD .skip) [.any] (by kernel_rfl) (cu (by kernel_rfl)) (by kernel_rfl) (by kernel_rfl) (by kernel_rfl) ⟨ni.ok, dn.ok, trivial⟩ trivial ?_ ?_
 · rw [loops]; exact trivial
 · intro args K r h
   unfold dx at h
   split at h
   · rw [P.yt] at h; exact Eq.trans (by kernel_rfl) h
   · cases h
theorem ok : Proved Tryd.prog GLO.gB 94 spec := ok0
end jm

namespace jv
noncomputable def D : Ctx := ({ P := Tryd.prog, G := [(87, ni.spec), (98, dn.spec)], globs := GLO.gB, hints := [], loops := [], inl := [] } : Ctx)
theorem loops : fq (Tryd.f95.body.getD .skip) = [] := by kernel_rfl
noncomputable def dx : Abs.Spec := fun args K => match args with
 | [.agg [.v (.int .i64 f), .v (.int .i64 e), .arr .i64 3 a, .arr .i64 3 b, .arr .i64 3 c, .arr .i64 3 d, .fn (.func 87) [] []], .v (.int .u64 g), .v (.int .i64 h)] => P.jv f e a b c d g h (fun i => K (.v (.int .u64 i)))
 | _ => none
noncomputable def spec : Abs.Spec := dx
theorem ok0 : Proved Tryd.prog GLO.gB 95 dx := by
 refine gu (D := D) (fn := Tryd.f95) (c := Tryd.f95.body.getD .skip) [.any] (by kernel_rfl) (cu (by kernel_rfl)) (by kernel_rfl) (by kernel_rfl) (by kernel_rfl) ⟨ni.ok, dn.ok, trivial⟩ trivial ?_ ?_
 · rw [loops]; exact trivial
 · intro args K r h
   unfold dx at h
   split at h
   · rw [P.zi] at h; exact Eq.trans (by kernel_rfl) h
   · cases h
theorem ok : Proved Tryd.prog GLO.gB 95 spec := ok0
end jv

end
