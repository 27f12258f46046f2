/-
  ForsRight, part 16: an interpreter of my own over abstract values, the pure functions, the walks and the plain law.
-/

import Derived.Test.YtjhnljhjpnjieaaDoorForsRightK
import Derived.Test.YtjhnljhjpnjieaaDoorForsRightG
import Derived.Test.YtjhnljhjpnjieaaDoorProg
import Derived.Test.YtjhnljhjpnjieaaDoorForsRightJ
import Derived.Test.YtjhnljhjpnjieaaDoorForsRightO
import Derived.KernelRfl
import Derived.Test.YtjhnljhjpnjieaaDoorForsRightM
import Derived.Test.YtjhnljhjpnjieaaDoorForsRightI

section
open Go Go.Abs Go.Proofs
set_option maxRecDepth 100000
set_option maxHeartbeats 0
set_option linter.unusedVariables false

namespace qo
noncomputable def D1 : Ctx := ({ P := Tryd.prog, G := [(122, ko.spec), (124, d9.spec)], globs := GLO.gx, hints := [], loops := [], inl := [] } : Ctx)
noncomputable def D : Ctx := ({ P := Tryd.prog, G := [(122, ko.spec), (124, d9.spec)], globs := GLO.gx, hints := [], loops := [], inl := [(125, aej D1 Tryd.f125)] } : Ctx)
theorem loops : bq (Tryd.f123.body.getD .skip) = [] := by kernel_rfl
theorem ait : bq (Tryd.f125.body.getD .skip) = [] := by kernel_rfl
noncomputable def bg : Abs.Spec := fun args K => match args with
 | [.agg [.v (.int .i64 c), .arr .u64 25 a, .v (.int .i64 g), .v (.bool e)]] => P.qo c a g e (fun d b h f => K (.agg [.v (.int .i64 d), .arr .u64 25 b, .v (.int .i64 h), .v (.bool f)]))
 | _ => none
noncomputable def spec : Abs.Spec := bg
theorem ok0 : Proved Tryd.prog GLO.gx 123 bg := by
 refine dn (D := D) (fn := Tryd.f123) (c := Tryd.f123.body.getD .skip) [.any] (by kernel_rfl) (au (by kernel_rfl)) (by kernel_rfl) (by kernel_rfl) (by kernel_rfl) ⟨ko.ok, d9.ok, trivial⟩ ⟨ak3 (D := D1) (D' := D) (fn := Tryd.f125) (c := Tryd.f125.body.getD .skip) rfl rfl (by kernel_rfl) (au (by kernel_rfl)) (by kernel_rfl) (by kernel_rfl) (by kernel_rfl) ⟨ko.ok, d9.ok, trivial⟩ trivial (by rw [ait]; exact trivial) (fun _ _ _ _ _ h => h), trivial⟩ ?_ ?_
 · rw [loops]; exact trivial
 · intro args K r h
   unfold bg at h
   split at h
   · rw [P.ahs] at h; exact Eq.trans (by kernel_rfl) h
   · cases h
theorem ok : Proved Tryd.prog GLO.gx 123 spec := ok0
end qo

namespace o9
abbrev X7 := P.bkr
def S7 : X7 → ASt := fun (i, j, a, b, c, d, e, f, g, h, k) => ⟨[(2, .ptr 0 0), (4, .ptr 1 0), (6, .own 2), (19, .v (.int .i64 i)), (20, .v (.int .i64 j))], [(0, some ⟨.box 123 [.v (.int .i64 a), .arr .u64 25 b, .v (.int .i64 c), .v (.bool d)], false⟩), (1, some ⟨.box 123 [.v (.int .i64 e), .arr .u64 25 f, .v (.int .i64 g), .v (.bool h)], false⟩), (2, some ⟨.row 5 (.ints .u8 k), false⟩)], 40, 56⟩
def V7 : ASt → Option X7
 | ⟨[(2, .ptr 0 0), (4, .ptr 1 0), (6, .own 2), (19, .v (.int .i64 i)), (20, .v (.int .i64 j))], [(0, some ⟨.box 123 [.v (.int .i64 a), .arr .u64 25 b, .v (.int .i64 c), .v (.bool d)], false⟩), (1, some ⟨.box 123 [.v (.int .i64 e), .arr .u64 25 f, .v (.int .i64 g), .v (.bool h)], false⟩), (2, some ⟨.row 5 (.ints .u8 k), false⟩)], 40, 56⟩ => some (i, j, a, b, c, d, e, f, g, h, k)
 | _ => none
theorem bgd (st) (x) (h : V7 st = some x) : st = S7 x := by
 unfold V7 at h
 split at h
 · cases h; rfl
 · cases h
abbrev Y7 := P.bn0
def E7 (K : AExit → ASt → Option R) : Y7 → Option R := (fun x => K (.exit 0) (S7 x))
noncomputable def L7 : xw := fun st K => ag4 (V7 st) fun x => P.bpy x (E7 K)
noncomputable def D : Ctx := ({ P := Tryd.prog, G := [(122, ko.spec), (123, qo.spec), (124, d9.spec)], globs := GLO.gx, hints := [(7, ⟨[2, 4, 6, 19, 20], [], [4, 5], [], some (40, [0, 1, 2]), [], []⟩)], loops := [(7, L7)], inl := [] } : Ctx)
theorem bci (K) (next) (x) : qb D (dw Tryd.f90 7) K next (S7 x) = P.bjx x (fun x => next (S7 x)) (E7 K) := by kernel_rfl
theorem bha : ou D (dw Tryd.f90 7) := jf S7 bgd (by kernel_rfl) P.br2 bci
theorem loops : bq (Tryd.f90.body.getD .skip) = [dw Tryd.f90 7] := by kernel_rfl
noncomputable def bg : Abs.Spec := fun args K => match args with
 | [.agg [.v (.int .i64 c), .arr .u64 25 a, .v (.int .i64 g), .v (.bool e)], .v (.int .i64 i)] => P.o9 c a g e i (fun d b h f j => K (.tuple [.agg [.v (.int .i64 d), .arr .u64 25 b, .v (.int .i64 h), .v (.bool f)], .fr 5 (.ints .u8 j)]))
 | _ => none
noncomputable def spec : Abs.Spec := bg
theorem ok0 : Proved Tryd.prog GLO.gx 90 bg := by
 refine dn (D := D) (fn := Tryd.f90) (c := Tryd.f90.body.getD .skip) [.any, .fr 5 (.ints .u8 [])] (by kernel_rfl) (au (by kernel_rfl)) (by kernel_rfl) (by kernel_rfl) (by kernel_rfl) ⟨ko.ok, qo.ok, d9.ok, trivial⟩ trivial ?_ ?_
 · rw [loops]; exact ⟨bha, trivial⟩
 · intro args K r h
   unfold bg at h
   split at h
   · rw [P.ag2] at h; exact Eq.trans (by kernel_rfl) h
   · cases h
theorem ok : Proved Tryd.prog GLO.gx 90 spec := ok0
end o9

namespace lq
noncomputable def D : Ctx := ({ P := Tryd.prog, G := [(62, jq.spec), (90, o9.spec), (91, nk.spec)], globs := GLO.gx, hints := [], loops := [], inl := [] } : Ctx)
theorem loops : bq (Tryd.f130.body.getD .skip) = [] := by kernel_rfl
noncomputable def bg : Abs.Spec := fun args K => match args with
 | [.arr .u8 32 e, .sl (.ints .u8 f), .sta [.v (.int .i64 b), .arr .u64 25 a, .v (.int .i64 d), .v (.bool c)], .sta [.v (.int .i64 g)]] => P.lq e f b a d c g (fun h => K (.fr 5 (.ints .u8 h)))
 | _ => none
noncomputable def spec : Abs.Spec := fun args K => bg (tu [.any, .sl (.ints .u8 []), .any, .any] args) K
theorem ok0 : Proved Tryd.prog GLO.gx 130 bg := by
 refine dn (D := D) (fn := Tryd.f130) (c := Tryd.f130.body.getD .skip) [.fr 5 (.ints .u8 [])] (by kernel_rfl) (au (by kernel_rfl)) (by kernel_rfl) (by kernel_rfl) (by kernel_rfl) ⟨jq.ok, o9.ok, nk.ok, trivial⟩ trivial ?_ ?_
 · rw [loops]; exact trivial
 · intro args K r h
   unfold bg at h
   split at h
   · rw [P.agp] at h; exact Eq.trans (by kernel_rfl) h
   · cases h
theorem ok : Proved Tryd.prog GLO.gx 130 spec := eu _ ok0
end lq

namespace aah
noncomputable def D : Ctx := ({ P := Tryd.prog, G := [(89, ab3.spec), (91, nk.spec), (130, lq.spec)], globs := GLO.gx, hints := [], loops := [], inl := [], sta := true } : Ctx)
theorem loops : bq (Tryd.f108.body.getD .skip) = [] := by kernel_rfl
noncomputable def bg : Abs.Spec := fun args K => match args with
 | [.v (.int .i64 f), .sl (.ints .u8 g)] => P.aah f g (fun b a d c e => K (.fn (.func 130) [] [.sta [.v (.int .i64 b), .arr .u64 25 a, .v (.int .i64 d), .v (.bool c)], .sta [.v (.int .i64 e)]]))
 | _ => none
noncomputable def spec : Abs.Spec := fun args K => bg (tu [.any, .sl (.ints .u8 [])] args) K
theorem ok0 : Proved Tryd.prog GLO.gx 108 bg := by
 refine dn (D := D) (fn := Tryd.f108) (c := Tryd.f108.body.getD .skip) [.any] (by kernel_rfl) (au (by kernel_rfl)) (by kernel_rfl) (by kernel_rfl) (by kernel_rfl) ⟨ab3.ok, nk.ok, lq.ok, trivial⟩ trivial ?_ ?_
 · rw [loops]; exact trivial
 · intro args K r h
   unfold bg at h
   split at h
   · rw [P.ajl] at h; exact Eq.trans (by kernel_rfl) h
   · cases h
theorem ok : Proved Tryd.prog GLO.gx 108 spec := eu _ ok0
end aah

namespace aa8
noncomputable def D : Ctx := ({ P := Tryd.prog, G := [(25, og.spec), (108, aah.spec), (109, aat.spec), (130, lq.spec), (132, l9.spec)], globs := GLO.gx, hints := [], loops := [], inl := [] } : Ctx)
theorem loops : bq (Tryd.f66.body.getD .skip) = [] := by kernel_rfl
noncomputable def bg : Abs.Spec := fun args K => match args with
 | [.agg [.v (.int .i64 y), .v (.int .i64 z), .v (.int .i64 A), .v (.int .i64 B), .v (.int .i64 C), .v (.bool p)], .sl (.ints .u8 F)] => P.aa8 y z A B C p F (fun q r s t u l w d a m k n e b f g o h c i j G => K (.tuple [.agg [.v (.int .i64 q), .v (.int .i64 r), .v (.int .i64 s), .v (.int .i64 t), .v (.int .i64 u), .v (.bool l), .alt w (.func 130) [] [.sta [.v (.int .i64 d), .arr .u64 25 a, .v (.int .i64 m), .v (.bool k)], .sta [.v (.int .i64 n)]] (.func 132) [] [.sta [.v (.int .i64 e), .arr .u64 8 b, .sl (.ints .u8 f), .v (.int .u64 g)], .sta [.v (.int .i64 o)], .sta [.v (.int .i64 h), .arr .u64 8 c, .sl (.ints .u8 i), .v (.int .u64 j)]]], .v (.bool G)]))
 | _ => none
noncomputable def spec : Abs.Spec := fun args K => bg (tu [.any, .sl (.ints .u8 [])] args) K
theorem ok0 : Proved Tryd.prog GLO.gx 66 bg := by
 refine dn (D := D) (fn := Tryd.f66) (c := Tryd.f66.body.getD .skip) [.agg [.any, .any, .any, .any, .any, .any, .alt (.func 130) [] [.sta [.v (.int .i64 0), .arr .u64 25 [], .v (.int .i64 0), .v (.bool false)], .sta [.v (.int .i64 0)]] (.func 132) [] [.sta [.v (.int .i64 0), .arr .u64 8 [], .sl (.ints .u8 []), .v (.int .u64 0)], .sta [.v (.int .i64 0)], .sta [.v (.int .i64 0), .arr .u64 8 [], .sl (.ints .u8 []), .v (.int .u64 0)]]], .any] (by kernel_rfl) (au (by kernel_rfl)) (by kernel_rfl) (by kernel_rfl) (by kernel_rfl) ⟨og.ok, aah.ok, aat.ok, lq.ok, l9.ok, trivial⟩ trivial ?_ ?_
 · rw [loops]; exact trivial
 · intro args K r h
   unfold bg at h
   split at h
   · rw [P.ahg] at h; exact Eq.trans (by kernel_rfl) h
   · cases h
theorem ok : Proved Tryd.prog GLO.gx 66 spec := eu _ ok0
end aa8

namespace uq
noncomputable def D : Ctx := ({ P := Tryd.prog, G := [(66, aa8.spec), (130, lq.spec), (132, l9.spec)], globs := GLO.gx, hints := [], loops := [], inl := [] } : Ctx)
theorem loops : bq (Tryd.f32.body.getD .skip) = [] := by kernel_rfl
noncomputable def bg : Abs.Spec := fun args K => match args with
 | [.agg [.v (.int .i64 b), .v (.int .i64 c), .v (.int .i64 d), .v (.int .i64 e), .v (.int .i64 f), .v (.bool a)], .sl (.ints .u8 g), .arr .u8 32 h, .sl (.ints .u8 i)] => P.uq b c d e f a g h i (fun j => K (.sl (.ints .u8 j)))
 | _ => none
noncomputable def spec : Abs.Spec := fun args K => bg (tu [.any, .sl (.ints .u8 []), .any, .sl (.ints .u8 [])] args) K
theorem ok0 : Proved Tryd.prog GLO.gx 32 bg := by
 refine dn (D := D) (fn := Tryd.f32) (c := Tryd.f32.body.getD .skip) [.sl (.ints .u8 [])] (by kernel_rfl) (au (by kernel_rfl)) (by kernel_rfl) (by kernel_rfl) (by kernel_rfl) ⟨aa8.ok, lq.ok, l9.ok, trivial⟩ trivial ?_ ?_
 · rw [loops]; exact trivial
 · intro args K r h
   unfold bg at h
   split at h
   · rw [P.anw] at h; exact Eq.trans (by kernel_rfl) h
   · cases h
theorem ok : Proved Tryd.prog GLO.gx 32 spec := eu _ ok0
end uq

namespace ad1
noncomputable def D : Ctx := ({ P := Tryd.prog, G := [(32, uq.spec)], globs := GLO.gx, hints := [], loops := [], inl := [] } : Ctx)
theorem loops : bq (Tryd.f34.body.getD .skip) = [] := by kernel_rfl
noncomputable def bg : Abs.Spec := fun args K => match args with
 | [.agg [.v (.int .i64 b), .v (.int .i64 c), .v (.int .i64 d), .v (.int .i64 e), .v (.int .i64 f), .v (.bool a)], .sl (.ints .u8 g), .sl (.ints .u8 h), .arr .u8 32 i] => P.ad1 b c d e f a g h i (fun j => K (.sl (.ints .u8 j)))
 | _ => none
noncomputable def spec : Abs.Spec := fun args K => bg (tu [.any, .sl (.ints .u8 []), .sl (.ints .u8 []), .any] args) K
theorem ok0 : Proved Tryd.prog GLO.gx 34 bg := by
 refine dn (D := D) (fn := Tryd.f34) (c := Tryd.f34.body.getD .skip) [.sl (.ints .u8 [])] (by kernel_rfl) (au (by kernel_rfl)) (by kernel_rfl) (by kernel_rfl) (by kernel_rfl) ⟨uq.ok, trivial⟩ trivial ?_ ?_
 · rw [loops]; exact trivial
 · intro args K r h
   unfold bg at h
   split at h
   · rw [P.amu] at h; exact Eq.trans (by kernel_rfl) h
   · cases h
theorem ok : Proved Tryd.prog GLO.gx 34 spec := eu _ ok0
end ad1

namespace iy
noncomputable def D : Ctx := ({ P := Tryd.prog, G := [(27, oo.spec), (34, ad1.spec), (112, jm.spec)], globs := GLO.gx, hints := [], loops := [], inl := [] } : Ctx)
theorem loops : bq (Tryd.f74.body.getD .skip) = [] := by kernel_rfl
noncomputable def bg : Abs.Spec := fun args K => match args with
 | [.agg [.v (.int .i64 c), .v (.int .i64 d), .v (.int .i64 e), .v (.int .i64 f), .v (.int .i64 g), .v (.bool a), .sl (.ints .u8 b), .sl (.ints .u8 h), .arr .u8 32 i], .v (.int .u64 j)] => P.iy c d e f g a b h i j (fun k => K (.sl (.ints .u8 k)))
 | _ => none
noncomputable def spec : Abs.Spec := fun args K => bg (tu [.agg [.any, .any, .any, .any, .any, .any, .sl (.ints .u8 []), .sl (.ints .u8 []), .any], .any] args) K
theorem ok0 : Proved Tryd.prog GLO.gx 74 bg := by
 refine dn (D := D) (fn := Tryd.f74) (c := Tryd.f74.body.getD .skip) [.sl (.ints .u8 [])] (by kernel_rfl) (au (by kernel_rfl)) (by kernel_rfl) (by kernel_rfl) (by kernel_rfl) ⟨oo.ok, ad1.ok, jm.ok, trivial⟩ trivial ?_ ?_
 · rw [loops]; exact trivial
 · intro args K r h
   unfold bg at h
   split at h
   · rw [P.afu] at h; exact Eq.trans (by kernel_rfl) h
   · cases h
theorem ok : Proved Tryd.prog GLO.gx 74 spec := eu _ ok0
end iy

namespace oz
noncomputable def D : Ctx := ({ P := Tryd.prog, G := [(27, oo.spec), (112, jm.spec)], globs := GLO.gx, hints := [], loops := [], inl := [] } : Ctx)
theorem loops : bq (Tryd.f135.body.getD .skip) = [] := by kernel_rfl
noncomputable def bg : Abs.Spec := fun args K => match args with
 | [.agg [.v (.int .i64 c), .v (.int .i64 d), .v (.int .i64 e), .v (.int .i64 f), .v (.int .i64 g), .v (.bool a), .sl (.ints .u8 b), .sl (.ints .u8 h), .arr .u8 32 i], .v (.int .i64 j), .v (.int .u64 k)] => P.oz c d e f g a b h i j k (fun l => K (.arr .u8 32 l))
 | _ => none
noncomputable def spec : Abs.Spec := fun args K => bg (tu [.agg [.any, .any, .any, .any, .any, .any, .sl (.ints .u8 []), .sl (.ints .u8 []), .any], .any, .any] args) K
theorem ok0 : Proved Tryd.prog GLO.gx 135 bg := by
 refine dn (D := D) (fn := Tryd.f135) (c := Tryd.f135.body.getD .skip) [.any] (by kernel_rfl) (au (by kernel_rfl)) (by kernel_rfl) (by kernel_rfl) (by kernel_rfl) ⟨oo.ok, jm.ok, trivial⟩ trivial ?_ ?_
 · rw [loops]; exact trivial
 · intro args K r h
   unfold bg at h
   split at h
   · rw [P.aem] at h; exact Eq.trans (by kernel_rfl) h
   · cases h
theorem ok : Proved Tryd.prog GLO.gx 135 spec := eu _ ok0
end oz

namespace ig
noncomputable def D : Ctx := ({ P := Tryd.prog, G := [(32, uq.spec), (62, jq.spec), (135, oz.spec)], globs := GLO.gx, hints := [], loops := [], inl := [] } : Ctx)
theorem loops : bq (Tryd.f113.body.getD .skip) = [] := by kernel_rfl
noncomputable def bg : Abs.Spec := fun args K => match args with
 | [.agg [.v (.int .i64 c), .v (.int .i64 d), .v (.int .i64 e), .v (.int .i64 f), .v (.int .i64 g), .v (.bool a), .sl (.ints .u8 b), .sl (.ints .u8 h), .arr .u8 32 i], .v (.int .i64 j), .v (.int .u64 k), .sl (.rows .u8 l)] => P.ig c d e f g a b h i j k l (fun m => K (.sl (.ints .u8 m)))
 | _ => none
noncomputable def spec : Abs.Spec := fun args K => bg (tu [.agg [.any, .any, .any, .any, .any, .any, .sl (.ints .u8 []), .sl (.ints .u8 []), .any], .any, .any, .sl (.rows .u8 [])] args) K
theorem ok0 : Proved Tryd.prog GLO.gx 113 bg := by
 refine dn (D := D) (fn := Tryd.f113) (c := Tryd.f113.body.getD .skip) [.sl (.ints .u8 [])] (by kernel_rfl) (au (by kernel_rfl)) (by kernel_rfl) (by kernel_rfl) (by kernel_rfl) ⟨uq.ok, jq.ok, oz.ok, trivial⟩ trivial ?_ ?_
 · rw [loops]; exact trivial
 · intro args K r h
   unfold bg at h
   split at h
   · rw [P.af4] at h; exact Eq.trans (by kernel_rfl) h
   · cases h
theorem ok : Proved Tryd.prog GLO.gx 113 spec := eu _ ok0
end ig

namespace jc
abbrev X7 := P.bkx
def S7 : X7 → ASt := fun (p, q, r, o, a, b, c, d, e, f, g, h, i, j, k, l, m, n) => ⟨[(7, .own 80), (1, .v (.int .i64 p)), (2, .v (.int .u64 q)), (3, .ptr 0 0), (8, .v (.int .u64 r)), (9, .ptr 3 0), (10, .v (.int .i64 o))], [(80, some ⟨.row 142 (.cols a [.ints .i64 b, .rows .u8 c]), false⟩), (0, some ⟨.box 93 [.v (.int .i64 d), .v (.int .i64 e), .v (.int .i64 f), .v (.int .i64 g), .v (.int .i64 h), .v (.bool i), .sl (.ints .u8 j), .sl (.ints .u8 k), .arr .u8 32 l], false⟩), (3, some ⟨.box 142 [.v (.int .i64 m), .sl (.ints .u8 n)], false⟩)], 81, 82⟩
def V7 : ASt → Option X7
 | ⟨[(7, .own 80), (1, .v (.int .i64 p)), (2, .v (.int .u64 q)), (3, .ptr 0 0), (8, .v (.int .u64 r)), (9, .ptr 3 0), (10, .v (.int .i64 o))], [(80, some ⟨.row 142 (.cols a [.ints .i64 b, .rows .u8 c]), false⟩), (0, some ⟨.box 93 [.v (.int .i64 d), .v (.int .i64 e), .v (.int .i64 f), .v (.int .i64 g), .v (.int .i64 h), .v (.bool i), .sl (.ints .u8 j), .sl (.ints .u8 k), .arr .u8 32 l], false⟩), (3, some ⟨.box 142 [.v (.int .i64 m), .sl (.ints .u8 n)], false⟩)], 81, 82⟩ => some (p, q, r, o, a, b, c, d, e, f, g, h, i, j, k, l, m, n)
 | _ => none
theorem bgd (st) (x) (h : V7 st = some x) : st = S7 x := by
 unfold V7 at h
 split at h
 · cases h; rfl
 · cases h
abbrev Y7 := P.bpu
abbrev X3 := P.bjj
def S3 : X3 → ASt := fun (m, n, o, j, k, l, a, b, c, d, e, f, g, h, i) => ⟨[(7, .own 1), (1, .v (.int .i64 m)), (2, .v (.int .u64 n)), (3, .ptr 0 0), (8, .v (.int .u64 o))], [(1, some ⟨.row 142 (.cols j [.ints .i64 k, .rows .u8 l]), false⟩), (0, some ⟨.box 93 [.v (.int .i64 a), .v (.int .i64 b), .v (.int .i64 c), .v (.int .i64 d), .v (.int .i64 e), .v (.bool f), .sl (.ints .u8 g), .sl (.ints .u8 h), .arr .u8 32 i], false⟩)], 2, 82⟩
def V3 : ASt → Option X3
 | ⟨[(7, .own 1), (1, .v (.int .i64 m)), (2, .v (.int .u64 n)), (3, .ptr 0 0), (8, .v (.int .u64 o))], [(1, some ⟨.row 142 (.cols j [.ints .i64 k, .rows .u8 l]), false⟩), (0, some ⟨.box 93 [.v (.int .i64 a), .v (.int .i64 b), .v (.int .i64 c), .v (.int .i64 d), .v (.int .i64 e), .v (.bool f), .sl (.ints .u8 g), .sl (.ints .u8 h), .arr .u8 32 i], false⟩)], 2, 82⟩ => some (m, n, o, j, k, l, a, b, c, d, e, f, g, h, i)
 | _ => none
theorem apf (st) (x) (h : V3 st = some x) : st = S3 x := by
 unfold V3 at h
 split at h
 · cases h; rfl
 · cases h
abbrev Y3 := P.bob
def E7 (K : AExit → ASt → Option R) : Y7 → Option R := (fun x => K (.exit 2) (S7 x))
noncomputable def L7 : xw := fun st K => ag4 (V7 st) fun x => P.bpf x (E7 K)
def E3 (K : AExit → ASt → Option R) : Y3 → Option R := (fun x => K (.exit 0) (S3 x))
noncomputable def L3 : xw := fun st K => ag4 (V3 st) fun x => P.bn6 x (E3 K)
noncomputable def D : Ctx := ({ P := Tryd.prog, G := [(74, iy.spec), (113, ig.spec)], globs := GLO.gx, hints := [(7, ⟨[1, 2, 3, 8, 9, 10], [(7, 142, .cols 0 [.ints .i64 [], .rows .u8 []])], [6], [], some (80, [0, 3]), [], []⟩), (3, ⟨[1, 2, 3, 8], [(7, 142, .cols 0 [.ints .i64 [], .rows .u8 []])], [6], [], none, [], []⟩)], loops := [(7, L7), (3, L3)], inl := [] } : Ctx)
theorem bci (K) (next) (x) : qb D (dw Tryd.f75 7) K next (S7 x) = P.bkc x (fun x => next (S7 x)) (E7 K) := by kernel_rfl
theorem bha : ou D (dw Tryd.f75 7) := jf S7 bgd (by kernel_rfl) P.brw bci
theorem aic (K) (next) (x) : qb D (dw Tryd.f75 3) K next (S3 x) = P.blq x (fun x => next (S3 x)) (E3 K) := by kernel_rfl
theorem aol : ou D (dw Tryd.f75 3) := jf S3 apf (by kernel_rfl) P.bse aic
theorem loops : bq (Tryd.f75.body.getD .skip) = [dw Tryd.f75 3, dw Tryd.f75 7] := by kernel_rfl
noncomputable def bg : Abs.Spec := fun args K => match args with
 | [.agg [.v (.int .i64 c), .v (.int .i64 d), .v (.int .i64 e), .v (.int .i64 f), .v (.int .i64 g), .v (.bool a), .sl (.ints .u8 b), .sl (.ints .u8 h), .arr .u8 32 i], .v (.int .i64 j), .v (.int .u64 k)] => P.jc c d e f g a b h i j k (fun l => K (.sl (.ints .u8 l)))
 | _ => none
noncomputable def spec : Abs.Spec := fun args K => bg (tu [.agg [.any, .any, .any, .any, .any, .any, .sl (.ints .u8 []), .sl (.ints .u8 []), .any], .any, .any] args) K
theorem ok0 : Proved Tryd.prog GLO.gx 75 bg := by
 refine dn (D := D) (fn := Tryd.f75) (c := Tryd.f75.body.getD .skip) [.sl (.ints .u8 [])] (by kernel_rfl) (au (by kernel_rfl)) (by kernel_rfl) (by kernel_rfl) (by kernel_rfl) ⟨iy.ok, ig.ok, trivial⟩ trivial ?_ ?_
 · rw [loops]; exact ⟨aol, bha, trivial⟩
 · intro args K r h
   unfold bg at h
   split at h
   · rw [P.afv] at h; exact Eq.trans (by kernel_rfl) h
   · cases h
theorem ok : Proved Tryd.prog GLO.gx 75 spec := eu _ ok0
end jc

namespace jh
noncomputable def D : Ctx := ({ P := Tryd.prog, G := [(25, og.spec)], globs := GLO.gx, hints := [], loops := [], inl := [] } : Ctx)
theorem loops : bq (Tryd.f72.body.getD .skip) = [] := by kernel_rfl
noncomputable def bg : Abs.Spec := fun args K => match args with
 | [.agg [.v (.int .i64 k), .v (.int .i64 l), .v (.int .i64 m), .v (.int .i64 n), .v (.int .i64 o), .v (.bool c)], .sl (.ints .u8 p), .sl (.ints .u8 q), .arr .u8 32 r] => P.jh k l m n o c p q r (fun d e f g h a b i j s => K (.tuple [.agg [.v (.int .i64 d), .v (.int .i64 e), .v (.int .i64 f), .v (.int .i64 g), .v (.int .i64 h), .v (.bool a), .sl (.ints .u8 b), .sl (.ints .u8 i), .arr .u8 32 j], .v (.bool s)]))
 | _ => none
noncomputable def spec : Abs.Spec := fun args K => bg (tu [.any, .sl (.ints .u8 []), .sl (.ints .u8 []), .any] args) K
theorem ok0 : Proved Tryd.prog GLO.gx 72 bg := by
 refine dn (D := D) (fn := Tryd.f72) (c := Tryd.f72.body.getD .skip) [.agg [.any, .any, .any, .any, .any, .any, .sl (.ints .u8 []), .sl (.ints .u8 []), .any], .any] (by kernel_rfl) (au (by kernel_rfl)) (by kernel_rfl) (by kernel_rfl) (by kernel_rfl) ⟨og.ok, trivial⟩ trivial ?_ ?_
 · rw [loops]; exact trivial
 · intro args K r h
   unfold bg at h
   split at h
   · rw [P.aip] at h; exact Eq.trans (by kernel_rfl) h
   · cases h
theorem ok : Proved Tryd.prog GLO.gx 72 spec := eu _ ok0
end jh

end
