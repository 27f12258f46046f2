/-
  ForsRight, part 15: an interpreter of my own over abstract values, the pure functions, the walks and the plain law.
-/

import Derived.Test.YtjhnljhjpnjieaaDoorForsRightK
import Derived.Test.YtjhnljhjpnjieaaDoorForsRightG
import Derived.Test.YtjhnljhjpnjieaaDoorProg
import Derived.Test.YtjhnljhjpnjieaaDoorForsRightJ
import Derived.Test.YtjhnljhjpnjieaaDoorForsRightM
import Derived.Test.YtjhnljhjpnjieaaDoorForsRightN
import Derived.KernelRfl
import Derived.Test.YtjhnljhjpnjieaaDoorForsRightI

section
open Go Go.Abs Go.Proofs
set_option maxRecDepth 100000
set_option maxHeartbeats 0
set_option linter.unusedVariables false

namespace uy
noncomputable def D : Ctx := ({ P := Tryd.prog, G := [(105, gy.spec), (117, oq.spec), (118, aay.spec), (119, om.spec), (120, aa3.spec), (121, oh.spec)], globs := GLO.gx, hints := [], loops := [], inl := [] } : Ctx)
theorem loops : bq (Tryd.f88.body.getD .skip) = [] := by kernel_rfl
noncomputable def bg : Abs.Spec := fun args K => match args with
 | [.agg [.v (.int .i64 c), .arr .u64 8 a, .sl (.ints .u8 d), .v (.int .u64 e)], .sl (.ints .u8 i)] => P.uy c a d e i (fun f b g h => K (.agg [.v (.int .i64 f), .arr .u64 8 b, .fr 5 (.ints .u8 g), .v (.int .u64 h)]))
 | _ => none
noncomputable def spec : Abs.Spec := fun args K => bg (tu [.agg [.any, .any, .sl (.ints .u8 []), .any], .sl (.ints .u8 [])] args) K
theorem ok0 : Proved Tryd.prog GLO.gx 88 bg := by
 refine dn (D := D) (fn := Tryd.f88) (c := Tryd.f88.body.getD .skip) [.agg [.any, .any, .fr 5 (.ints .u8 []), .any]] (by kernel_rfl) (au (by kernel_rfl)) (by kernel_rfl) (by kernel_rfl) (by kernel_rfl) ⟨gy.ok, oq.ok, aay.ok, om.ok, aa3.ok, oh.ok, trivial⟩ trivial ?_ ?_
 · rw [loops]; exact trivial
 · intro args K r h
   unfold bg at h
   split at h
   · rw [P.aqn] at h; exact Eq.trans (by kernel_rfl) h
   · cases h
theorem ok : Proved Tryd.prog GLO.gx 88 spec := eu _ ok0
end uy

namespace ab8
noncomputable def D : Ctx := ({ P := Tryd.prog, G := [], globs := GLO.gx, hints := [], loops := [], inl := [] } : Ctx)
theorem loops : bq (Tryd.f115.body.getD .skip) = [] := by kernel_rfl
noncomputable def bg : Abs.Spec := fun args K => match args with
 | [.v (.int .i64 a)] => P.ab8 a (fun b c => K (.tuple [.arr .u64 8 b, .v (.bool c)]))
 | _ => none
noncomputable def spec : Abs.Spec := bg
theorem ok0 : Proved Tryd.prog GLO.gx 115 bg := by
 refine dn (D := D) (fn := Tryd.f115) (c := Tryd.f115.body.getD .skip) [.any, .any] (by kernel_rfl) (au (by kernel_rfl)) (by kernel_rfl) (by kernel_rfl) (by kernel_rfl) trivial trivial ?_ ?_
 · rw [loops]; exact trivial
 · intro args K r h
   unfold bg at h
   split at h
   · rw [P.amz] at h; exact Eq.trans (by kernel_rfl) h
   · cases h
theorem ok : Proved Tryd.prog GLO.gx 115 spec := ok0
end ab8

namespace aez
noncomputable def D : Ctx := ({ P := Tryd.prog, G := [(115, ab8.spec)], globs := GLO.gx, hints := [], loops := [], inl := [] } : Ctx)
theorem loops : bq (Tryd.f86.body.getD .skip) = [] := by kernel_rfl
noncomputable def bg : Abs.Spec := fun args K => match args with
 | [.v (.int .i64 e)] => P.aez e (fun b a c d f => K (.tuple [.agg [.v (.int .i64 b), .arr .u64 8 a, .fr 5 (.ints .u8 c), .v (.int .u64 d)], .v (.int .i64 f)]))
 | _ => none
noncomputable def spec : Abs.Spec := bg
theorem ok0 : Proved Tryd.prog GLO.gx 86 bg := by
 refine dn (D := D) (fn := Tryd.f86) (c := Tryd.f86.body.getD .skip) [.agg [.any, .any, .fr 5 (.ints .u8 []), .any], .any] (by kernel_rfl) (au (by kernel_rfl)) (by kernel_rfl) (by kernel_rfl) (by kernel_rfl) ⟨ab8.ok, trivial⟩ trivial ?_ ?_
 · rw [loops]; exact trivial
 · intro args K r h
   unfold bg at h
   split at h
   · rw [P.aqf] at h; exact Eq.trans (by kernel_rfl) h
   · cases h
theorem ok : Proved Tryd.prog GLO.gx 86 spec := ok0
end aez

namespace rz
noncomputable def D : Ctx := ({ P := Tryd.prog, G := [(62, jq.spec), (86, aez.spec), (88, uy.spec)], globs := GLO.gx, hints := [], loops := [], inl := [] } : Ctx)
theorem loops : bq (Tryd.f131.body.getD .skip) = [] := by kernel_rfl
noncomputable def bg : Abs.Spec := fun args K => match args with
 | [.v (.int .i64 e), .v (.int .i64 f), .sl (.ints .u8 g)] => P.rz e f g (fun b a c d => K (.agg [.v (.int .i64 b), .arr .u64 8 a, .fr 5 (.ints .u8 c), .v (.int .u64 d)]))
 | _ => none
noncomputable def spec : Abs.Spec := fun args K => bg (tu [.any, .any, .sl (.ints .u8 [])] args) K
theorem ok0 : Proved Tryd.prog GLO.gx 131 bg := by
 refine dn (D := D) (fn := Tryd.f131) (c := Tryd.f131.body.getD .skip) [.agg [.any, .any, .fr 5 (.ints .u8 []), .any]] (by kernel_rfl) (au (by kernel_rfl)) (by kernel_rfl) (by kernel_rfl) (by kernel_rfl) ⟨jq.ok, aez.ok, uy.ok, trivial⟩ trivial ?_ ?_
 · rw [loops]; exact trivial
 · intro args K r h
   unfold bg at h
   split at h
   · rw [P.ajt] at h; exact Eq.trans (by kernel_rfl) h
   · cases h
theorem ok : Proved Tryd.prog GLO.gx 131 spec := eu _ ok0
end rz

namespace qp
noncomputable def D : Ctx := ({ P := Tryd.prog, G := [], globs := GLO.gx, hints := [], loops := [], inl := [] } : Ctx)
theorem loops : bq (Tryd.f116.body.getD .skip) = [] := by kernel_rfl
noncomputable def bg : Abs.Spec := fun args K => match args with
 | [.v (.int .i64 a)] => P.qp a (fun b => K (.v (.int .i64 b)))
 | _ => none
noncomputable def spec : Abs.Spec := bg
theorem ok0 : Proved Tryd.prog GLO.gx 116 bg := by
 refine dn (D := D) (fn := Tryd.f116) (c := Tryd.f116.body.getD .skip) [.any] (by kernel_rfl) (au (by kernel_rfl)) (by kernel_rfl) (by kernel_rfl) (by kernel_rfl) trivial trivial ?_ ?_
 · rw [loops]; exact trivial
 · intro args K r h
   unfold bg at h
   split at h
   · rw [P.ahm] at h; exact Eq.trans (by kernel_rfl) h
   · cases h
theorem ok : Proved Tryd.prog GLO.gx 116 spec := ok0
end qp

namespace acp
abbrev X10 := P.bje
def S10 : X10 → ASt := fun (g, d, e, f, a, b, c, h) => ⟨[(7, .own 40), (1, .ptr 0 0), (3, .v (.int .i64 g)), (45, .arr .u64 8 d), (46, .v (.int .i64 e))], [(40, some ⟨.row 5 (.ints .u8 f), false⟩), (0, some ⟨.box 116 [.v (.int .i64 a), .arr .u64 8 b, .own 5, .v (.int .u64 c)], false⟩), (5, some ⟨.row 5 (.ints .u8 h), false⟩)], 41, 62⟩
def V10 : ASt → Option X10
 | ⟨[(7, .own 40), (1, .ptr 0 0), (3, .v (.int .i64 g)), (45, .arr .u64 8 d), (46, .v (.int .i64 e))], [(40, some ⟨.row 5 (.ints .u8 f), false⟩), (0, some ⟨.box 116 [.v (.int .i64 a), .arr .u64 8 b, .own 5, .v (.int .u64 c)], false⟩), (5, some ⟨.row 5 (.ints .u8 h), false⟩)], 41, 62⟩ => some (g, d, e, f, a, b, c, h)
 | _ => none
theorem atm (st) (x) (h : V10 st = some x) : st = S10 x := by
 unfold V10 at h
 split at h
 · cases h; rfl
 · cases h
abbrev Y10 := P.boq
def E10 (K : AExit → ASt → Option R) : Y10 → Option R := (fun x => K (.exit 0) (S10 x))
noncomputable def L10 : xw := fun st K => ag4 (V10 st) fun x => P.bqs x (E10 K)
noncomputable def D : Ctx := ({ P := Tryd.prog, G := [(60, tq.spec), (88, uy.spec), (116, qp.spec)], globs := GLO.gx, hints := [(10, ⟨[1, 3, 45, 46], [(7, 5, .ints .u8 [])], [2], [], some (40, [0, 5]), [], []⟩)], loops := [(10, L10)], inl := [] } : Ctx)
theorem apl (K) (next) (x) : qb D (dw Tryd.f87 10) K next (S10 x) = P.bik x (fun x => next (S10 x)) (E10 K) := by kernel_rfl
theorem atr : ou D (dw Tryd.f87 10) := jf S10 atm (by kernel_rfl) P.bsh apl
theorem loops : bq (Tryd.f87.body.getD .skip) = [dw Tryd.f87 10] := by kernel_rfl
noncomputable def bg : Abs.Spec := fun args K => match args with
 | [.agg [.v (.int .i64 b), .arr .u64 8 a, .sl (.ints .u8 c), .v (.int .u64 d)]] => P.acp b a c d (fun e => K (.fr 5 (.ints .u8 e)))
 | _ => none
noncomputable def spec : Abs.Spec := fun args K => bg (tu [.agg [.any, .any, .sl (.ints .u8 []), .any]] args) K
theorem ok0 : Proved Tryd.prog GLO.gx 87 bg := by
 refine ap3 (D := D) (fn := Tryd.f87) (c := Tryd.f87.body.getD .skip) 5 (.ints .u8 []) (by kernel_rfl) (au (by kernel_rfl)) (by kernel_rfl) (by kernel_rfl) (by kernel_rfl) ⟨tq.ok, uy.ok, qp.ok, trivial⟩ trivial ?_ ?_
 · rw [loops]; exact ⟨atr, trivial⟩
 · intro args K r h
   unfold bg at h
   split at h
   · rw [P.aq8] at h; exact Eq.trans (by kernel_rfl) h
   · cases h
theorem ok : Proved Tryd.prog GLO.gx 87 spec := eu _ ok0
end acp

namespace ru
noncomputable def D : Ctx := ({ P := Tryd.prog, G := [(62, jq.spec)], globs := GLO.gx, hints := [], loops := [], inl := [] } : Ctx)
theorem loops : bq (Tryd.f133.body.getD .skip) = [] := by kernel_rfl
noncomputable def bg : Abs.Spec := fun args K => match args with
 | [.arr .u8 32 a] => P.ru a (fun b => K (.fr 5 (.ints .u8 b)))
 | _ => none
noncomputable def spec : Abs.Spec := bg
theorem ok0 : Proved Tryd.prog GLO.gx 133 bg := by
 refine dn (D := D) (fn := Tryd.f133) (c := Tryd.f133.body.getD .skip) [.fr 5 (.ints .u8 [])] (by kernel_rfl) (au (by kernel_rfl)) (by kernel_rfl) (by kernel_rfl) (by kernel_rfl) ⟨jq.ok, trivial⟩ trivial ?_ ?_
 · rw [loops]; exact trivial
 · intro args K r h
   unfold bg at h
   split at h
   · rw [P.ale] at h; exact Eq.trans (by kernel_rfl) h
   · cases h
theorem ok : Proved Tryd.prog GLO.gx 133 spec := ok0
end ru

namespace l9
noncomputable def D : Ctx := ({ P := Tryd.prog, G := [(62, jq.spec), (87, acp.spec), (88, uy.spec), (133, ru.spec)], globs := GLO.gx, hints := [], loops := [], inl := [] } : Ctx)
theorem loops : bq (Tryd.f132.body.getD .skip) = [] := by kernel_rfl
noncomputable def bg : Abs.Spec := fun args K => match args with
 | [.arr .u8 32 i, .sl (.ints .u8 j), .sta [.v (.int .i64 c), .arr .u64 8 a, .sl (.ints .u8 d), .v (.int .u64 e)], .sta [.v (.int .i64 k)], .sta [.v (.int .i64 f), .arr .u64 8 b, .sl (.ints .u8 g), .v (.int .u64 h)]] => P.l9 i j c a d e k f b g h (fun l => K (.sl (.ints .u8 l)))
 | _ => none
noncomputable def spec : Abs.Spec := fun args K => bg (tu [.any, .sl (.ints .u8 []), .agg [.any, .any, .sl (.ints .u8 []), .any], .any, .agg [.any, .any, .sl (.ints .u8 []), .any]] args) K
theorem ok0 : Proved Tryd.prog GLO.gx 132 bg := by
 refine dn (D := D) (fn := Tryd.f132) (c := Tryd.f132.body.getD .skip) [.sl (.ints .u8 [])] (by kernel_rfl) (au (by kernel_rfl)) (by kernel_rfl) (by kernel_rfl) (by kernel_rfl) ⟨jq.ok, acp.ok, uy.ok, ru.ok, trivial⟩ trivial ?_ ?_
 · rw [loops]; exact trivial
 · intro args K r h
   unfold bg at h
   split at h
   · rw [P.agu] at h; exact Eq.trans (by kernel_rfl) h
   · cases h
theorem ok : Proved Tryd.prog GLO.gx 132 spec := eu _ ok0
end l9

namespace aat
noncomputable def D : Ctx := ({ P := Tryd.prog, G := [(131, rz.spec), (132, l9.spec)], globs := GLO.gx, hints := [], loops := [], inl := [], sta := true } : Ctx)
theorem loops : bq (Tryd.f109.body.getD .skip) = [] := by kernel_rfl
noncomputable def bg : Abs.Spec := fun args K => match args with
 | [.v (.int .i64 j), .sl (.ints .u8 k)] => P.aat j k (fun c a d e i f b g h => K (.fn (.func 132) [] [.sta [.v (.int .i64 c), .arr .u64 8 a, .sl (.ints .u8 d), .v (.int .u64 e)], .sta [.v (.int .i64 i)], .sta [.v (.int .i64 f), .arr .u64 8 b, .sl (.ints .u8 g), .v (.int .u64 h)]]))
 | _ => none
noncomputable def spec : Abs.Spec := fun args K => bg (tu [.any, .sl (.ints .u8 [])] args) K
theorem ok0 : Proved Tryd.prog GLO.gx 109 bg := by
 refine dn (D := D) (fn := Tryd.f109) (c := Tryd.f109.body.getD .skip) [.agg [.agg [.any, .any, .sl (.ints .u8 []), .any], .any, .agg [.any, .any, .sl (.ints .u8 []), .any]]] (by kernel_rfl) (au (by kernel_rfl)) (by kernel_rfl) (by kernel_rfl) (by kernel_rfl) ⟨rz.ok, l9.ok, trivial⟩ trivial ?_ ?_
 · rw [loops]; exact trivial
 · intro args K r h
   unfold bg at h
   split at h
   · rw [P.ajp] at h; exact Eq.trans (by kernel_rfl) h
   · cases h
theorem ok : Proved Tryd.prog GLO.gx 109 spec := eu _ ok0
end aat

namespace fq
noncomputable def D : Ctx := ({ P := Tryd.prog, G := [], globs := GLO.gx, hints := [], loops := [], inl := [] } : Ctx)
theorem loops : bq (Tryd.f153.body.getD .skip) = [] := by kernel_rfl
noncomputable def bg : Abs.Spec := fun args K => match args with
 | [.v (.int .u64 a), .v (.int .i64 b)] => P.fq a b (fun c => K (.v (.int .u64 c)))
 | _ => none
noncomputable def spec : Abs.Spec := bg
theorem ok0 : Proved Tryd.prog GLO.gx 153 bg := by
 refine dn (D := D) (fn := Tryd.f153) (c := Tryd.f153.body.getD .skip) [.any] (by kernel_rfl) (au (by kernel_rfl)) (by kernel_rfl) (by kernel_rfl) (by kernel_rfl) trivial trivial ?_ ?_
 · rw [loops]; exact trivial
 · intro args K r h
   unfold bg at h
   split at h
   · rw [P.p8] at h; exact Eq.trans (by kernel_rfl) h
   · cases h
theorem ok : Proved Tryd.prog GLO.gx 153 spec := ok0
end fq

namespace d9
abbrev bsn := P.zt8
def bkg : bsn → ASt := fun (d, a, b, c) => ⟨[(0, .ptr 0 0), (2, .ptr 2 0), (4, .v (.int .i64 d))], [(1, some ⟨.box 121 [.arr .u64 25 a], false⟩), (0, some ⟨.box 121 [.arr .u64 25 b], false⟩), (2, some ⟨.box 189 [.arr .u64 5 c], false⟩)], 3, 44⟩
def bnp : ASt → Option bsn
 | ⟨[(0, .ptr 0 0), (2, .ptr 2 0), (4, .v (.int .i64 d))], [(1, some ⟨.box 121 [.arr .u64 25 a], false⟩), (0, some ⟨.box 121 [.arr .u64 25 b], false⟩), (2, some ⟨.box 189 [.arr .u64 5 c], false⟩)], 3, 44⟩ => some (d, a, b, c)
 | _ => none
theorem bf6 (st) (x) (h : bnp st = some x) : st = bkg x := by
 unfold bnp at h
 split at h
 · cases h; rfl
 · cases h
abbrev Y2_2 := P.zy8
abbrev brz := P.zt9
def blo : brz → ASt := fun (f, g, h, i, e, a, b, c, d) => ⟨[(0, .ptr 0 0), (1, .v (.int .u64 f)), (4, .ptr 3 0), (5, .v (.int .i64 g)), (6, .v (.int .u64 h)), (7, .v (.int .i64 i)), (16, .v (.int .i64 e))], [(3, some ⟨.box 189 [.arr .u64 5 a], false⟩), (2, some ⟨.box 189 [.arr .u64 5 b], false⟩), (1, some ⟨.box 121 [.arr .u64 25 c], false⟩), (0, some ⟨.box 121 [.arr .u64 25 d], false⟩)], 4, 116⟩
def bm0 : ASt → Option brz
 | ⟨[(0, .ptr 0 0), (1, .v (.int .u64 f)), (4, .ptr 3 0), (5, .v (.int .i64 g)), (6, .v (.int .u64 h)), (7, .v (.int .i64 i)), (16, .v (.int .i64 e))], [(3, some ⟨.box 189 [.arr .u64 5 a], false⟩), (2, some ⟨.box 189 [.arr .u64 5 b], false⟩), (1, some ⟨.box 121 [.arr .u64 25 c], false⟩), (0, some ⟨.box 121 [.arr .u64 25 d], false⟩)], 4, 116⟩ => some (f, g, h, i, e, a, b, c, d)
 | _ => none
theorem bhk (st) (x) (h : bm0 st = some x) : st = blo x := by
 unfold bm0 at h
 split at h
 · cases h; rfl
 · cases h
abbrev Y1_6 := P.zy9
abbrev bry := P.bjo
def biv : bry → ASt := fun (f, e, a, b, c, d) => ⟨[(0, .ptr 0 0), (1, .v (.int .u64 f)), (4, .ptr 3 0), (16, .v (.int .i64 e))], [(0, some ⟨.box 121 [.arr .u64 25 a], false⟩), (1, some ⟨.box 121 [.arr .u64 25 b], false⟩), (2, some ⟨.box 189 [.arr .u64 5 c], false⟩), (3, some ⟨.box 189 [.arr .u64 5 d], false⟩)], 4, 116⟩
def bqm : ASt → Option bry
 | ⟨[(0, .ptr 0 0), (1, .v (.int .u64 f)), (4, .ptr 3 0), (16, .v (.int .i64 e))], [(0, some ⟨.box 121 [.arr .u64 25 a], false⟩), (1, some ⟨.box 121 [.arr .u64 25 b], false⟩), (2, some ⟨.box 189 [.arr .u64 5 c], false⟩), (3, some ⟨.box 189 [.arr .u64 5 d], false⟩)], 4, 116⟩ => some (f, e, a, b, c, d)
 | _ => none
theorem bgy (st) (x) (h : bqm st = some x) : st = biv x := by
 unfold bqm at h
 split at h
 · cases h; rfl
 · cases h
abbrev Y1_2 := P.bo1
abbrev bjt := P.bj2
def bab : bjt → ASt := fun (g, h, e, f, a, b, c, d) => ⟨[(0, .ptr 0 0), (1, .v (.int .u64 g)), (8, .v (.int .u64 h)), (51, .arr .i64 24 e), (52, .v (.int .i64 f))], [(3, some ⟨.box 189 [.arr .u64 5 a], false⟩), (2, some ⟨.box 189 [.arr .u64 5 b], false⟩), (1, some ⟨.box 121 [.arr .u64 25 c], false⟩), (0, some ⟨.box 121 [.arr .u64 25 d], false⟩)], 4, 116⟩
def bhj : ASt → Option bjt
 | ⟨[(0, .ptr 0 0), (1, .v (.int .u64 g)), (8, .v (.int .u64 h)), (51, .arr .i64 24 e), (52, .v (.int .i64 f))], [(3, some ⟨.box 189 [.arr .u64 5 a], false⟩), (2, some ⟨.box 189 [.arr .u64 5 b], false⟩), (1, some ⟨.box 121 [.arr .u64 25 c], false⟩), (0, some ⟨.box 121 [.arr .u64 25 d], false⟩)], 4, 116⟩ => some (g, h, e, f, a, b, c, d)
 | _ => none
theorem bdw (st) (x) (h : bhj st = some x) : st = bab x := by
 unfold bhj at h
 split at h
 · cases h; rfl
 · cases h
abbrev bnl := P.bq9
abbrev bj3 := P.bke
def bcf : bj3 → ASt := fun (h, f, g, a, b, c, d, e) => ⟨[(0, .ptr 0 0), (1, .v (.int .u64 h)), (11, .v (.int .i64 f)), (12, .ptr 4 0), (83, .v (.int .i64 g))], [(3, some ⟨.box 189 [.arr .u64 5 a], false⟩), (2, some ⟨.box 189 [.arr .u64 5 b], false⟩), (1, some ⟨.box 121 [.arr .u64 25 c], false⟩), (0, some ⟨.box 121 [.arr .u64 25 d], false⟩), (4, some ⟨.box 189 [.arr .u64 5 e], false⟩)], 5, 116⟩
def bhu : ASt → Option bj3
 | ⟨[(0, .ptr 0 0), (1, .v (.int .u64 h)), (11, .v (.int .i64 f)), (12, .ptr 4 0), (83, .v (.int .i64 g))], [(3, some ⟨.box 189 [.arr .u64 5 a], false⟩), (2, some ⟨.box 189 [.arr .u64 5 b], false⟩), (1, some ⟨.box 121 [.arr .u64 25 c], false⟩), (0, some ⟨.box 121 [.arr .u64 25 d], false⟩), (4, some ⟨.box 189 [.arr .u64 5 e], false⟩)], 5, 116⟩ => some (h, f, g, a, b, c, d, e)
 | _ => none
theorem be2 (st) (x) (h : bhu st = some x) : st = bcf x := by
 unfold bhu at h
 split at h
 · cases h; rfl
 · cases h
abbrev bpk := P.bo6
abbrev bi0 := P.bl0
def bcc : bi0 → ASt := fun (f, e, a, b, c, d) => ⟨[(0, .ptr 0 0), (1, .v (.int .u64 f)), (11, .v (.int .i64 e))], [(0, some ⟨.box 121 [.arr .u64 25 a], false⟩), (1, some ⟨.box 121 [.arr .u64 25 b], false⟩), (2, some ⟨.box 189 [.arr .u64 5 c], false⟩), (3, some ⟨.box 189 [.arr .u64 5 d], false⟩)], 4, 116⟩
def bgq : ASt → Option bi0
 | ⟨[(0, .ptr 0 0), (1, .v (.int .u64 f)), (11, .v (.int .i64 e))], [(0, some ⟨.box 121 [.arr .u64 25 a], false⟩), (1, some ⟨.box 121 [.arr .u64 25 b], false⟩), (2, some ⟨.box 189 [.arr .u64 5 c], false⟩), (3, some ⟨.box 189 [.arr .u64 5 d], false⟩)], 4, 116⟩ => some (f, e, a, b, c, d)
 | _ => none
theorem bex (st) (x) (h : bgq st = some x) : st = bcc x := by
 unfold bgq at h
 split at h
 · cases h; rfl
 · cases h
abbrev bna := P.bp3
abbrev X2 := P.bkm
def S2 : X2 → ASt := fun (c, d, a, b) => ⟨[(1, .ptr 0 0), (2, .ptr 1 0), (5, .arr .u64 24 c), (6, .v (.int .i64 d))], [(0, some ⟨.box 121 [.arr .u64 25 a], false⟩), (1, some ⟨.box 121 [.arr .u64 25 b], false⟩)], 2, 13⟩
def V2 : ASt → Option X2
 | ⟨[(1, .ptr 0 0), (2, .ptr 1 0), (5, .arr .u64 24 c), (6, .v (.int .i64 d))], [(0, some ⟨.box 121 [.arr .u64 25 a], false⟩), (1, some ⟨.box 121 [.arr .u64 25 b], false⟩)], 2, 13⟩ => some (c, d, a, b)
 | _ => none
theorem bou (st) (x) (h : V2 st = some x) : st = S2 x := by
 unfold V2 at h
 split at h
 · cases h; rfl
 · cases h
abbrev Y2 := P.bpa
def bsc (K : AExit → ASt → Option R) : Y2_2 → Option R := (fun x => K (.exit 0) (bkg x))
noncomputable def L2_2 : xw := fun st K => ag4 (bnp st) fun x => P.zm8 x (bsc K)
def brq (K : AExit → ASt → Option R) : Y1_6 → Option R := (fun x => K (.exit 2) (blo x))
noncomputable def L1_6 : xw := fun st K => ag4 (bm0 st) fun x => P.zm9 x (brq K)
def brg (K : AExit → ASt → Option R) : Y1_2 → Option R := (fun x => K (.exit 0) (biv x))
noncomputable def L1_2 : xw := fun st K => ag4 (bqm st) fun x => P.boz x (brg K)
def bkf (K : AExit → ASt → Option R) : bnl → Option R := (fun x => K (.exit 4) (bab x))
noncomputable def bnw : xw := fun st K => ag4 (bhj st) fun x => P.bp6 x (bkf K)
def bjv (K : AExit → ASt → Option R) : bpk → Option R := (fun x => K (.exit 8) (bcf x))
noncomputable def boc : xw := fun st K => ag4 (bhu st) fun x => P.bnc x (bjv K)
def bj4 (K : AExit → ASt → Option R) : bna → Option R := (fun x => K (.exit 6) (bcc x))
noncomputable def bpj : xw := fun st K => ag4 (bgq st) fun x => P.bqy x (bj4 K)
def E2 (K : AExit → ASt → Option R) : Y2 → Option R := (fun x => K (.exit 0) (S2 x))
noncomputable def L2 : xw := fun st K => ag4 (V2 st) fun x => P.bnn x (E2 K)
noncomputable def D2 : Ctx := ({ P := Tryd.prog, G := [(153, fq.spec)], globs := GLO.gx, hints := [(2, ⟨[0, 2, 4], [], [2], [], none, [], []⟩)], loops := [(2, L2_2)], inl := [] } : Ctx)
noncomputable def D1 : Ctx := ({ P := Tryd.prog, G := [(153, fq.spec)], globs := GLO.gx, hints := [(21, ⟨[0, 1, 11, 12, 83], [], [], [], none, [], []⟩), (17, ⟨[0, 1, 11], [], [], [], none, [], []⟩), (12, ⟨[0, 1, 8, 51, 52], [], [], [], none, [], []⟩), (6, ⟨[0, 1, 4, 5, 6, 7, 16], [], [], [], none, [], []⟩), (2, ⟨[0, 1, 4, 16], [], [], [], none, [], []⟩)], loops := [(6, L1_6), (2, L1_2), (12, bnw), (21, boc), (17, bpj)], inl := [(152, aej D2 Tryd.f152)] } : Ctx)
noncomputable def D : Ctx := ({ P := Tryd.prog, G := [(153, fq.spec)], globs := GLO.gx, hints := [(2, ⟨[1, 2, 5, 6], [], [2], [], none, [], []⟩)], loops := [(2, L2)], inl := [(140, aej D1 Tryd.f140)] } : Ctx)
theorem bcw (K) (next) (x) : qb D2 (dw Tryd.f152 2) K next (bkg x) = P.zs8 x (fun x => next (bkg x)) (bsc K) := by kernel_rfl
theorem bhd : ou D2 (dw Tryd.f152 2) := jf bkg bf6 (by kernel_rfl) P.ze8 bcw
theorem bea (K) (next) (x) : qb D1 (dw Tryd.f140 6) K next (blo x) = P.zs9 x (fun x => next (blo x)) (brq K) := by kernel_rfl
theorem bh2 : ou D1 (dw Tryd.f140 6) := jf blo bhk (by kernel_rfl) P.ze9 bea
theorem bdj (K) (next) (x) : qb D1 (dw Tryd.f140 2) K next (biv x) = P.bi6 x (fun x => next (biv x)) (brg K) := by kernel_rfl
theorem bhp : ou D1 (dw Tryd.f140 2) := jf biv bgy (by kernel_rfl) P.br3 bdj
theorem bax (K) (next) (x) : qb D1 (dw Tryd.f140 12) K next (bab x) = P.bks x (fun x => next (bab x)) (bkf K) := by kernel_rfl
theorem bev : ou D1 (dw Tryd.f140 12) := jf bab bdw (by kernel_rfl) P.brr bax
theorem azf (K) (next) (x) : qb D1 (dw Tryd.f140 21) K next (bcf x) = P.zs12 x (fun x => next (bcf x)) (bjv K) := by kernel_rfl
theorem be5 : ou D1 (dw Tryd.f140 21) := jf bcf be2 (by kernel_rfl) P.bso azf
theorem aze (K) (next) (x) : qb D1 (dw Tryd.f140 17) K next (bcc x) = P.bld x (fun x => next (bcc x)) (bj4 K) := by kernel_rfl
theorem bds : ou D1 (dw Tryd.f140 17) := jf bcc bex (by kernel_rfl) P.br9 aze
theorem blp (K) (next) (x) : qb D (dw Tryd.f124 2) K next (S2 x) = P.bjf x (fun x => next (S2 x)) (E2 K) := by kernel_rfl
theorem bo3 : ou D (dw Tryd.f124 2) := jf S2 bou (by kernel_rfl) P.bsg blp
theorem loops : bq (Tryd.f124.body.getD .skip) = [dw Tryd.f124 2] := by kernel_rfl
theorem ait : bq (Tryd.f140.body.getD .skip) = [dw Tryd.f140 2, dw Tryd.f140 6, dw Tryd.f140 12, dw Tryd.f140 17, dw Tryd.f140 21] := by kernel_rfl
theorem auw : bq (Tryd.f152.body.getD .skip) = [dw Tryd.f152 2] := by kernel_rfl
noncomputable def bg : Abs.Spec := fun args K => match args with
 | [.arr .u64 25 a] => P.d9 a (fun b => K (.arr .u64 25 b))
 | _ => none
noncomputable def spec : Abs.Spec := bg
theorem ok0 : Proved Tryd.prog GLO.gx 124 bg := by
 refine dn (D := D) (fn := Tryd.f124) (c := Tryd.f124.body.getD .skip) [.any] (by kernel_rfl) (au (by kernel_rfl)) (by kernel_rfl) (by kernel_rfl) (by kernel_rfl) ⟨fq.ok, trivial⟩ ⟨ak3 (D := D1) (D' := D) (fn := Tryd.f140) (c := Tryd.f140.body.getD .skip) rfl rfl (by kernel_rfl) (au (by kernel_rfl)) (by kernel_rfl) (by kernel_rfl) (by kernel_rfl) ⟨fq.ok, trivial⟩ ⟨ak3 (D := D2) (D' := D1) (fn := Tryd.f152) (c := Tryd.f152.body.getD .skip) rfl rfl (by kernel_rfl) (au (by kernel_rfl)) (by kernel_rfl) (by kernel_rfl) (by kernel_rfl) ⟨fq.ok, trivial⟩ trivial (by rw [auw]; exact ⟨bhd, trivial⟩) (fun _ _ _ _ _ h => h), trivial⟩ (by rw [ait]; exact ⟨bhp, bh2, bev, bds, be5, trivial⟩) (fun _ _ _ _ _ h => h), trivial⟩ ?_ ?_
 · rw [loops]; exact ⟨bo3, trivial⟩
 · intro args K r h
   unfold bg at h
   split at h
   · rw [P.agq] at h; exact Eq.trans (by kernel_rfl) h
   · cases h
theorem ok : Proved Tryd.prog GLO.gx 124 spec := ok0
end d9

namespace ko
noncomputable def D : Ctx := ({ P := Tryd.prog, G := [], globs := GLO.gx, hints := [], loops := [], inl := [] } : Ctx)
theorem loops : bq (Tryd.f122.body.getD .skip) = [] := by kernel_rfl
noncomputable def bg : Abs.Spec := fun args K => match args with
 | [.v (.int .i64 a)] => P.ko a (fun b => K (.v (.int .i64 b)))
 | _ => none
noncomputable def spec : Abs.Spec := bg
theorem ok0 : Proved Tryd.prog GLO.gx 122 bg := by
 refine dn (D := D) (fn := Tryd.f122) (c := Tryd.f122.body.getD .skip) [.any] (by kernel_rfl) (au (by kernel_rfl)) (by kernel_rfl) (by kernel_rfl) (by kernel_rfl) trivial trivial ?_ ?_
 · rw [loops]; exact trivial
 · intro args K r h
   unfold bg at h
   split at h
   · rw [P.ajj] at h; exact Eq.trans (by kernel_rfl) h
   · cases h
theorem ok : Proved Tryd.prog GLO.gx 122 spec := ok0
end ko

namespace nk
abbrev X5 := P.bkw
def S5 : X5 → ASt := fun (k, l, i, j, a, b, c, d, e, f, g, h) => ⟨[(1, .sl (.ints .u8 k)), (2, .ptr 0 0), (4, .ptr 1 0), (5, .v (.int .i64 l)), (14, .v (.int .i64 i)), (15, .v (.int .i64 j))], [(0, some ⟨.box 123 [.v (.int .i64 a), .arr .u64 25 b, .v (.int .i64 c), .v (.bool d)], false⟩), (1, some ⟨.box 123 [.v (.int .i64 e), .arr .u64 25 f, .v (.int .i64 g), .v (.bool h)], false⟩)], 40, 40⟩
def V5 : ASt → Option X5
 | ⟨[(1, .sl (.ints .u8 k)), (2, .ptr 0 0), (4, .ptr 1 0), (5, .v (.int .i64 l)), (14, .v (.int .i64 i)), (15, .v (.int .i64 j))], [(0, some ⟨.box 123 [.v (.int .i64 a), .arr .u64 25 b, .v (.int .i64 c), .v (.bool d)], false⟩), (1, some ⟨.box 123 [.v (.int .i64 e), .arr .u64 25 f, .v (.int .i64 g), .v (.bool h)], false⟩)], 40, 40⟩ => some (k, l, i, j, a, b, c, d, e, f, g, h)
 | _ => none
theorem bg5 (st) (x) (h : V5 st = some x) : st = S5 x := by
 unfold V5 at h
 split at h
 · cases h; rfl
 · cases h
abbrev Y5 := P.bpq
def E5 (K : AExit → ASt → Option R) : Y5 → Option R := (fun x => K (.exit 0) (S5 x))
noncomputable def L5 : xw := fun st K => ag4 (V5 st) fun x => P.bqq x (E5 K)
noncomputable def D1 : Ctx := ({ P := Tryd.prog, G := [(122, ko.spec), (124, d9.spec)], globs := GLO.gx, hints := [], loops := [], inl := [] } : Ctx)
noncomputable def D : Ctx := ({ P := Tryd.prog, G := [(122, ko.spec), (124, d9.spec)], globs := GLO.gx, hints := [(5, ⟨[1, 2, 4, 5, 14, 15], [], [4], [], some (40, [0, 1]), [], []⟩)], loops := [(5, L5)], inl := [(125, aej D1 Tryd.f125)] } : Ctx)
theorem az1 (K) (next) (x) : qb D (dw Tryd.f91 5) K next (S5 x) = P.bly x (fun x => next (S5 x)) (E5 K) := by kernel_rfl
theorem bgl : ou D (dw Tryd.f91 5) := jf S5 bg5 (by kernel_rfl) P.brj az1
theorem loops : bq (Tryd.f91.body.getD .skip) = [dw Tryd.f91 5] := by kernel_rfl
theorem ait : bq (Tryd.f125.body.getD .skip) = [] := by kernel_rfl
noncomputable def bg : Abs.Spec := fun args K => match args with
 | [.agg [.v (.int .i64 c), .arr .u64 25 a, .v (.int .i64 g), .v (.bool e)], .sl (.ints .u8 i)] => P.nk c a g e i (fun d b h f => K (.agg [.v (.int .i64 d), .arr .u64 25 b, .v (.int .i64 h), .v (.bool f)]))
 | _ => none
noncomputable def spec : Abs.Spec := fun args K => bg (tu [.any, .sl (.ints .u8 [])] args) K
theorem ok0 : Proved Tryd.prog GLO.gx 91 bg := by
 refine dn (D := D) (fn := Tryd.f91) (c := Tryd.f91.body.getD .skip) [.any] (by kernel_rfl) (au (by kernel_rfl)) (by kernel_rfl) (by kernel_rfl) (by kernel_rfl) ⟨ko.ok, d9.ok, trivial⟩ ⟨ak3 (D := D1) (D' := D) (fn := Tryd.f125) (c := Tryd.f125.body.getD .skip) rfl rfl (by kernel_rfl) (au (by kernel_rfl)) (by kernel_rfl) (by kernel_rfl) (by kernel_rfl) ⟨ko.ok, d9.ok, trivial⟩ trivial (by rw [ait]; exact trivial) (fun _ _ _ _ _ h => h), trivial⟩ ?_ ?_
 · rw [loops]; exact ⟨bgl, trivial⟩
 · intro args K r h
   unfold bg at h
   split at h
   · rw [P.ahv] at h; exact Eq.trans (by kernel_rfl) h
   · cases h
theorem ok : Proved Tryd.prog GLO.gx 91 spec := eu _ ok0
end nk

namespace ab3
noncomputable def D : Ctx := ({ P := Tryd.prog, G := [(122, ko.spec)], globs := GLO.gx, hints := [], loops := [], inl := [] } : Ctx)
theorem loops : bq (Tryd.f89.body.getD .skip) = [] := by kernel_rfl
noncomputable def bg : Abs.Spec := fun args K => match args with
 | [.v (.int .i64 e)] => P.ab3 e (fun b a d c f => K (.tuple [.agg [.v (.int .i64 b), .arr .u64 25 a, .v (.int .i64 d), .v (.bool c)], .v (.int .i64 f)]))
 | _ => none
noncomputable def spec : Abs.Spec := bg
theorem ok0 : Proved Tryd.prog GLO.gx 89 bg := by
 refine dn (D := D) (fn := Tryd.f89) (c := Tryd.f89.body.getD .skip) [.any, .any] (by kernel_rfl) (au (by kernel_rfl)) (by kernel_rfl) (by kernel_rfl) (by kernel_rfl) ⟨ko.ok, trivial⟩ trivial ?_ ?_
 · rw [loops]; exact trivial
 · intro args K r h
   unfold bg at h
   split at h
   · rw [P.ak5] at h; exact Eq.trans (by kernel_rfl) h
   · cases h
theorem ok : Proved Tryd.prog GLO.gx 89 spec := ok0
end ab3

end
