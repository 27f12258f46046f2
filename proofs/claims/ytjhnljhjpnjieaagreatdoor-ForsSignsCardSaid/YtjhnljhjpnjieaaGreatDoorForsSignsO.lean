/-
  ForsSigns, part 15: an interpreter of my own over abstract values, the pure functions, the walks and the plain law.
-/

import Derived.Test.YtjhnljhjpnjieaaGreatDoorForsSignsK
import Derived.Test.YtjhnljhjpnjieaaGreatDoorForsSignsG
import Derived.Test.YtjhnljhjpnjieaaGreatDoorProg
import Derived.Test.YtjhnljhjpnjieaaGreatDoorForsSignsJ
import Derived.Test.YtjhnljhjpnjieaaGreatDoorForsSignsM
import Derived.Test.YtjhnljhjpnjieaaGreatDoorForsSignsN
import Derived.KernelRfl
import Derived.Test.YtjhnljhjpnjieaaGreatDoorForsSignsI

section
open Go Go.Abs Go.Proofs
set_option maxRecDepth 100000
set_option maxHeartbeats 0
set_option linter.unusedVariables false

namespace yj
noncomputable def D : Ctx := ({ P := Tryz.prog, G := [(113, iy.spec), (144, ow.spec), (145, ab7.spec), (146, o7.spec), (147, abq.spec), (148, oq.spec)], globs := GLO.gx, hints := [], loops := [], inl := [] } : Ctx)
theorem loops : cu (Tryz.f128.body.getD .skip) = [] := by kernel_rfl
noncomputable def ay : Abs.Spec := fun args K => match args with
 | [.agg [.v (.int .i64 c), .arr .u64 8 a, .sl (.ints .u8 d), .v (.int .u64 e)], .sl (.ints .u8 i)] => P.yj c a d e i (fun f b g h => K (.agg [.v (.int .i64 f), .arr .u64 8 b, .fr 5 (.ints .u8 g), .v (.int .u64 h)]))
 | _ => none
noncomputable def spec : Abs.Spec := fun args K => ay (ou [.agg [.any, .any, .sl (.ints .u8 []), .any], .sl (.ints .u8 [])] args) K
theorem ok0 : Proved Tryz.prog GLO.gx 128 ay := by
 refine bq (D := D) (fn := Tryz.f128) (c := Tryz.f128.body.getD .skip) [.agg [.any, .any, .fr 5 (.ints .u8 []), .any]] (by kernel_rfl) (au (by kernel_rfl)) (by kernel_rfl) (by kernel_rfl) (by kernel_rfl) ⟨iy.ok, ow.ok, ab7.ok, o7.ok, abq.ok, oq.ok, trivial⟩ trivial ?_ ?_
 · rw [loops]; exact trivial
 · intro args K r h
   unfold ay at h
   split at h
   · rw [P.ay2] at h; exact Eq.trans (by kernel_rfl) h
   · cases h
theorem ok : Proved Tryz.prog GLO.gx 128 spec := d9 _ ok0
end yj

namespace adz
noncomputable def D : Ctx := ({ P := Tryz.prog, G := [], globs := GLO.gx, hints := [], loops := [], inl := [] } : Ctx)
theorem loops : cu (Tryz.f152.body.getD .skip) = [] := by kernel_rfl
noncomputable def ay : Abs.Spec := fun args K => match args with
 | [.v (.int .i64 a)] => P.adz a (fun b c => K (.tuple [.arr .u64 8 b, .v (.bool c)]))
 | _ => none
noncomputable def spec : Abs.Spec := ay
theorem ok0 : Proved Tryz.prog GLO.gx 152 ay := by
 refine bq (D := D) (fn := Tryz.f152) (c := Tryz.f152.body.getD .skip) [.any, .any] (by kernel_rfl) (au (by kernel_rfl)) (by kernel_rfl) (by kernel_rfl) (by kernel_rfl) trivial trivial ?_ ?_
 · rw [loops]; exact trivial
 · intro args K r h
   unfold ay at h
   split at h
   · rw [P.atc] at h; exact Eq.trans (by kernel_rfl) h
   · cases h
theorem ok : Proved Tryz.prog GLO.gx 152 spec := ok0
end adz

namespace ag5
noncomputable def D : Ctx := ({ P := Tryz.prog, G := [(152, adz.spec)], globs := GLO.gx, hints := [], loops := [], inl := [] } : Ctx)
theorem loops : cu (Tryz.f142.body.getD .skip) = [] := by kernel_rfl
noncomputable def ay : Abs.Spec := fun args K => match args with
 | [.v (.int .i64 e)] => P.ag5 e (fun b a c d f => K (.tuple [.agg [.v (.int .i64 b), .arr .u64 8 a, .fr 5 (.ints .u8 c), .v (.int .u64 d)], .v (.int .i64 f)]))
 | _ => none
noncomputable def spec : Abs.Spec := ay
theorem ok0 : Proved Tryz.prog GLO.gx 142 ay := by
 refine bq (D := D) (fn := Tryz.f142) (c := Tryz.f142.body.getD .skip) [.agg [.any, .any, .fr 5 (.ints .u8 []), .any], .any] (by kernel_rfl) (au (by kernel_rfl)) (by kernel_rfl) (by kernel_rfl) (by kernel_rfl) ⟨adz.ok, trivial⟩ trivial ?_ ?_
 · rw [loops]; exact trivial
 · intro args K r h
   unfold ay at h
   split at h
   · rw [P.ayy] at h; exact Eq.trans (by kernel_rfl) h
   · cases h
theorem ok : Proved Tryz.prog GLO.gx 142 spec := ok0
end ag5

namespace uw
noncomputable def D : Ctx := ({ P := Tryz.prog, G := [(94, jq.spec), (128, yj.spec), (142, ag5.spec)], globs := GLO.gx, hints := [], loops := [], inl := [] } : Ctx)
theorem loops : cu (Tryz.f125.body.getD .skip) = [] := by kernel_rfl
noncomputable def ay : Abs.Spec := fun args K => match args with
 | [.v (.int .i64 e), .v (.int .i64 f), .sl (.ints .u8 g)] => P.uw e f g (fun b a c d => K (.agg [.v (.int .i64 b), .arr .u64 8 a, .fr 5 (.ints .u8 c), .v (.int .u64 d)]))
 | _ => none
noncomputable def spec : Abs.Spec := fun args K => ay (ou [.any, .any, .sl (.ints .u8 [])] args) K
theorem ok0 : Proved Tryz.prog GLO.gx 125 ay := by
 refine bq (D := D) (fn := Tryz.f125) (c := Tryz.f125.body.getD .skip) [.agg [.any, .any, .fr 5 (.ints .u8 []), .any]] (by kernel_rfl) (au (by kernel_rfl)) (by kernel_rfl) (by kernel_rfl) (by kernel_rfl) ⟨jq.ok, yj.ok, ag5.ok, trivial⟩ trivial ?_ ?_
 · rw [loops]; exact trivial
 · intro args K r h
   unfold ay at h
   split at h
   · rw [P.an2] at h; exact Eq.trans (by kernel_rfl) h
   · cases h
theorem ok : Proved Tryz.prog GLO.gx 125 spec := d9 _ ok0
end uw

namespace qp
noncomputable def D : Ctx := ({ P := Tryz.prog, G := [], globs := GLO.gx, hints := [], loops := [], inl := [] } : Ctx)
theorem loops : cu (Tryz.f143.body.getD .skip) = [] := by kernel_rfl
noncomputable def ay : Abs.Spec := fun args K => match args with
 | [.v (.int .i64 a)] => P.qp a (fun b => K (.v (.int .i64 b)))
 | _ => none
noncomputable def spec : Abs.Spec := ay
theorem ok0 : Proved Tryz.prog GLO.gx 143 ay := by
 refine bq (D := D) (fn := Tryz.f143) (c := Tryz.f143.body.getD .skip) [.any] (by kernel_rfl) (au (by kernel_rfl)) (by kernel_rfl) (by kernel_rfl) (by kernel_rfl) trivial trivial ?_ ?_
 · rw [loops]; exact trivial
 · intro args K r h
   unfold ay at h
   split at h
   · rw [P.ak8] at h; exact Eq.trans (by kernel_rfl) h
   · cases h
theorem ok : Proved Tryz.prog GLO.gx 143 spec := ok0
end qp

namespace aej
abbrev X10 := P.buq
def S10 : X10 → ASt := fun (g, d, e, f, a, b, c, h) => ⟨[(7, .own 40), (1, .ptr 0 0), (3, .v (.int .i64 g)), (45, .arr .u64 8 d), (46, .v (.int .i64 e))], [(40, some ⟨.row 5 (.ints .u8 f), false⟩), (0, some ⟨.box 117 [.v (.int .i64 a), .arr .u64 8 b, .own 5, .v (.int .u64 c)], false⟩), (5, some ⟨.row 5 (.ints .u8 h), false⟩)], 41, 62⟩
def V10 : ASt → Option X10
 | ⟨[(7, .own 40), (1, .ptr 0 0), (3, .v (.int .i64 g)), (45, .arr .u64 8 d), (46, .v (.int .i64 e))], [(40, some ⟨.row 5 (.ints .u8 f), false⟩), (0, some ⟨.box 117 [.v (.int .i64 a), .arr .u64 8 b, .own 5, .v (.int .u64 c)], false⟩), (5, some ⟨.row 5 (.ints .u8 h), false⟩)], 41, 62⟩ => some (g, d, e, f, a, b, c, h)
 | _ => none
theorem bcj (st) (x) (h : V10 st = some x) : st = S10 x := by
 unfold V10 at h
 split at h
 · cases h; rfl
 · cases h
abbrev Y10 := P.b5s
def E10 (K : AExit → ASt → Option R) : Y10 → Option R := (fun x => K (.exit 0) (S10 x))
noncomputable def L10 : qc := fun st K => ac6 (V10 st) fun x => P.b4z x (E10 K)
noncomputable def D : Ctx := ({ P := Tryz.prog, G := [(108, vo.spec), (128, yj.spec), (143, qp.spec)], globs := GLO.gx, hints := [(10, ⟨[1, 3, 45, 46], [(7, 5, .ints .u8 [])], [2], [], some (40, [0, 5]), [], []⟩)], loops := [(10, L10)], inl := [] } : Ctx)
theorem auc (K) (next) (x) : kg D (dh Tryz.f127 10) K next (S10 x) = P.bwy x (fun x => next (S10 x)) (E10 K) := by kernel_rfl
theorem bct : ji D (dh Tryz.f127 10) := fu S10 bcj (by kernel_rfl) P.b66 auc
theorem loops : cu (Tryz.f127.body.getD .skip) = [dh Tryz.f127 10] := by kernel_rfl
noncomputable def ay : Abs.Spec := fun args K => match args with
 | [.agg [.v (.int .i64 b), .arr .u64 8 a, .sl (.ints .u8 c), .v (.int .u64 d)]] => P.aej b a c d (fun e => K (.fr 5 (.ints .u8 e)))
 | _ => none
noncomputable def spec : Abs.Spec := fun args K => ay (ou [.agg [.any, .any, .sl (.ints .u8 []), .any]] args) K
theorem ok0 : Proved Tryz.prog GLO.gx 127 ay := by
 refine arj (D := D) (fn := Tryz.f127) (c := Tryz.f127.body.getD .skip) 5 (.ints .u8 []) (by kernel_rfl) (au (by kernel_rfl)) (by kernel_rfl) (by kernel_rfl) (by kernel_rfl) ⟨vo.ok, yj.ok, qp.ok, trivial⟩ trivial ?_ ?_
 · rw [loops]; exact ⟨bct, trivial⟩
 · intro args K r h
   unfold ay at h
   split at h
   · rw [P.ay5] at h; exact Eq.trans (by kernel_rfl) h
   · cases h
theorem ok : Proved Tryz.prog GLO.gx 127 spec := d9 _ ok0
end aej

namespace uy
noncomputable def D : Ctx := ({ P := Tryz.prog, G := [(94, jq.spec)], globs := GLO.gx, hints := [], loops := [], inl := [] } : Ctx)
theorem loops : cu (Tryz.f129.body.getD .skip) = [] := by kernel_rfl
noncomputable def ay : Abs.Spec := fun args K => match args with
 | [.arr .u8 32 a] => P.uy a (fun b => K (.fr 5 (.ints .u8 b)))
 | _ => none
noncomputable def spec : Abs.Spec := ay
theorem ok0 : Proved Tryz.prog GLO.gx 129 ay := by
 refine bq (D := D) (fn := Tryz.f129) (c := Tryz.f129.body.getD .skip) [.fr 5 (.ints .u8 [])] (by kernel_rfl) (au (by kernel_rfl)) (by kernel_rfl) (by kernel_rfl) (by kernel_rfl) ⟨jq.ok, trivial⟩ trivial ?_ ?_
 · rw [loops]; exact trivial
 · intro args K r h
   unfold ay at h
   split at h
   · rw [P.aqr] at h; exact Eq.trans (by kernel_rfl) h
   · cases h
theorem ok : Proved Tryz.prog GLO.gx 129 spec := ok0
end uy

namespace l8
noncomputable def D : Ctx := ({ P := Tryz.prog, G := [(94, jq.spec), (127, aej.spec), (128, yj.spec), (129, uy.spec)], globs := GLO.gx, hints := [], loops := [], inl := [] } : Ctx)
theorem loops : cu (Tryz.f126.body.getD .skip) = [] := by kernel_rfl
noncomputable def ay : Abs.Spec := fun args K => match args with
 | [.arr .u8 32 i, .sl (.ints .u8 j), .sta [.v (.int .i64 c), .arr .u64 8 a, .sl (.ints .u8 d), .v (.int .u64 e)], .sta [.v (.int .i64 k)], .sta [.v (.int .i64 f), .arr .u64 8 b, .sl (.ints .u8 g), .v (.int .u64 h)]] => P.l8 i j c a d e k f b g h (fun l => K (.sl (.ints .u8 l)))
 | _ => none
noncomputable def spec : Abs.Spec := fun args K => ay (ou [.any, .sl (.ints .u8 []), .agg [.any, .any, .sl (.ints .u8 []), .any], .any, .agg [.any, .any, .sl (.ints .u8 []), .any]] args) K
theorem ok0 : Proved Tryz.prog GLO.gx 126 ay := by
 refine bq (D := D) (fn := Tryz.f126) (c := Tryz.f126.body.getD .skip) [.sl (.ints .u8 [])] (by kernel_rfl) (au (by kernel_rfl)) (by kernel_rfl) (by kernel_rfl) (by kernel_rfl) ⟨jq.ok, aej.ok, yj.ok, uy.ok, trivial⟩ trivial ?_ ?_
 · rw [loops]; exact trivial
 · intro args K r h
   unfold ay at h
   split at h
   · rw [P.ajf] at h; exact Eq.trans (by kernel_rfl) h
   · cases h
theorem ok : Proved Tryz.prog GLO.gx 126 spec := d9 _ ok0
end l8

namespace acg
noncomputable def D : Ctx := ({ P := Tryz.prog, G := [(125, uw.spec), (126, l8.spec)], globs := GLO.gx, hints := [], loops := [], inl := [], sta := true } : Ctx)
theorem loops : cu (Tryz.f111.body.getD .skip) = [] := by kernel_rfl
noncomputable def ay : Abs.Spec := fun args K => match args with
 | [.v (.int .i64 j), .sl (.ints .u8 k)] => P.acg j k (fun c a d e i f b g h => K (.fn (.func 126) [] [.sta [.v (.int .i64 c), .arr .u64 8 a, .sl (.ints .u8 d), .v (.int .u64 e)], .sta [.v (.int .i64 i)], .sta [.v (.int .i64 f), .arr .u64 8 b, .sl (.ints .u8 g), .v (.int .u64 h)]]))
 | _ => none
noncomputable def spec : Abs.Spec := fun args K => ay (ou [.any, .sl (.ints .u8 [])] args) K
theorem ok0 : Proved Tryz.prog GLO.gx 111 ay := by
 refine bq (D := D) (fn := Tryz.f111) (c := Tryz.f111.body.getD .skip) [.agg [.agg [.any, .any, .sl (.ints .u8 []), .any], .any, .agg [.any, .any, .sl (.ints .u8 []), .any]]] (by kernel_rfl) (au (by kernel_rfl)) (by kernel_rfl) (by kernel_rfl) (by kernel_rfl) ⟨uw.ok, l8.ok, trivial⟩ trivial ?_ ?_
 · rw [loops]; exact trivial
 · intro args K r h
   unfold ay at h
   split at h
   · rw [P.ank] at h; exact Eq.trans (by kernel_rfl) h
   · cases h
theorem ok : Proved Tryz.prog GLO.gx 111 spec := d9 _ ok0
end acg

namespace ig
noncomputable def D : Ctx := ({ P := Tryz.prog, G := [], globs := GLO.gx, hints := [], loops := [], inl := [] } : Ctx)
theorem loops : cu (Tryz.f158.body.getD .skip) = [] := by kernel_rfl
noncomputable def ay : Abs.Spec := fun args K => match args with
 | [.v (.int .u64 a), .v (.int .i64 b)] => P.ig a b (fun c => K (.v (.int .u64 c)))
 | _ => none
noncomputable def spec : Abs.Spec := ay
theorem ok0 : Proved Tryz.prog GLO.gx 158 ay := by
 refine bq (D := D) (fn := Tryz.f158) (c := Tryz.f158.body.getD .skip) [.any] (by kernel_rfl) (au (by kernel_rfl)) (by kernel_rfl) (by kernel_rfl) (by kernel_rfl) trivial trivial ?_ ?_
 · rw [loops]; exact trivial
 · intro args K r h
   unfold ay at h
   split at h
   · rw [P.qg] at h; exact Eq.trans (by kernel_rfl) h
   · cases h
theorem ok : Proved Tryz.prog GLO.gx 158 spec := ok0
end ig

namespace gy
abbrev b5w := P.zt8
def bvu : b5w → ASt := fun (d, a, b, c) => ⟨[(0, .ptr 0 0), (2, .ptr 2 0), (4, .v (.int .i64 d))], [(1, some ⟨.box 107 [.arr .u64 25 a], false⟩), (0, some ⟨.box 107 [.arr .u64 25 b], false⟩), (2, some ⟨.box 167 [.arr .u64 5 c], false⟩)], 3, 44⟩
def b4p : ASt → Option b5w
 | ⟨[(0, .ptr 0 0), (2, .ptr 2 0), (4, .v (.int .i64 d))], [(1, some ⟨.box 107 [.arr .u64 25 a], false⟩), (0, some ⟨.box 107 [.arr .u64 25 b], false⟩), (2, some ⟨.box 167 [.arr .u64 5 c], false⟩)], 3, 44⟩ => some (d, a, b, c)
 | _ => none
theorem bo1 (st) (x) (h : b4p st = some x) : st = bvu x := by
 unfold b4p at h
 split at h
 · cases h; rfl
 · cases h
abbrev Y2_2 := P.zy8
abbrev b7f := P.zt9
def brz : b7f → ASt := fun (f, g, h, i, e, a, b, c, d) => ⟨[(0, .ptr 0 0), (1, .v (.int .u64 f)), (4, .ptr 3 0), (5, .v (.int .i64 g)), (6, .v (.int .u64 h)), (7, .v (.int .i64 i)), (16, .v (.int .i64 e))], [(3, some ⟨.box 167 [.arr .u64 5 a], false⟩), (2, some ⟨.box 167 [.arr .u64 5 b], false⟩), (1, some ⟨.box 107 [.arr .u64 25 c], false⟩), (0, some ⟨.box 107 [.arr .u64 25 d], false⟩)], 4, 116⟩
def bzi : ASt → Option b7f
 | ⟨[(0, .ptr 0 0), (1, .v (.int .u64 f)), (4, .ptr 3 0), (5, .v (.int .i64 g)), (6, .v (.int .u64 h)), (7, .v (.int .i64 i)), (16, .v (.int .i64 e))], [(3, some ⟨.box 167 [.arr .u64 5 a], false⟩), (2, some ⟨.box 167 [.arr .u64 5 b], false⟩), (1, some ⟨.box 107 [.arr .u64 25 c], false⟩), (0, some ⟨.box 107 [.arr .u64 25 d], false⟩)], 4, 116⟩ => some (f, g, h, i, e, a, b, c, d)
 | _ => none
theorem bq3 (st) (x) (h : bzi st = some x) : st = brz x := by
 unfold bzi at h
 split at h
 · cases h; rfl
 · cases h
abbrev Y1_6 := P.zy9
abbrev b51 := P.bst
def bwr : b51 → ASt := fun (f, e, a, b, c, d) => ⟨[(0, .ptr 0 0), (1, .v (.int .u64 f)), (4, .ptr 3 0), (16, .v (.int .i64 e))], [(0, some ⟨.box 107 [.arr .u64 25 a], false⟩), (1, some ⟨.box 107 [.arr .u64 25 b], false⟩), (2, some ⟨.box 167 [.arr .u64 5 c], false⟩), (3, some ⟨.box 167 [.arr .u64 5 d], false⟩)], 4, 116⟩
def b03 : ASt → Option b51
 | ⟨[(0, .ptr 0 0), (1, .v (.int .u64 f)), (4, .ptr 3 0), (16, .v (.int .i64 e))], [(0, some ⟨.box 107 [.arr .u64 25 a], false⟩), (1, some ⟨.box 107 [.arr .u64 25 b], false⟩), (2, some ⟨.box 167 [.arr .u64 5 c], false⟩), (3, some ⟨.box 167 [.arr .u64 5 d], false⟩)], 4, 116⟩ => some (f, e, a, b, c, d)
 | _ => none
theorem bo5 (st) (x) (h : b03 st = some x) : st = bwr x := by
 unfold b03 at h
 split at h
 · cases h; rfl
 · cases h
abbrev Y1_2 := P.b1h
abbrev btr := P.bs4
def bh6 : btr → ASt := fun (g, h, e, f, a, b, c, d) => ⟨[(0, .ptr 0 0), (1, .v (.int .u64 g)), (8, .v (.int .u64 h)), (51, .arr .i64 24 e), (52, .v (.int .i64 f))], [(3, some ⟨.box 167 [.arr .u64 5 a], false⟩), (2, some ⟨.box 167 [.arr .u64 5 b], false⟩), (1, some ⟨.box 107 [.arr .u64 25 c], false⟩), (0, some ⟨.box 107 [.arr .u64 25 d], false⟩)], 4, 116⟩
def bp5 : ASt → Option btr
 | ⟨[(0, .ptr 0 0), (1, .v (.int .u64 g)), (8, .v (.int .u64 h)), (51, .arr .i64 24 e), (52, .v (.int .i64 f))], [(3, some ⟨.box 167 [.arr .u64 5 a], false⟩), (2, some ⟨.box 167 [.arr .u64 5 b], false⟩), (1, some ⟨.box 107 [.arr .u64 25 c], false⟩), (0, some ⟨.box 107 [.arr .u64 25 d], false⟩)], 4, 116⟩ => some (g, h, e, f, a, b, c, d)
 | _ => none
theorem bma (st) (x) (h : bp5 st = some x) : st = bh6 x := by
 unfold bp5 at h
 split at h
 · cases h; rfl
 · cases h
abbrev b3a := P.b0b
abbrev bv9 := P.bt8
def bjx : bv9 → ASt := fun (h, f, g, a, b, c, d, e) => ⟨[(0, .ptr 0 0), (1, .v (.int .u64 h)), (11, .v (.int .i64 f)), (12, .ptr 4 0), (83, .v (.int .i64 g))], [(3, some ⟨.box 167 [.arr .u64 5 a], false⟩), (2, some ⟨.box 167 [.arr .u64 5 b], false⟩), (1, some ⟨.box 107 [.arr .u64 25 c], false⟩), (0, some ⟨.box 107 [.arr .u64 25 d], false⟩), (4, some ⟨.box 167 [.arr .u64 5 e], false⟩)], 5, 116⟩
def bpj : ASt → Option bv9
 | ⟨[(0, .ptr 0 0), (1, .v (.int .u64 h)), (11, .v (.int .i64 f)), (12, .ptr 4 0), (83, .v (.int .i64 g))], [(3, some ⟨.box 167 [.arr .u64 5 a], false⟩), (2, some ⟨.box 167 [.arr .u64 5 b], false⟩), (1, some ⟨.box 107 [.arr .u64 25 c], false⟩), (0, some ⟨.box 107 [.arr .u64 25 d], false⟩), (4, some ⟨.box 167 [.arr .u64 5 e], false⟩)], 5, 116⟩ => some (h, f, g, a, b, c, d, e)
 | _ => none
theorem bnm (st) (x) (h : bpj st = some x) : st = bjx x := by
 unfold bpj at h
 split at h
 · cases h; rfl
 · cases h
abbrev b0x := P.bzg
abbrev bui := P.btj
def bk9 : bui → ASt := fun (f, e, a, b, c, d) => ⟨[(0, .ptr 0 0), (1, .v (.int .u64 f)), (11, .v (.int .i64 e))], [(0, some ⟨.box 107 [.arr .u64 25 a], false⟩), (1, some ⟨.box 107 [.arr .u64 25 b], false⟩), (2, some ⟨.box 167 [.arr .u64 5 c], false⟩), (3, some ⟨.box 167 [.arr .u64 5 d], false⟩)], 4, 116⟩
def bqu : ASt → Option bui
 | ⟨[(0, .ptr 0 0), (1, .v (.int .u64 f)), (11, .v (.int .i64 e))], [(0, some ⟨.box 107 [.arr .u64 25 a], false⟩), (1, some ⟨.box 107 [.arr .u64 25 b], false⟩), (2, some ⟨.box 167 [.arr .u64 5 c], false⟩), (3, some ⟨.box 167 [.arr .u64 5 d], false⟩)], 4, 116⟩ => some (f, e, a, b, c, d)
 | _ => none
theorem bl5 (st) (x) (h : bqu st = some x) : st = bk9 x := by
 unfold bqu at h
 split at h
 · cases h; rfl
 · cases h
abbrev b1s := P.b2c
abbrev X2 := P.bvc
def S2 : X2 → ASt := fun (c, d, a, b) => ⟨[(1, .ptr 0 0), (2, .ptr 1 0), (5, .arr .u64 24 c), (6, .v (.int .i64 d))], [(0, some ⟨.box 107 [.arr .u64 25 a], false⟩), (1, some ⟨.box 107 [.arr .u64 25 b], false⟩)], 2, 13⟩
def V2 : ASt → Option X2
 | ⟨[(1, .ptr 0 0), (2, .ptr 1 0), (5, .arr .u64 24 c), (6, .v (.int .i64 d))], [(0, some ⟨.box 107 [.arr .u64 25 a], false⟩), (1, some ⟨.box 107 [.arr .u64 25 b], false⟩)], 2, 13⟩ => some (c, d, a, b)
 | _ => none
theorem bh4 (st) (x) (h : V2 st = some x) : st = S2 x := by
 unfold V2 at h
 split at h
 · cases h; rfl
 · cases h
abbrev Y2 := P.byo
def b7j (K : AExit → ASt → Option R) : Y2_2 → Option R := (fun x => K (.exit 0) (bvu x))
noncomputable def L2_2 : qc := fun st K => ac6 (b4p st) fun x => P.zm8 x (b7j K)
def b61 (K : AExit → ASt → Option R) : Y1_6 → Option R := (fun x => K (.exit 2) (brz x))
noncomputable def L1_6 : qc := fun st K => ac6 (bzi st) fun x => P.zm9 x (b61 K)
def b6p (K : AExit → ASt → Option R) : Y1_2 → Option R := (fun x => K (.exit 0) (bwr x))
noncomputable def L1_2 : qc := fun st K => ac6 (b03 st) fun x => P.b5c x (b6p K)
def bvt (K : AExit → ASt → Option R) : b3a → Option R := (fun x => K (.exit 4) (bh6 x))
noncomputable def bzq : qc := fun st K => ac6 (bp5 st) fun x => P.b37 x (bvt K)
def bs1 (K : AExit → ASt → Option R) : b0x → Option R := (fun x => K (.exit 8) (bjx x))
noncomputable def b3j : qc := fun st K => ac6 (bpj st) fun x => P.b5t x (bs1 K)
def bti (K : AExit → ASt → Option R) : b1s → Option R := (fun x => K (.exit 6) (bk9 x))
noncomputable def b1r : qc := fun st K => ac6 (bqu st) fun x => P.b2m x (bti K)
def E2 (K : AExit → ASt → Option R) : Y2 → Option R := (fun x => K (.exit 0) (S2 x))
noncomputable def L2 : qc := fun st K => ac6 (V2 st) fun x => P.b4c x (E2 K)
noncomputable def D2 : Ctx := ({ P := Tryz.prog, G := [(158, ig.spec)], globs := GLO.gx, hints := [(2, ⟨[0, 2, 4], [], [2], [], none, [], []⟩)], loops := [(2, L2_2)], inl := [] } : Ctx)
noncomputable def D1 : Ctx := ({ P := Tryz.prog, G := [(158, ig.spec)], globs := GLO.gx, hints := [(21, ⟨[0, 1, 11, 12, 83], [], [], [], none, [], []⟩), (17, ⟨[0, 1, 11], [], [], [], none, [], []⟩), (12, ⟨[0, 1, 8, 51, 52], [], [], [], none, [], []⟩), (6, ⟨[0, 1, 4, 5, 6, 7, 16], [], [], [], none, [], []⟩), (2, ⟨[0, 1, 4, 16], [], [], [], none, [], []⟩)], loops := [(6, L1_6), (2, L1_2), (12, bzq), (21, b3j), (17, b1r)], inl := [(157, agj D2 Tryz.f157)] } : Ctx)
noncomputable def D : Ctx := ({ P := Tryz.prog, G := [(158, ig.spec)], globs := GLO.gx, hints := [(2, ⟨[1, 2, 5, 6], [], [2], [], none, [], []⟩)], loops := [(2, L2)], inl := [(151, agj D1 Tryz.f151)] } : Ctx)
theorem bnb (K) (next) (x) : kg D2 (dh Tryz.f157 2) K next (bvu x) = P.zs8 x (fun x => next (bvu x)) (b7j K) := by kernel_rfl
theorem bp3 : ji D2 (dh Tryz.f157 2) := fu bvu bo1 (by kernel_rfl) P.ze8 bnb
theorem bmd (K) (next) (x) : kg D1 (dh Tryz.f151 6) K next (brz x) = P.zs9 x (fun x => next (brz x)) (b61 K) := by kernel_rfl
theorem bqe : ji D1 (dh Tryz.f151 6) := fu brz bq3 (by kernel_rfl) P.ze9 bmd
theorem bm2 (K) (next) (x) : kg D1 (dh Tryz.f151 2) K next (bwr x) = P.brs x (fun x => next (bwr x)) (b6p K) := by kernel_rfl
theorem bp4 : ji D1 (dh Tryz.f151 2) := fu bwr bo5 (by kernel_rfl) P.b6x bm2
theorem bj4 (K) (next) (x) : kg D1 (dh Tryz.f151 12) K next (bh6 x) = P.brv x (fun x => next (bh6 x)) (bvt K) := by kernel_rfl
theorem bmj : ji D1 (dh Tryz.f151 12) := fu bh6 bma (by kernel_rfl) P.b6e bj4
theorem bjp (K) (next) (x) : kg D1 (dh Tryz.f151 21) K next (bjx x) = P.zs12 x (fun x => next (bjx x)) (bs1 K) := by kernel_rfl
theorem bmn : ji D1 (dh Tryz.f151 21) := fu bjx bnm (by kernel_rfl) P.b6j bjp
theorem bk7 (K) (next) (x) : kg D1 (dh Tryz.f151 17) K next (bk9 x) = P.bt3 x (fun x => next (bk9 x)) (bti K) := by kernel_rfl
theorem bnp : ji D1 (dh Tryz.f151 17) := fu bk9 bl5 (by kernel_rfl) P.b56 bk7
theorem bdd (K) (next) (x) : kg D (dh Tryz.f140 2) K next (S2 x) = P.bsu x (fun x => next (S2 x)) (E2 K) := by kernel_rfl
theorem bka : ji D (dh Tryz.f140 2) := fu S2 bh4 (by kernel_rfl) P.b7r bdd
theorem loops : cu (Tryz.f140.body.getD .skip) = [dh Tryz.f140 2] := by kernel_rfl
theorem aly : cu (Tryz.f151.body.getD .skip) = [dh Tryz.f151 2, dh Tryz.f151 6, dh Tryz.f151 12, dh Tryz.f151 17, dh Tryz.f151 21] := by kernel_rfl
theorem bcw : cu (Tryz.f157.body.getD .skip) = [dh Tryz.f157 2] := by kernel_rfl
noncomputable def ay : Abs.Spec := fun args K => match args with
 | [.arr .u64 25 a] => P.gy a (fun b => K (.arr .u64 25 b))
 | _ => none
noncomputable def spec : Abs.Spec := ay
theorem ok0 : Proved Tryz.prog GLO.gx 140 ay := by
 refine bq (D := D) (fn := Tryz.f140) (c := Tryz.f140.body.getD .skip) [.any] (by kernel_rfl) (au (by kernel_rfl)) (by kernel_rfl) (by kernel_rfl) (by kernel_rfl) ⟨ig.ok, trivial⟩ ⟨apm (D := D1) (D' := D) (fn := Tryz.f151) (c := Tryz.f151.body.getD .skip) rfl rfl (by kernel_rfl) (au (by kernel_rfl)) (by kernel_rfl) (by kernel_rfl) (by kernel_rfl) ⟨ig.ok, trivial⟩ ⟨apm (D := D2) (D' := D1) (fn := Tryz.f157) (c := Tryz.f157.body.getD .skip) rfl rfl (by kernel_rfl) (au (by kernel_rfl)) (by kernel_rfl) (by kernel_rfl) (by kernel_rfl) ⟨ig.ok, trivial⟩ trivial (by rw [bcw]; exact ⟨bp3, trivial⟩) (fun _ _ _ _ _ h => h), trivial⟩ (by rw [aly]; exact ⟨bp4, bqe, bmj, bnp, bmn, trivial⟩) (fun _ _ _ _ _ h => h), trivial⟩ ?_ ?_
 · rw [loops]; exact ⟨bka, trivial⟩
 · intro args K r h
   unfold ay at h
   split at h
   · rw [P.aji] at h; exact Eq.trans (by kernel_rfl) h
   · cases h
theorem ok : Proved Tryz.prog GLO.gx 140 spec := ok0
end gy

namespace ko
noncomputable def D : Ctx := ({ P := Tryz.prog, G := [], globs := GLO.gx, hints := [], loops := [], inl := [] } : Ctx)
theorem loops : cu (Tryz.f138.body.getD .skip) = [] := by kernel_rfl
noncomputable def ay : Abs.Spec := fun args K => match args with
 | [.v (.int .i64 a)] => P.ko a (fun b => K (.v (.int .i64 b)))
 | _ => none
noncomputable def spec : Abs.Spec := ay
theorem ok0 : Proved Tryz.prog GLO.gx 138 ay := by
 refine bq (D := D) (fn := Tryz.f138) (c := Tryz.f138.body.getD .skip) [.any] (by kernel_rfl) (au (by kernel_rfl)) (by kernel_rfl) (by kernel_rfl) (by kernel_rfl) trivial trivial ?_ ?_
 · rw [loops]; exact trivial
 · intro args K r h
   unfold ay at h
   split at h
   · rw [P.anv] at h; exact Eq.trans (by kernel_rfl) h
   · cases h
theorem ok : Proved Tryz.prog GLO.gx 138 spec := ok0
end ko

namespace og
abbrev X5 := P.bwk
def S5 : X5 → ASt := fun (k, l, i, j, a, b, c, d, e, f, g, h) => ⟨[(1, .sl (.ints .u8 k)), (2, .ptr 0 0), (4, .ptr 1 0), (5, .v (.int .i64 l)), (14, .v (.int .i64 i)), (15, .v (.int .i64 j))], [(0, some ⟨.box 109 [.v (.int .i64 a), .arr .u64 25 b, .v (.int .i64 c), .v (.bool d)], false⟩), (1, some ⟨.box 109 [.v (.int .i64 e), .arr .u64 25 f, .v (.int .i64 g), .v (.bool h)], false⟩)], 40, 40⟩
def V5 : ASt → Option X5
 | ⟨[(1, .sl (.ints .u8 k)), (2, .ptr 0 0), (4, .ptr 1 0), (5, .v (.int .i64 l)), (14, .v (.int .i64 i)), (15, .v (.int .i64 j))], [(0, some ⟨.box 109 [.v (.int .i64 a), .arr .u64 25 b, .v (.int .i64 c), .v (.bool d)], false⟩), (1, some ⟨.box 109 [.v (.int .i64 e), .arr .u64 25 f, .v (.int .i64 g), .v (.bool h)], false⟩)], 40, 40⟩ => some (k, l, i, j, a, b, c, d, e, f, g, h)
 | _ => none
theorem bei (st) (x) (h : V5 st = some x) : st = S5 x := by
 unfold V5 at h
 split at h
 · cases h; rfl
 · cases h
abbrev Y5 := P.byy
def E5 (K : AExit → ASt → Option R) : Y5 → Option R := (fun x => K (.exit 0) (S5 x))
noncomputable def L5 : qc := fun st K => ac6 (V5 st) fun x => P.b08 x (E5 K)
noncomputable def D1 : Ctx := ({ P := Tryz.prog, G := [(138, ko.spec), (140, gy.spec)], globs := GLO.gx, hints := [], loops := [], inl := [] } : Ctx)
noncomputable def D : Ctx := ({ P := Tryz.prog, G := [(138, ko.spec), (140, gy.spec)], globs := GLO.gx, hints := [(5, ⟨[1, 2, 4, 5, 14, 15], [], [4], [], some (40, [0, 1]), [], []⟩)], loops := [(5, L5)], inl := [(139, agj D1 Tryz.f139)] } : Ctx)
theorem av9 (K) (next) (x) : kg D (dh Tryz.f122 5) K next (S5 x) = P.bu8 x (fun x => next (S5 x)) (E5 K) := by kernel_rfl
theorem bep : ji D (dh Tryz.f122 5) := fu S5 bei (by kernel_rfl) P.b6b av9
theorem loops : cu (Tryz.f122.body.getD .skip) = [dh Tryz.f122 5] := by kernel_rfl
theorem aly : cu (Tryz.f139.body.getD .skip) = [] := by kernel_rfl
noncomputable def ay : Abs.Spec := fun args K => match args with
 | [.agg [.v (.int .i64 c), .arr .u64 25 a, .v (.int .i64 g), .v (.bool e)], .sl (.ints .u8 i)] => P.og c a g e i (fun d b h f => K (.agg [.v (.int .i64 d), .arr .u64 25 b, .v (.int .i64 h), .v (.bool f)]))
 | _ => none
noncomputable def spec : Abs.Spec := fun args K => ay (ou [.any, .sl (.ints .u8 [])] args) K
theorem ok0 : Proved Tryz.prog GLO.gx 122 ay := by
 refine bq (D := D) (fn := Tryz.f122) (c := Tryz.f122.body.getD .skip) [.any] (by kernel_rfl) (au (by kernel_rfl)) (by kernel_rfl) (by kernel_rfl) (by kernel_rfl) ⟨ko.ok, gy.ok, trivial⟩ ⟨apm (D := D1) (D' := D) (fn := Tryz.f139) (c := Tryz.f139.body.getD .skip) rfl rfl (by kernel_rfl) (au (by kernel_rfl)) (by kernel_rfl) (by kernel_rfl) (by kernel_rfl) ⟨ko.ok, gy.ok, trivial⟩ trivial (by rw [aly]; exact trivial) (fun _ _ _ _ _ h => h), trivial⟩ ?_ ?_
 · rw [loops]; exact ⟨bep, trivial⟩
 · intro args K r h
   unfold ay at h
   split at h
   · rw [P.ak5] at h; exact Eq.trans (by kernel_rfl) h
   · cases h
theorem ok : Proved Tryz.prog GLO.gx 122 spec := d9 _ ok0
end og

namespace adt
noncomputable def D : Ctx := ({ P := Tryz.prog, G := [(138, ko.spec)], globs := GLO.gx, hints := [], loops := [], inl := [] } : Ctx)
theorem loops : cu (Tryz.f121.body.getD .skip) = [] := by kernel_rfl
noncomputable def ay : Abs.Spec := fun args K => match args with
 | [.v (.int .i64 e)] => P.adt e (fun b a d c f => K (.tuple [.agg [.v (.int .i64 b), .arr .u64 25 a, .v (.int .i64 d), .v (.bool c)], .v (.int .i64 f)]))
 | _ => none
noncomputable def spec : Abs.Spec := ay
theorem ok0 : Proved Tryz.prog GLO.gx 121 ay := by
 refine bq (D := D) (fn := Tryz.f121) (c := Tryz.f121.body.getD .skip) [.any, .any] (by kernel_rfl) (au (by kernel_rfl)) (by kernel_rfl) (by kernel_rfl) (by kernel_rfl) ⟨ko.ok, trivial⟩ trivial ?_ ?_
 · rw [loops]; exact trivial
 · intro args K r h
   unfold ay at h
   split at h
   · rw [P.apo] at h; exact Eq.trans (by kernel_rfl) h
   · cases h
theorem ok : Proved Tryz.prog GLO.gx 121 spec := ok0
end adt

end
