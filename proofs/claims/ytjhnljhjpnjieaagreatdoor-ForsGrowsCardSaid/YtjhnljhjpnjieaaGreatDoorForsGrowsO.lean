/-
  ForsGrows, part 15: an interpreter of my own over abstract values, the pure functions, the walks and the plain law.
-/

import Derived.Test.YtjhnljhjpnjieaaGreatDoorForsGrowsK
import Derived.Test.YtjhnljhjpnjieaaGreatDoorForsGrowsG
import Derived.Test.YtjhnljhjpnjieaaGreatDoorProg
import Derived.Test.YtjhnljhjpnjieaaGreatDoorForsGrowsJ
import Derived.Test.YtjhnljhjpnjieaaGreatDoorForsGrowsM
import Derived.Test.YtjhnljhjpnjieaaGreatDoorForsGrowsN
import Derived.KernelRfl
import Derived.Test.YtjhnljhjpnjieaaGreatDoorForsGrowsI

section
open Go Go.Abs Go.Proofs
set_option maxRecDepth 100000
set_option maxHeartbeats 0
set_option linter.unusedVariables false

namespace x9
noncomputable def D : Ctx := ({ P := Tryz.prog, G := [(113, jc.spec), (144, ny.spec), (145, abv.spec), (146, og.spec), (147, abx.spec), (148, nu.spec)], globs := GLO.gx, hints := [], loops := [], inl := [] } : Ctx)
theorem loops : cu (Tryz.f128.body.getD .skip) = [] := by kernel_rfl
noncomputable def ay : Abs.Spec := fun args K => match args with
 | [.agg [.v (.int .i64 c), .arr .u64 8 a, .sl (.ints .u8 d), .v (.int .u64 e)], .sl (.ints .u8 i)] => P.x9 c a d e i (fun f b g h => K (.agg [.v (.int .i64 f), .arr .u64 8 b, .fr 5 (.ints .u8 g), .v (.int .u64 h)]))
 | _ => none
noncomputable def spec : Abs.Spec := fun args K => ay (om [.agg [.any, .any, .sl (.ints .u8 []), .any], .sl (.ints .u8 [])] args) K
theorem ok0 : Proved Tryz.prog GLO.gx 128 ay := by
 refine bq (D := D) (fn := Tryz.f128) (c := Tryz.f128.body.getD .skip) [.agg [.any, .any, .fr 5 (.ints .u8 []), .any]] (by kernel_rfl) (au (by kernel_rfl)) (by kernel_rfl) (by kernel_rfl) (by kernel_rfl) ⟨jc.ok, ny.ok, abv.ok, og.ok, abx.ok, nu.ok, trivial⟩ trivial ?_ ?_
 · rw [loops]; exact trivial
 · intro args K r h
   unfold ay at h
   split at h
   · rw [P.av1] at h; exact Eq.trans (by kernel_rfl) h
   · cases h
theorem ok : Proved Tryz.prog GLO.gx 128 spec := d9 _ ok0
end x9

namespace adt
noncomputable def D : Ctx := ({ P := Tryz.prog, G := [], globs := GLO.gx, hints := [], loops := [], inl := [] } : Ctx)
theorem loops : cu (Tryz.f152.body.getD .skip) = [] := by kernel_rfl
noncomputable def ay : Abs.Spec := fun args K => match args with
 | [.v (.int .i64 a)] => P.adt a (fun b c => K (.tuple [.arr .u64 8 b, .v (.bool c)]))
 | _ => none
noncomputable def spec : Abs.Spec := ay
theorem ok0 : Proved Tryz.prog GLO.gx 152 ay := by
 refine bq (D := D) (fn := Tryz.f152) (c := Tryz.f152.body.getD .skip) [.any, .any] (by kernel_rfl) (au (by kernel_rfl)) (by kernel_rfl) (by kernel_rfl) (by kernel_rfl) trivial trivial ?_ ?_
 · rw [loops]; exact trivial
 · intro args K r h
   unfold ay at h
   split at h
   · rw [P.aq4] at h; exact Eq.trans (by kernel_rfl) h
   · cases h
theorem ok : Proved Tryz.prog GLO.gx 152 spec := ok0
end adt

namespace ag4
noncomputable def D : Ctx := ({ P := Tryz.prog, G := [(152, adt.spec)], globs := GLO.gx, hints := [], loops := [], inl := [] } : Ctx)
theorem loops : cu (Tryz.f142.body.getD .skip) = [] := by kernel_rfl
noncomputable def ay : Abs.Spec := fun args K => match args with
 | [.v (.int .i64 e)] => P.ag4 e (fun b a c d f => K (.tuple [.agg [.v (.int .i64 b), .arr .u64 8 a, .fr 5 (.ints .u8 c), .v (.int .u64 d)], .v (.int .i64 f)]))
 | _ => none
noncomputable def spec : Abs.Spec := ay
theorem ok0 : Proved Tryz.prog GLO.gx 142 ay := by
 refine bq (D := D) (fn := Tryz.f142) (c := Tryz.f142.body.getD .skip) [.agg [.any, .any, .fr 5 (.ints .u8 []), .any], .any] (by kernel_rfl) (au (by kernel_rfl)) (by kernel_rfl) (by kernel_rfl) (by kernel_rfl) ⟨adt.ok, trivial⟩ trivial ?_ ?_
 · rw [loops]; exact trivial
 · intro args K r h
   unfold ay at h
   split at h
   · rw [P.awl] at h; exact Eq.trans (by kernel_rfl) h
   · cases h
theorem ok : Proved Tryz.prog GLO.gx 142 spec := ok0
end ag4

namespace sj
noncomputable def D : Ctx := ({ P := Tryz.prog, G := [(94, jo.spec), (128, x9.spec), (142, ag4.spec)], globs := GLO.gx, hints := [], loops := [], inl := [] } : Ctx)
theorem loops : cu (Tryz.f125.body.getD .skip) = [] := by kernel_rfl
noncomputable def ay : Abs.Spec := fun args K => match args with
 | [.v (.int .i64 e), .v (.int .i64 f), .sl (.ints .u8 g)] => P.sj e f g (fun b a c d => K (.agg [.v (.int .i64 b), .arr .u64 8 a, .fr 5 (.ints .u8 c), .v (.int .u64 d)]))
 | _ => none
noncomputable def spec : Abs.Spec := fun args K => ay (om [.any, .any, .sl (.ints .u8 [])] args) K
theorem ok0 : Proved Tryz.prog GLO.gx 125 ay := by
 refine bq (D := D) (fn := Tryz.f125) (c := Tryz.f125.body.getD .skip) [.agg [.any, .any, .fr 5 (.ints .u8 []), .any]] (by kernel_rfl) (au (by kernel_rfl)) (by kernel_rfl) (by kernel_rfl) (by kernel_rfl) ⟨jo.ok, x9.ok, ag4.ok, trivial⟩ trivial ?_ ?_
 · rw [loops]; exact trivial
 · intro args K r h
   unfold ay at h
   split at h
   · rw [P.amq] at h; exact Eq.trans (by kernel_rfl) h
   · cases h
theorem ok : Proved Tryz.prog GLO.gx 125 spec := d9 _ ok0
end sj

namespace qh
noncomputable def D : Ctx := ({ P := Tryz.prog, G := [], globs := GLO.gx, hints := [], loops := [], inl := [] } : Ctx)
theorem loops : cu (Tryz.f143.body.getD .skip) = [] := by kernel_rfl
noncomputable def ay : Abs.Spec := fun args K => match args with
 | [.v (.int .i64 a)] => P.qh a (fun b => K (.v (.int .i64 b)))
 | _ => none
noncomputable def spec : Abs.Spec := ay
theorem ok0 : Proved Tryz.prog GLO.gx 143 ay := by
 refine bq (D := D) (fn := Tryz.f143) (c := Tryz.f143.body.getD .skip) [.any] (by kernel_rfl) (au (by kernel_rfl)) (by kernel_rfl) (by kernel_rfl) (by kernel_rfl) trivial trivial ?_ ?_
 · rw [loops]; exact trivial
 · intro args K r h
   unfold ay at h
   split at h
   · rw [P.akd] at h; exact Eq.trans (by kernel_rfl) h
   · cases h
theorem ok : Proved Tryz.prog GLO.gx 143 spec := ok0
end qh

namespace ad3
abbrev X10 := P.bru
def S10 : X10 → ASt := fun (g, d, e, f, a, b, c, h) => ⟨[(7, .own 40), (1, .ptr 0 0), (3, .v (.int .i64 g)), (45, .arr .u64 8 d), (46, .v (.int .i64 e))], [(40, some ⟨.row 5 (.ints .u8 f), false⟩), (0, some ⟨.box 117 [.v (.int .i64 a), .arr .u64 8 b, .own 5, .v (.int .u64 c)], false⟩), (5, some ⟨.row 5 (.ints .u8 h), false⟩)], 41, 62⟩
def V10 : ASt → Option X10
 | ⟨[(7, .own 40), (1, .ptr 0 0), (3, .v (.int .i64 g)), (45, .arr .u64 8 d), (46, .v (.int .i64 e))], [(40, some ⟨.row 5 (.ints .u8 f), false⟩), (0, some ⟨.box 117 [.v (.int .i64 a), .arr .u64 8 b, .own 5, .v (.int .u64 c)], false⟩), (5, some ⟨.row 5 (.ints .u8 h), false⟩)], 41, 62⟩ => some (g, d, e, f, a, b, c, h)
 | _ => none
theorem az2 (st) (x) (h : V10 st = some x) : st = S10 x := by
 unfold V10 at h
 split at h
 · cases h; rfl
 · cases h
abbrev Y10 := P.bzc
def E10 (K : AExit → ASt → Option R) : Y10 → Option R := (fun x => K (.exit 0) (S10 x))
noncomputable def L10 : qc := fun st K => adi (V10 st) fun x => P.b05 x (E10 K)
noncomputable def D : Ctx := ({ P := Tryz.prog, G := [(108, um.spec), (128, x9.spec), (143, qh.spec)], globs := GLO.gx, hints := [(10, ⟨[1, 3, 45, 46], [(7, 5, .ints .u8 [])], [2], [], some (40, [0, 5]), [], []⟩)], loops := [(10, L10)], inl := [] } : Ctx)
theorem atp (K) (next) (x) : kr D (dn Tryz.f127 10) K next (S10 x) = P.brv x (fun x => next (S10 x)) (E10 K) := by kernel_rfl
theorem bap : jr D (dn Tryz.f127 10) := fu S10 az2 (by kernel_rfl) P.b3r atp
theorem loops : cu (Tryz.f127.body.getD .skip) = [dn Tryz.f127 10] := by kernel_rfl
noncomputable def ay : Abs.Spec := fun args K => match args with
 | [.agg [.v (.int .i64 b), .arr .u64 8 a, .sl (.ints .u8 c), .v (.int .u64 d)]] => P.ad3 b a c d (fun e => K (.fr 5 (.ints .u8 e)))
 | _ => none
noncomputable def spec : Abs.Spec := fun args K => ay (om [.agg [.any, .any, .sl (.ints .u8 []), .any]] args) K
theorem ok0 : Proved Tryz.prog GLO.gx 127 ay := by
 refine aqd (D := D) (fn := Tryz.f127) (c := Tryz.f127.body.getD .skip) 5 (.ints .u8 []) (by kernel_rfl) (au (by kernel_rfl)) (by kernel_rfl) (by kernel_rfl) (by kernel_rfl) ⟨um.ok, x9.ok, qh.ok, trivial⟩ trivial ?_ ?_
 · rw [loops]; exact ⟨bap, trivial⟩
 · intro args K r h
   unfold ay at h
   split at h
   · rw [P.axh] at h; exact Eq.trans (by kernel_rfl) h
   · cases h
theorem ok : Proved Tryz.prog GLO.gx 127 spec := d9 _ ok0
end ad3

namespace su
noncomputable def D : Ctx := ({ P := Tryz.prog, G := [(94, jo.spec)], globs := GLO.gx, hints := [], loops := [], inl := [] } : Ctx)
theorem loops : cu (Tryz.f129.body.getD .skip) = [] := by kernel_rfl
noncomputable def ay : Abs.Spec := fun args K => match args with
 | [.arr .u8 32 a] => P.su a (fun b => K (.fr 5 (.ints .u8 b)))
 | _ => none
noncomputable def spec : Abs.Spec := ay
theorem ok0 : Proved Tryz.prog GLO.gx 129 ay := by
 refine bq (D := D) (fn := Tryz.f129) (c := Tryz.f129.body.getD .skip) [.fr 5 (.ints .u8 [])] (by kernel_rfl) (au (by kernel_rfl)) (by kernel_rfl) (by kernel_rfl) (by kernel_rfl) ⟨jo.ok, trivial⟩ trivial ?_ ?_
 · rw [loops]; exact trivial
 · intro args K r h
   unfold ay at h
   split at h
   · rw [P.ao7] at h; exact Eq.trans (by kernel_rfl) h
   · cases h
theorem ok : Proved Tryz.prog GLO.gx 129 spec := ok0
end su

namespace lq
noncomputable def D : Ctx := ({ P := Tryz.prog, G := [(94, jo.spec), (127, ad3.spec), (128, x9.spec), (129, su.spec)], globs := GLO.gx, hints := [], loops := [], inl := [] } : Ctx)
theorem loops : cu (Tryz.f126.body.getD .skip) = [] := by kernel_rfl
noncomputable def ay : Abs.Spec := fun args K => match args with
 | [.arr .u8 32 i, .sl (.ints .u8 j), .sta [.v (.int .i64 c), .arr .u64 8 a, .sl (.ints .u8 d), .v (.int .u64 e)], .sta [.v (.int .i64 k)], .sta [.v (.int .i64 f), .arr .u64 8 b, .sl (.ints .u8 g), .v (.int .u64 h)]] => P.lq i j c a d e k f b g h (fun l => K (.sl (.ints .u8 l)))
 | _ => none
noncomputable def spec : Abs.Spec := fun args K => ay (om [.any, .sl (.ints .u8 []), .agg [.any, .any, .sl (.ints .u8 []), .any], .any, .agg [.any, .any, .sl (.ints .u8 []), .any]] args) K
theorem ok0 : Proved Tryz.prog GLO.gx 126 ay := by
 refine bq (D := D) (fn := Tryz.f126) (c := Tryz.f126.body.getD .skip) [.sl (.ints .u8 [])] (by kernel_rfl) (au (by kernel_rfl)) (by kernel_rfl) (by kernel_rfl) (by kernel_rfl) ⟨jo.ok, ad3.ok, x9.ok, su.ok, trivial⟩ trivial ?_ ?_
 · rw [loops]; exact trivial
 · intro args K r h
   unfold ay at h
   split at h
   · rw [P.aja] at h; exact Eq.trans (by kernel_rfl) h
   · cases h
theorem ok : Proved Tryz.prog GLO.gx 126 spec := d9 _ ok0
end lq

namespace ab4
noncomputable def D : Ctx := ({ P := Tryz.prog, G := [(125, sj.spec), (126, lq.spec)], globs := GLO.gx, hints := [], loops := [], inl := [], sta := true } : Ctx)
theorem loops : cu (Tryz.f111.body.getD .skip) = [] := by kernel_rfl
noncomputable def ay : Abs.Spec := fun args K => match args with
 | [.v (.int .i64 j), .sl (.ints .u8 k)] => P.ab4 j k (fun c a d e i f b g h => K (.fn (.func 126) [] [.sta [.v (.int .i64 c), .arr .u64 8 a, .sl (.ints .u8 d), .v (.int .u64 e)], .sta [.v (.int .i64 i)], .sta [.v (.int .i64 f), .arr .u64 8 b, .sl (.ints .u8 g), .v (.int .u64 h)]]))
 | _ => none
noncomputable def spec : Abs.Spec := fun args K => ay (om [.any, .sl (.ints .u8 [])] args) K
theorem ok0 : Proved Tryz.prog GLO.gx 111 ay := by
 refine bq (D := D) (fn := Tryz.f111) (c := Tryz.f111.body.getD .skip) [.agg [.agg [.any, .any, .sl (.ints .u8 []), .any], .any, .agg [.any, .any, .sl (.ints .u8 []), .any]]] (by kernel_rfl) (au (by kernel_rfl)) (by kernel_rfl) (by kernel_rfl) (by kernel_rfl) ⟨sj.ok, lq.ok, trivial⟩ trivial ?_ ?_
 · rw [loops]; exact trivial
 · intro args K r h
   unfold ay at h
   split at h
   · rw [P.am5] at h; exact Eq.trans (by kernel_rfl) h
   · cases h
theorem ok : Proved Tryz.prog GLO.gx 111 spec := d9 _ ok0
end ab4

namespace iq
noncomputable def D : Ctx := ({ P := Tryz.prog, G := [], globs := GLO.gx, hints := [], loops := [], inl := [] } : Ctx)
theorem loops : cu (Tryz.f158.body.getD .skip) = [] := by kernel_rfl
noncomputable def ay : Abs.Spec := fun args K => match args with
 | [.v (.int .u64 a), .v (.int .i64 b)] => P.iq a b (fun c => K (.v (.int .u64 c)))
 | _ => none
noncomputable def spec : Abs.Spec := ay
theorem ok0 : Proved Tryz.prog GLO.gx 158 ay := by
 refine bq (D := D) (fn := Tryz.f158) (c := Tryz.f158.body.getD .skip) [.any] (by kernel_rfl) (au (by kernel_rfl)) (by kernel_rfl) (by kernel_rfl) (by kernel_rfl) trivial trivial ?_ ?_
 · rw [loops]; exact trivial
 · intro args K r h
   unfold ay at h
   split at h
   · rw [P.o9] at h; exact Eq.trans (by kernel_rfl) h
   · cases h
theorem ok : Proved Tryz.prog GLO.gx 158 spec := ok0
end iq

namespace ig
abbrev b3z := P.zt8
def bt0 : b3z → ASt := fun (d, a, b, c) => ⟨[(0, .ptr 0 0), (2, .ptr 2 0), (4, .v (.int .i64 d))], [(1, some ⟨.box 107 [.arr .u64 25 a], false⟩), (0, some ⟨.box 107 [.arr .u64 25 b], false⟩), (2, some ⟨.box 167 [.arr .u64 5 c], false⟩)], 3, 44⟩
def byg : ASt → Option b3z
 | ⟨[(0, .ptr 0 0), (2, .ptr 2 0), (4, .v (.int .i64 d))], [(1, some ⟨.box 107 [.arr .u64 25 a], false⟩), (0, some ⟨.box 107 [.arr .u64 25 b], false⟩), (2, some ⟨.box 167 [.arr .u64 5 c], false⟩)], 3, 44⟩ => some (d, a, b, c)
 | _ => none
theorem bnm (st) (x) (h : byg st = some x) : st = bt0 x := by
 unfold byg at h
 split at h
 · cases h; rfl
 · cases h
abbrev Y2_2 := P.zy8
abbrev b3u := P.zt9
def bur : b3u → ASt := fun (f, g, h, i, e, a, b, c, d) => ⟨[(0, .ptr 0 0), (1, .v (.int .u64 f)), (4, .ptr 3 0), (5, .v (.int .i64 g)), (6, .v (.int .u64 h)), (7, .v (.int .i64 i)), (16, .v (.int .i64 e))], [(3, some ⟨.box 167 [.arr .u64 5 a], false⟩), (2, some ⟨.box 167 [.arr .u64 5 b], false⟩), (1, some ⟨.box 107 [.arr .u64 25 c], false⟩), (0, some ⟨.box 107 [.arr .u64 25 d], false⟩)], 4, 116⟩
def bz5 : ASt → Option b3u
 | ⟨[(0, .ptr 0 0), (1, .v (.int .u64 f)), (4, .ptr 3 0), (5, .v (.int .i64 g)), (6, .v (.int .u64 h)), (7, .v (.int .i64 i)), (16, .v (.int .i64 e))], [(3, some ⟨.box 167 [.arr .u64 5 a], false⟩), (2, some ⟨.box 167 [.arr .u64 5 b], false⟩), (1, some ⟨.box 107 [.arr .u64 25 c], false⟩), (0, some ⟨.box 107 [.arr .u64 25 d], false⟩)], 4, 116⟩ => some (f, g, h, i, e, a, b, c, d)
 | _ => none
theorem boe (st) (x) (h : bz5 st = some x) : st = bur x := by
 unfold bz5 at h
 split at h
 · cases h; rfl
 · cases h
abbrev Y1_6 := P.zy9
abbrev b38 := P.bsx
def bsf : b38 → ASt := fun (f, e, a, b, c, d) => ⟨[(0, .ptr 0 0), (1, .v (.int .u64 f)), (4, .ptr 3 0), (16, .v (.int .i64 e))], [(0, some ⟨.box 107 [.arr .u64 25 a], false⟩), (1, some ⟨.box 107 [.arr .u64 25 b], false⟩), (2, some ⟨.box 167 [.arr .u64 5 c], false⟩), (3, some ⟨.box 167 [.arr .u64 5 d], false⟩)], 4, 116⟩
def bxi : ASt → Option b38
 | ⟨[(0, .ptr 0 0), (1, .v (.int .u64 f)), (4, .ptr 3 0), (16, .v (.int .i64 e))], [(0, some ⟨.box 107 [.arr .u64 25 a], false⟩), (1, some ⟨.box 107 [.arr .u64 25 b], false⟩), (2, some ⟨.box 167 [.arr .u64 5 c], false⟩), (3, some ⟨.box 167 [.arr .u64 5 d], false⟩)], 4, 116⟩ => some (f, e, a, b, c, d)
 | _ => none
theorem bo8 (st) (x) (h : bxi st = some x) : st = bsf x := by
 unfold bxi at h
 split at h
 · cases h; rfl
 · cases h
abbrev Y1_2 := P.b1r
abbrev bq3 := P.bse
def bhl : bq3 → ASt := fun (g, h, e, f, a, b, c, d) => ⟨[(0, .ptr 0 0), (1, .v (.int .u64 g)), (8, .v (.int .u64 h)), (51, .arr .i64 24 e), (52, .v (.int .i64 f))], [(3, some ⟨.box 167 [.arr .u64 5 a], false⟩), (2, some ⟨.box 167 [.arr .u64 5 b], false⟩), (1, some ⟨.box 107 [.arr .u64 25 c], false⟩), (0, some ⟨.box 107 [.arr .u64 25 d], false⟩)], 4, 116⟩
def bnc : ASt → Option bq3
 | ⟨[(0, .ptr 0 0), (1, .v (.int .u64 g)), (8, .v (.int .u64 h)), (51, .arr .i64 24 e), (52, .v (.int .i64 f))], [(3, some ⟨.box 167 [.arr .u64 5 a], false⟩), (2, some ⟨.box 167 [.arr .u64 5 b], false⟩), (1, some ⟨.box 107 [.arr .u64 25 c], false⟩), (0, some ⟨.box 107 [.arr .u64 25 d], false⟩)], 4, 116⟩ => some (g, h, e, f, a, b, c, d)
 | _ => none
theorem blf (st) (x) (h : bnc st = some x) : st = bhl x := by
 unfold bnc at h
 split at h
 · cases h; rfl
 · cases h
abbrev b0h := P.bx7
abbrev bqu := P.btn
def bjm : bqu → ASt := fun (h, f, g, a, b, c, d, e) => ⟨[(0, .ptr 0 0), (1, .v (.int .u64 h)), (11, .v (.int .i64 f)), (12, .ptr 4 0), (83, .v (.int .i64 g))], [(3, some ⟨.box 167 [.arr .u64 5 a], false⟩), (2, some ⟨.box 167 [.arr .u64 5 b], false⟩), (1, some ⟨.box 107 [.arr .u64 25 c], false⟩), (0, some ⟨.box 107 [.arr .u64 25 d], false⟩), (4, some ⟨.box 167 [.arr .u64 5 e], false⟩)], 5, 116⟩
def bni : ASt → Option bqu
 | ⟨[(0, .ptr 0 0), (1, .v (.int .u64 h)), (11, .v (.int .i64 f)), (12, .ptr 4 0), (83, .v (.int .i64 g))], [(3, some ⟨.box 167 [.arr .u64 5 a], false⟩), (2, some ⟨.box 167 [.arr .u64 5 b], false⟩), (1, some ⟨.box 107 [.arr .u64 25 c], false⟩), (0, some ⟨.box 107 [.arr .u64 25 d], false⟩), (4, some ⟨.box 167 [.arr .u64 5 e], false⟩)], 5, 116⟩ => some (h, f, g, a, b, c, d, e)
 | _ => none
theorem bkp (st) (x) (h : bni st = some x) : st = bjm x := by
 unfold bni at h
 split at h
 · cases h; rfl
 · cases h
abbrev bxf := P.bwn
abbrev btl := P.bq8
def bil : btl → ASt := fun (f, e, a, b, c, d) => ⟨[(0, .ptr 0 0), (1, .v (.int .u64 f)), (11, .v (.int .i64 e))], [(0, some ⟨.box 107 [.arr .u64 25 a], false⟩), (1, some ⟨.box 107 [.arr .u64 25 b], false⟩), (2, some ⟨.box 167 [.arr .u64 5 c], false⟩), (3, some ⟨.box 167 [.arr .u64 5 d], false⟩)], 4, 116⟩
def bod : ASt → Option btl
 | ⟨[(0, .ptr 0 0), (1, .v (.int .u64 f)), (11, .v (.int .i64 e))], [(0, some ⟨.box 107 [.arr .u64 25 a], false⟩), (1, some ⟨.box 107 [.arr .u64 25 b], false⟩), (2, some ⟨.box 167 [.arr .u64 5 c], false⟩), (3, some ⟨.box 167 [.arr .u64 5 d], false⟩)], 4, 116⟩ => some (f, e, a, b, c, d)
 | _ => none
theorem bk9 (st) (x) (h : bod st = some x) : st = bil x := by
 unfold bod at h
 split at h
 · cases h; rfl
 · cases h
abbrev bze := P.bzz
abbrev X2 := P.bul
def S2 : X2 → ASt := fun (c, d, a, b) => ⟨[(1, .ptr 0 0), (2, .ptr 1 0), (5, .arr .u64 24 c), (6, .v (.int .i64 d))], [(0, some ⟨.box 107 [.arr .u64 25 a], false⟩), (1, some ⟨.box 107 [.arr .u64 25 b], false⟩)], 2, 13⟩
def V2 : ASt → Option X2
 | ⟨[(1, .ptr 0 0), (2, .ptr 1 0), (5, .arr .u64 24 c), (6, .v (.int .i64 d))], [(0, some ⟨.box 107 [.arr .u64 25 a], false⟩), (1, some ⟨.box 107 [.arr .u64 25 b], false⟩)], 2, 13⟩ => some (c, d, a, b)
 | _ => none
theorem bix (st) (x) (h : V2 st = some x) : st = S2 x := by
 unfold V2 at h
 split at h
 · cases h; rfl
 · cases h
abbrev Y2 := P.b08
def b3v (K : AExit → ASt → Option R) : Y2_2 → Option R := (fun x => K (.exit 0) (bt0 x))
noncomputable def L2_2 : qc := fun st K => adi (byg st) fun x => P.zm8 x (b3v K)
def b3o (K : AExit → ASt → Option R) : Y1_6 → Option R := (fun x => K (.exit 2) (bur x))
noncomputable def L1_6 : qc := fun st K => adi (bz5 st) fun x => P.zm9 x (b3o K)
def b3d (K : AExit → ASt → Option R) : Y1_2 → Option R := (fun x => K (.exit 0) (bsf x))
noncomputable def L1_2 : qc := fun st K => adi (bxi st) fun x => P.b2h x (b3d K)
def bub (K : AExit → ASt → Option R) : b0h → Option R := (fun x => K (.exit 4) (bhl x))
noncomputable def b0f : qc := fun st K => adi (bnc st) fun x => P.bwq x (bub K)
def bty (K : AExit → ASt → Option R) : bxf → Option R := (fun x => K (.exit 8) (bjm x))
noncomputable def bzd : qc := fun st K => adi (bni st) fun x => P.b06 x (bty K)
def bs9 (K : AExit → ASt → Option R) : bze → Option R := (fun x => K (.exit 6) (bil x))
noncomputable def bzq : qc := fun st K => adi (bod st) fun x => P.b04 x (bs9 K)
def E2 (K : AExit → ASt → Option R) : Y2 → Option R := (fun x => K (.exit 0) (S2 x))
noncomputable def L2 : qc := fun st K => adi (V2 st) fun x => P.b07 x (E2 K)
noncomputable def D2 : Ctx := ({ P := Tryz.prog, G := [(158, iq.spec)], globs := GLO.gx, hints := [(2, ⟨[0, 2, 4], [], [2], [], none, [], []⟩)], loops := [(2, L2_2)], inl := [] } : Ctx)
noncomputable def D1 : Ctx := ({ P := Tryz.prog, G := [(158, iq.spec)], globs := GLO.gx, hints := [(21, ⟨[0, 1, 11, 12, 83], [], [], [], none, [], []⟩), (17, ⟨[0, 1, 11], [], [], [], none, [], []⟩), (12, ⟨[0, 1, 8, 51, 52], [], [], [], none, [], []⟩), (6, ⟨[0, 1, 4, 5, 6, 7, 16], [], [], [], none, [], []⟩), (2, ⟨[0, 1, 4, 16], [], [], [], none, [], []⟩)], loops := [(6, L1_6), (2, L1_2), (12, b0f), (21, bzd), (17, bzq)], inl := [(157, aiz D2 Tryz.f157)] } : Ctx)
noncomputable def D : Ctx := ({ P := Tryz.prog, G := [(158, iq.spec)], globs := GLO.gx, hints := [(2, ⟨[1, 2, 5, 6], [], [2], [], none, [], []⟩)], loops := [(2, L2)], inl := [(151, aiz D1 Tryz.f151)] } : Ctx)
theorem blq (K) (next) (x) : kr D2 (dn Tryz.f157 2) K next (bt0 x) = P.zs8 x (fun x => next (bt0 x)) (b3v K) := by kernel_rfl
theorem bnl : jr D2 (dn Tryz.f157 2) := fu bt0 bnm (by kernel_rfl) P.ze8 blq
theorem bl3 (K) (next) (x) : kr D1 (dn Tryz.f151 6) K next (bur x) = P.zs9 x (fun x => next (bur x)) (b3o K) := by kernel_rfl
theorem bn9 : jr D1 (dn Tryz.f151 6) := fu bur boe (by kernel_rfl) P.ze9 bl3
theorem bk6 (K) (next) (x) : kr D1 (dn Tryz.f151 2) K next (bsf x) = P.bqo x (fun x => next (bsf x)) (b3d K) := by kernel_rfl
theorem bog : jr D1 (dn Tryz.f151 2) := fu bsf bo8 (by kernel_rfl) P.b2s bk6
theorem bhc (K) (next) (x) : kr D1 (dn Tryz.f151 12) K next (bhl x) = P.bsm x (fun x => next (bhl x)) (bub K) := by kernel_rfl
theorem bmh : jr D1 (dn Tryz.f151 12) := fu bhl blf (by kernel_rfl) P.b21 bhc
theorem bi2 (K) (next) (x) : kr D1 (dn Tryz.f151 21) K next (bjm x) = P.zs12 x (fun x => next (bjm x)) (bty K) := by kernel_rfl
theorem bkl : jr D1 (dn Tryz.f151 21) := fu bjm bkp (by kernel_rfl) P.b22 bi2
theorem bip (K) (next) (x) : kr D1 (dn Tryz.f151 17) K next (bil x) = P.bqt x (fun x => next (bil x)) (bs9 K) := by kernel_rfl
theorem bko : jr D1 (dn Tryz.f151 17) := fu bil bk9 (by kernel_rfl) P.b3m bip
theorem bbs (K) (next) (x) : kr D (dn Tryz.f140 2) K next (S2 x) = P.btr x (fun x => next (S2 x)) (E2 K) := by kernel_rfl
theorem bhj : jr D (dn Tryz.f140 2) := fu S2 bix (by kernel_rfl) P.b37 bbs
theorem loops : cu (Tryz.f140.body.getD .skip) = [dn Tryz.f140 2] := by kernel_rfl
theorem ape : cu (Tryz.f151.body.getD .skip) = [dn Tryz.f151 2, dn Tryz.f151 6, dn Tryz.f151 12, dn Tryz.f151 17, dn Tryz.f151 21] := by kernel_rfl
theorem bjn : cu (Tryz.f157.body.getD .skip) = [dn Tryz.f157 2] := by kernel_rfl
noncomputable def ay : Abs.Spec := fun args K => match args with
 | [.arr .u64 25 a] => P.ig a (fun b => K (.arr .u64 25 b))
 | _ => none
noncomputable def spec : Abs.Spec := ay
theorem ok0 : Proved Tryz.prog GLO.gx 140 ay := by
 refine bq (D := D) (fn := Tryz.f140) (c := Tryz.f140.body.getD .skip) [.any] (by kernel_rfl) (au (by kernel_rfl)) (by kernel_rfl) (by kernel_rfl) (by kernel_rfl) ⟨iq.ok, trivial⟩ ⟨auc (D := D1) (D' := D) (fn := Tryz.f151) (c := Tryz.f151.body.getD .skip) rfl rfl (by kernel_rfl) (au (by kernel_rfl)) (by kernel_rfl) (by kernel_rfl) (by kernel_rfl) ⟨iq.ok, trivial⟩ ⟨auc (D := D2) (D' := D1) (fn := Tryz.f157) (c := Tryz.f157.body.getD .skip) rfl rfl (by kernel_rfl) (au (by kernel_rfl)) (by kernel_rfl) (by kernel_rfl) (by kernel_rfl) ⟨iq.ok, trivial⟩ trivial (by rw [bjn]; exact ⟨bnl, trivial⟩) (fun _ _ _ _ _ h => h), trivial⟩ (by rw [ape]; exact ⟨bog, bn9, bmh, bko, bkl, trivial⟩) (fun _ _ _ _ _ h => h), trivial⟩ ?_ ?_
 · rw [loops]; exact ⟨bhj, trivial⟩
 · intro args K r h
   unfold ay at h
   split at h
   · rw [P.ajf] at h; exact Eq.trans (by kernel_rfl) h
   · cases h
theorem ok : Proved Tryz.prog GLO.gx 140 spec := ok0
end ig

namespace j5
noncomputable def D : Ctx := ({ P := Tryz.prog, G := [], globs := GLO.gx, hints := [], loops := [], inl := [] } : Ctx)
theorem loops : cu (Tryz.f138.body.getD .skip) = [] := by kernel_rfl
noncomputable def ay : Abs.Spec := fun args K => match args with
 | [.v (.int .i64 a)] => P.j5 a (fun b => K (.v (.int .i64 b)))
 | _ => none
noncomputable def spec : Abs.Spec := ay
theorem ok0 : Proved Tryz.prog GLO.gx 138 ay := by
 refine bq (D := D) (fn := Tryz.f138) (c := Tryz.f138.body.getD .skip) [.any] (by kernel_rfl) (au (by kernel_rfl)) (by kernel_rfl) (by kernel_rfl) (by kernel_rfl) trivial trivial ?_ ?_
 · rw [loops]; exact trivial
 · intro args K r h
   unfold ay at h
   split at h
   · rw [P.amz] at h; exact Eq.trans (by kernel_rfl) h
   · cases h
theorem ok : Proved Tryz.prog GLO.gx 138 spec := ok0
end j5

namespace mq
abbrev X5 := P.br4
def S5 : X5 → ASt := fun (k, l, i, j, a, b, c, d, e, f, g, h) => ⟨[(1, .sl (.ints .u8 k)), (2, .ptr 0 0), (4, .ptr 1 0), (5, .v (.int .i64 l)), (14, .v (.int .i64 i)), (15, .v (.int .i64 j))], [(0, some ⟨.box 109 [.v (.int .i64 a), .arr .u64 25 b, .v (.int .i64 c), .v (.bool d)], false⟩), (1, some ⟨.box 109 [.v (.int .i64 e), .arr .u64 25 f, .v (.int .i64 g), .v (.bool h)], false⟩)], 40, 40⟩
def V5 : ASt → Option X5
 | ⟨[(1, .sl (.ints .u8 k)), (2, .ptr 0 0), (4, .ptr 1 0), (5, .v (.int .i64 l)), (14, .v (.int .i64 i)), (15, .v (.int .i64 j))], [(0, some ⟨.box 109 [.v (.int .i64 a), .arr .u64 25 b, .v (.int .i64 c), .v (.bool d)], false⟩), (1, some ⟨.box 109 [.v (.int .i64 e), .arr .u64 25 f, .v (.int .i64 g), .v (.bool h)], false⟩)], 40, 40⟩ => some (k, l, i, j, a, b, c, d, e, f, g, h)
 | _ => none
theorem bds (st) (x) (h : V5 st = some x) : st = S5 x := by
 unfold V5 at h
 split at h
 · cases h; rfl
 · cases h
abbrev Y5 := P.bxc
def E5 (K : AExit → ASt → Option R) : Y5 → Option R := (fun x => K (.exit 0) (S5 x))
noncomputable def L5 : qc := fun st K => adi (V5 st) fun x => P.b1v x (E5 K)
noncomputable def D1 : Ctx := ({ P := Tryz.prog, G := [(138, j5.spec), (140, ig.spec)], globs := GLO.gx, hints := [], loops := [], inl := [] } : Ctx)
noncomputable def D : Ctx := ({ P := Tryz.prog, G := [(138, j5.spec), (140, ig.spec)], globs := GLO.gx, hints := [(5, ⟨[1, 2, 4, 5, 14, 15], [], [4], [], some (40, [0, 1]), [], []⟩)], loops := [(5, L5)], inl := [(139, aiz D1 Tryz.f139)] } : Ctx)
theorem as8 (K) (next) (x) : kr D (dn Tryz.f122 5) K next (S5 x) = P.brb x (fun x => next (S5 x)) (E5 K) := by kernel_rfl
theorem bcq : jr D (dn Tryz.f122 5) := fu S5 bds (by kernel_rfl) P.b3q as8
theorem loops : cu (Tryz.f122.body.getD .skip) = [dn Tryz.f122 5] := by kernel_rfl
theorem ape : cu (Tryz.f139.body.getD .skip) = [] := by kernel_rfl
noncomputable def ay : Abs.Spec := fun args K => match args with
 | [.agg [.v (.int .i64 c), .arr .u64 25 a, .v (.int .i64 g), .v (.bool e)], .sl (.ints .u8 i)] => P.mq c a g e i (fun d b h f => K (.agg [.v (.int .i64 d), .arr .u64 25 b, .v (.int .i64 h), .v (.bool f)]))
 | _ => none
noncomputable def spec : Abs.Spec := fun args K => ay (om [.any, .sl (.ints .u8 [])] args) K
theorem ok0 : Proved Tryz.prog GLO.gx 122 ay := by
 refine bq (D := D) (fn := Tryz.f122) (c := Tryz.f122.body.getD .skip) [.any] (by kernel_rfl) (au (by kernel_rfl)) (by kernel_rfl) (by kernel_rfl) (by kernel_rfl) ⟨j5.ok, ig.ok, trivial⟩ ⟨auc (D := D1) (D' := D) (fn := Tryz.f139) (c := Tryz.f139.body.getD .skip) rfl rfl (by kernel_rfl) (au (by kernel_rfl)) (by kernel_rfl) (by kernel_rfl) (by kernel_rfl) ⟨j5.ok, ig.ok, trivial⟩ trivial (by rw [ape]; exact trivial) (fun _ _ _ _ _ h => h), trivial⟩ ?_ ?_
 · rw [loops]; exact ⟨bcq, trivial⟩
 · intro args K r h
   unfold ay at h
   split at h
   · rw [P.akn] at h; exact Eq.trans (by kernel_rfl) h
   · cases h
theorem ok : Proved Tryz.prog GLO.gx 122 spec := d9 _ ok0
end mq

namespace ade
noncomputable def D : Ctx := ({ P := Tryz.prog, G := [(138, j5.spec)], globs := GLO.gx, hints := [], loops := [], inl := [] } : Ctx)
theorem loops : cu (Tryz.f121.body.getD .skip) = [] := by kernel_rfl
noncomputable def ay : Abs.Spec := fun args K => match args with
 | [.v (.int .i64 e)] => P.ade e (fun b a d c f => K (.tuple [.agg [.v (.int .i64 b), .arr .u64 25 a, .v (.int .i64 d), .v (.bool c)], .v (.int .i64 f)]))
 | _ => none
noncomputable def spec : Abs.Spec := ay
theorem ok0 : Proved Tryz.prog GLO.gx 121 ay := by
 refine bq (D := D) (fn := Tryz.f121) (c := Tryz.f121.body.getD .skip) [.any, .any] (by kernel_rfl) (au (by kernel_rfl)) (by kernel_rfl) (by kernel_rfl) (by kernel_rfl) ⟨j5.ok, trivial⟩ trivial ?_ ?_
 · rw [loops]; exact trivial
 · intro args K r h
   unfold ay at h
   split at h
   · rw [P.aoi] at h; exact Eq.trans (by kernel_rfl) h
   · cases h
theorem ok : Proved Tryz.prog GLO.gx 121 spec := ok0
end ade

end
