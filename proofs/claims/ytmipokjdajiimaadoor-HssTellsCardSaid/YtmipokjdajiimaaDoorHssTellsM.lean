/-
  HssTells, part 13: an interpreter of my own over abstract values, the pure functions, the walks and the plain law.
-/

import Derived.Test.YtmipokjdajiimaaDoorHssTellsI
import Derived.Test.YtmipokjdajiimaaDoorHssTellsH
import Derived.Test.YtmipokjdajiimaaDoorProg
import Derived.Test.YtmipokjdajiimaaDoorHssTellsJ
import Derived.Test.YtmipokjdajiimaaDoorHssTellsL
import Derived.KernelRfl
import Derived.Test.YtmipokjdajiimaaDoorHssTellsK

section
open Go Go.Abs Go.Proofs
set_option maxRecDepth 100000
set_option maxHeartbeats 0
set_option linter.unusedVariables false

namespace mq
abbrev bn9 := P.zt9
def bh9 : bn9 → ASt := fun (a, b, c) => ⟨[(0, .own 0), (2, .v (.int .i64 a)), (3, .v (.int .i64 b))], [(0, some ⟨.row 5 (.ints .u8 c), false⟩)], 1, 28⟩
def bl7 : ASt → Option bn9
 | ⟨[(0, .own 0), (2, .v (.int .i64 a)), (3, .v (.int .i64 b))], [(0, some ⟨.row 5 (.ints .u8 c), false⟩)], 1, 28⟩ => some (a, b, c)
 | _ => none
theorem bfs (st) (x) (h : bl7 st = some x) : st = bh9 x := by
 unfold bl7 at h
 split at h
 · cases h; rfl
 · cases h
abbrev Y1_1 := P.zy9
def bnk (K : AExit → ASt → Option R) : Y1_1 → Option R := (fun x => K (.exit 0) (bh9 x))
noncomputable def L1_1 : xg := fun st K => af5 (bl7 st) fun x => P.zm9 x (bnk K)
noncomputable def D1 : Ctx := ({ P := Tryd.prog, G := [(63, abx.spec)], globs := GLO.gB, hints := [(1, ⟨[0, 2, 3], [], [], [], none, [], [], []⟩)], loops := [(1, L1_1)], inl := [] } : Ctx)
noncomputable def D : Ctx := ({ P := Tryd.prog, G := [(63, abx.spec)], globs := GLO.gB, hints := [], loops := [], inl := [(64, ajr D1 Tryd.f64)] } : Ctx)
theorem bbu (K) (next) (x) : og D1 (dw Tryd.f64 1) K next (bh9 x) = P.zs9 x (fun x => next (bh9 x)) (bnk K) := by kernel_rfl
theorem be9 : l6 D1 (dw Tryd.f64 1) := jc bh9 bfs (by kernel_rfl) P.ze9 bbu
theorem loops : bn (Tryd.f38.body.getD .skip) = [] := by kernel_rfl
theorem azo : bn (Tryd.f64.body.getD .skip) = [dw Tryd.f64 1] := by kernel_rfl
noncomputable def av : Abs.Spec := fun args K => match args with
 | [.v (.int .u64 a), .v (.int .i64 b)] => P.mq a b (fun c => K (.fr 5 (.ints .u8 c)))
 | _ => none
noncomputable def spec : Abs.Spec := av
theorem ok0 : Proved Tryd.prog GLO.gB 38 av := by
 refine bq (D := D) (fn := Tryd.f38) (c := Tryd.f38.body.getD .skip) [.fr 5 (.ints .u8 [])] (by kernel_rfl) (ah (by kernel_rfl)) (by kernel_rfl) (by kernel_rfl) (by kernel_rfl) ⟨abx.ok, trivial⟩ ⟨bal (D := D1) (D' := D) (fn := Tryd.f64) (c := Tryd.f64.body.getD .skip) rfl rfl (by kernel_rfl) (ah (by kernel_rfl)) (by kernel_rfl) (by kernel_rfl) (by kernel_rfl) ⟨abx.ok, trivial⟩ trivial (by rw [azo]; exact ⟨be9, trivial⟩) (fun _ _ _ _ _ h => h), trivial⟩ ?_ ?_
 · rw [loops]; exact trivial
 · intro args K r h
   unfold av at h
   split at h
   · rw [P.ape] at h; exact Eq.trans (by kernel_rfl) h
   · cases h
theorem ok : Proved Tryd.prog GLO.gB 38 spec := ok0
end mq

namespace aej
noncomputable def D : Ctx := ({ P := Tryd.prog, G := [(37, jr.spec), (38, mq.spec), (46, uy.spec), (53, mo.spec)], globs := GLO.gB, hints := [], loops := [], inl := [] } : Ctx)
theorem loops : bn (Tryd.f43.body.getD .skip) = [] := by kernel_rfl
noncomputable def av : Abs.Spec := fun args K => match args with
 | [.agg [.v (.int .i64 a), .v (.int .i64 b)]] => P.aej a b (fun c => K (.fr 5 (.ints .u8 c)))
 | _ => none
noncomputable def spec : Abs.Spec := av
theorem ok0 : Proved Tryd.prog GLO.gB 43 av := by
 refine bq (D := D) (fn := Tryd.f43) (c := Tryd.f43.body.getD .skip) [.fr 5 (.ints .u8 [])] (by kernel_rfl) (ah (by kernel_rfl)) (by kernel_rfl) (by kernel_rfl) (by kernel_rfl) ⟨jr.ok, mq.ok, uy.ok, mo.ok, trivial⟩ trivial ?_ ?_
 · rw [loops]; exact trivial
 · intro args K r h
   unfold av at h
   split at h
   · rw [P.avq] at h; exact Eq.trans (by kernel_rfl) h
   · cases h
theorem ok : Proved Tryd.prog GLO.gB 43 spec := ok0
end aej

namespace zw
noncomputable def D : Ctx := ({ P := Tryd.prog, G := [(74, l5.spec)], globs := GLO.gB, hints := [], loops := [], inl := [] } : Ctx)
theorem loops : bn (Tryd.f90.body.getD .skip) = [] := by kernel_rfl
noncomputable def av : Abs.Spec := fun args K => match args with
 | [.v (.int .i64 g), .sl (.ints .u8 h), .v (.int .u32 i)] => P.zw g h i (fun e d f a b c j => K (.tuple [.agg [.v (.int .i64 e), .sl (.ints .u8 d), .v (.int .u32 f), .v (.int .i64 a), .v (.int .i64 b), .v (.int .i64 c)], .v (.int .i64 j)]))
 | _ => none
noncomputable def spec : Abs.Spec := fun args K => av (o7 [.any, .sl (.ints .u8 []), .any] args) K
theorem ok0 : Proved Tryd.prog GLO.gB 90 av := by
 refine bq (D := D) (fn := Tryd.f90) (c := Tryd.f90.body.getD .skip) [.agg [.any, .sl (.ints .u8 []), .any, .any, .any, .any], .any] (by kernel_rfl) (ah (by kernel_rfl)) (by kernel_rfl) (by kernel_rfl) (by kernel_rfl) ⟨l5.ok, trivial⟩ trivial ?_ ?_
 · rw [loops]; exact trivial
 · intro args K r h
   unfold av at h
   split at h
   · rw [P.aop] at h; exact Eq.trans (by kernel_rfl) h
   · cases h
theorem ok : Proved Tryd.prog GLO.gB 90 spec := dz _ ok0
end zw

namespace j5
noncomputable def D : Ctx := ({ P := Tryd.prog, G := [], globs := GLO.gB, hints := [], loops := [], inl := [] } : Ctx)
theorem loops : bn (Tryd.f110.body.getD .skip) = [] := by kernel_rfl
noncomputable def av : Abs.Spec := fun args K => match args with
 | [.v (.int .i64 a)] => P.j5 a (fun b => K (.v (.int .u64 b)))
 | _ => none
noncomputable def spec : Abs.Spec := av
theorem ok0 : Proved Tryd.prog GLO.gB 110 av := by
 refine bq (D := D) (fn := Tryd.f110) (c := Tryd.f110.body.getD .skip) [.any] (by kernel_rfl) (ah (by kernel_rfl)) (by kernel_rfl) (by kernel_rfl) (by kernel_rfl) trivial trivial ?_ ?_
 · rw [loops]; exact trivial
 · intro args K r h
   unfold av at h
   split at h
   · rw [P.ahi] at h; exact Eq.trans (by kernel_rfl) h
   · cases h
theorem ok : Proved Tryd.prog GLO.gB 110 spec := ok0
end j5

namespace zm
noncomputable def D : Ctx := ({ P := Tryd.prog, G := [(110, j5.spec)], globs := GLO.gB, hints := [], loops := [], inl := [] } : Ctx)
theorem loops : bn (Tryd.f99.body.getD .skip) = [] := by kernel_rfl
noncomputable def av : Abs.Spec := fun args K => match args with
 | [] => P.zm (fun f e a b c d => K (.agg [.v (.int .i64 f), .v (.int .i64 e), .arr .i64 3 a, .arr .i64 3 b, .arr .i64 3 c, .arr .i64 3 d, .fn (.func 110) [] []]))
 | _ => none
noncomputable def spec : Abs.Spec := av
theorem ok0 : Proved Tryd.prog GLO.gB 99 av := by
 refine bq (D := D) (fn := Tryd.f99) (c := Tryd.f99.body.getD .skip) [.any] (by kernel_rfl) (ah (by kernel_rfl)) (by kernel_rfl) (by kernel_rfl) (by kernel_rfl) ⟨j5.ok, trivial⟩ trivial ?_ ?_
 · rw [loops]; exact trivial
 · intro args K r h
   unfold av at h
   split at h
   · rw [P.ak8] at h; exact Eq.trans (by kernel_rfl) h
   · cases h
theorem ok : Proved Tryd.prog GLO.gB 99 spec := ok0
end zm

namespace jy
noncomputable def D : Ctx := ({ P := Tryd.prog, G := [], globs := GLO.gB, hints := [], loops := [], inl := [] } : Ctx)
theorem loops : bn (Tryd.f108.body.getD .skip) = [] := by kernel_rfl
noncomputable def av : Abs.Spec := fun args K => match args with
 | [.v (.int .i64 a)] => P.jy a (fun b => K (.v (.int .u32 b)))
 | _ => none
noncomputable def spec : Abs.Spec := av
theorem ok0 : Proved Tryd.prog GLO.gB 108 av := by
 refine bq (D := D) (fn := Tryd.f108) (c := Tryd.f108.body.getD .skip) [.any] (by kernel_rfl) (ah (by kernel_rfl)) (by kernel_rfl) (by kernel_rfl) (by kernel_rfl) trivial trivial ?_ ?_
 · rw [loops]; exact trivial
 · intro args K r h
   unfold av at h
   split at h
   · rw [P.ahf] at h; exact Eq.trans (by kernel_rfl) h
   · cases h
theorem ok : Proved Tryd.prog GLO.gB 108 spec := ok0
end jy

namespace aah
noncomputable def D : Ctx := ({ P := Tryd.prog, G := [(108, jy.spec)], globs := GLO.gB, hints := [], loops := [], inl := [] } : Ctx)
theorem loops : bn (Tryd.f97.body.getD .skip) = [] := by kernel_rfl
noncomputable def av : Abs.Spec := fun args K => match args with
 | [] => P.aah (fun f e a b c d => K (.agg [.v (.int .i64 f), .v (.int .i64 e), .arr .i64 3 a, .arr .i64 3 b, .arr .i64 3 c, .arr .i64 3 d, .fn (.func 108) [] []]))
 | _ => none
noncomputable def spec : Abs.Spec := av
theorem ok0 : Proved Tryd.prog GLO.gB 97 av := by
 refine bq (D := D) (fn := Tryd.f97) (c := Tryd.f97.body.getD .skip) [.any] (by kernel_rfl) (ah (by kernel_rfl)) (by kernel_rfl) (by kernel_rfl) (by kernel_rfl) ⟨jy.ok, trivial⟩ trivial ?_ ?_
 · rw [loops]; exact trivial
 · intro args K r h
   unfold av at h
   split at h
   · rw [P.alh] at h; exact Eq.trans (by kernel_rfl) h
   · cases h
theorem ok : Proved Tryd.prog GLO.gB 97 spec := ok0
end aah

namespace aj
noncomputable def D : Ctx := ({ P := Tryd.prog, G := [(108, jy.spec)], globs := GLO.gB, hints := [], loops := [], inl := [] } : Ctx)
theorem loops : bn (Tryd.f122.body.getD .skip) = [] := by kernel_rfl
noncomputable def av : Abs.Spec := fun args K => match args with
 | [.agg [.v (.int .i64 f), .v (.int .i64 e), .arr .i64 3 a, .arr .i64 3 b, .arr .i64 3 c, .arr .i64 3 d, .fn (.func 108) [] []], .v (.int .u32 g), .v (.int .i64 h)] => P.aj f e a b c d g h (fun i => K (.v (.int .u32 i)))
 | _ => none
noncomputable def spec : Abs.Spec := av
theorem ok0 : Proved Tryd.prog GLO.gB 122 av := by
 refine bq (D := D) (fn := Tryd.f122) (c := Tryd.f122.body.getD .skip) [.any] (by kernel_rfl) (ah (by kernel_rfl)) (by kernel_rfl) (by kernel_rfl) (by kernel_rfl) ⟨jy.ok, trivial⟩ trivial ?_ ?_
 · rw [loops]; exact trivial
 · intro args K r h
   unfold av at h
   split at h
   · rw [P.y9] at h; exact Eq.trans (by kernel_rfl) h
   · cases h
theorem ok : Proved Tryd.prog GLO.gB 122 spec := ok0
end aj

namespace fu
noncomputable def D : Ctx := ({ P := Tryd.prog, G := [(108, jy.spec), (122, aj.spec)], globs := GLO.gB, hints := [], loops := [], inl := [] } : Ctx)
theorem loops : bn (Tryd.f114.body.getD .skip) = [] := by kernel_rfl
noncomputable def av : Abs.Spec := fun args K => match args with
 | [.agg [.v (.int .i64 f), .v (.int .i64 e), .arr .i64 3 a, .arr .i64 3 b, .arr .i64 3 c, .arr .i64 3 d, .fn (.func 108) [] []], .v (.int .u32 g), .v (.int .i64 h)] => P.fu f e a b c d g h (fun i => K (.v (.int .u32 i)))
 | _ => none
noncomputable def spec : Abs.Spec := av
theorem ok0 : Proved Tryd.prog GLO.gB 114 av := by
 refine bq (D := D) (fn := Tryd.f114) (c := Tryd.f114.body.getD .skip) [.any] (by kernel_rfl) (ah (by kernel_rfl)) (by kernel_rfl) (by kernel_rfl) (by kernel_rfl) ⟨jy.ok, aj.ok, trivial⟩ trivial ?_ ?_
 · rw [loops]; exact trivial
 · intro args K r h
   unfold av at h
   split at h
   · rw [P.uj] at h; exact Eq.trans (by kernel_rfl) h
   · cases h
theorem ok : Proved Tryd.prog GLO.gB 114 spec := ok0
end fu

namespace ig
noncomputable def D : Ctx := ({ P := Tryd.prog, G := [(108, jy.spec), (122, aj.spec)], globs := GLO.gB, hints := [], loops := [], inl := [] } : Ctx)
theorem loops : bn (Tryd.f115.body.getD .skip) = [] := by kernel_rfl
noncomputable def av : Abs.Spec := fun args K => match args with
 | [.agg [.v (.int .i64 f), .v (.int .i64 e), .arr .i64 3 a, .arr .i64 3 b, .arr .i64 3 c, .arr .i64 3 d, .fn (.func 108) [] []], .v (.int .u32 g), .v (.int .i64 h)] => P.ig f e a b c d g h (fun i => K (.v (.int .u32 i)))
 | _ => none
noncomputable def spec : Abs.Spec := av
theorem ok0 : Proved Tryd.prog GLO.gB 115 av := by
 refine bq (D := D) (fn := Tryd.f115) (c := Tryd.f115.body.getD .skip) [.any] (by kernel_rfl) (ah (by kernel_rfl)) (by kernel_rfl) (by kernel_rfl) (by kernel_rfl) ⟨jy.ok, aj.ok, trivial⟩ trivial ?_ ?_
 · rw [loops]; exact trivial
 · intro args K r h
   unfold av at h
   split at h
   · rw [P.vk] at h; exact Eq.trans (by kernel_rfl) h
   · cases h
theorem ok : Proved Tryd.prog GLO.gB 115 spec := ok0
end ig

namespace jf
abbrev X4 := P.bg6
def S4 : X4 → ASt := fun (k, l, j, a, b, c, d, e, f, g, h, i) => ⟨[(2, .sl (.ints .u8 k)), (3, .ptr 0 0), (4, .ptr 1 0), (6, .ptr 2 0), (7, .ptr 3 0), (8, .v (.int .i64 l)), (19, .v (.int .i64 j))], [(0, some ⟨.box 143 [.v (.int .i64 a), .v (.int .i64 b), .arr .i64 3 c, .arr .i64 3 d, .arr .i64 3 e, .arr .i64 3 f, .fn (.func 108) [] []], false⟩), (1, some ⟨.box 152 [.arr .u32 8 g], false⟩), (2, some ⟨.box 152 [.arr .u32 8 h], false⟩), (3, some ⟨.box 156 [.arr .u32 16 i], false⟩)], 4, 143⟩
def V4 : ASt → Option X4
 | ⟨[(2, .sl (.ints .u8 k)), (3, .ptr 0 0), (4, .ptr 1 0), (6, .ptr 2 0), (7, .ptr 3 0), (8, .v (.int .i64 l)), (19, .v (.int .i64 j))], [(0, some ⟨.box 143 [.v (.int .i64 a), .v (.int .i64 b), .arr .i64 3 c, .arr .i64 3 d, .arr .i64 3 e, .arr .i64 3 f, .fn (.func 108) [] []], false⟩), (1, some ⟨.box 152 [.arr .u32 8 g], false⟩), (2, some ⟨.box 152 [.arr .u32 8 h], false⟩), (3, some ⟨.box 156 [.arr .u32 16 i], false⟩)], 4, 143⟩ => some (k, l, j, a, b, c, d, e, f, g, h, i)
 | _ => none
theorem bas (st) (x) (h : V4 st = some x) : st = S4 x := by
 unfold V4 at h
 split at h
 · cases h; rfl
 · cases h
abbrev Y4 := P.bma
abbrev X10 := P.bhz
def S10 : X10 → ASt := fun (k, l, a, b, c, d, e, f, g, h, i, j) => ⟨[(3, .ptr 0 0), (4, .ptr 1 0), (6, .ptr 2 0), (7, .ptr 3 0), (10, .ptr 4 0), (38, .v (.int .i64 k)), (39, .v (.int .i64 l))], [(3, some ⟨.box 156 [.arr .u32 16 a], false⟩), (2, some ⟨.box 152 [.arr .u32 8 b], false⟩), (1, some ⟨.box 152 [.arr .u32 8 c], false⟩), (0, some ⟨.box 143 [.v (.int .i64 d), .v (.int .i64 e), .arr .i64 3 f, .arr .i64 3 g, .arr .i64 3 h, .arr .i64 3 i, .fn (.func 108) [] []], false⟩), (4, some ⟨.box 152 [.arr .u32 8 j], false⟩)], 5, 143⟩
def V10 : ASt → Option X10
 | ⟨[(3, .ptr 0 0), (4, .ptr 1 0), (6, .ptr 2 0), (7, .ptr 3 0), (10, .ptr 4 0), (38, .v (.int .i64 k)), (39, .v (.int .i64 l))], [(3, some ⟨.box 156 [.arr .u32 16 a], false⟩), (2, some ⟨.box 152 [.arr .u32 8 b], false⟩), (1, some ⟨.box 152 [.arr .u32 8 c], false⟩), (0, some ⟨.box 143 [.v (.int .i64 d), .v (.int .i64 e), .arr .i64 3 f, .arr .i64 3 g, .arr .i64 3 h, .arr .i64 3 i, .fn (.func 108) [] []], false⟩), (4, some ⟨.box 152 [.arr .u32 8 j], false⟩)], 5, 143⟩ => some (k, l, a, b, c, d, e, f, g, h, i, j)
 | _ => none
theorem atj (st) (x) (h : V10 st = some x) : st = S10 x := by
 unfold V10 at h
 split at h
 · cases h; rfl
 · cases h
abbrev Y10 := P.bjy
abbrev X21 := P.bg0
def S21 : X21 → ASt := fun (a, b, c, d) => ⟨[(4, .ptr 1 0), (6, .ptr 2 0), (10, .ptr 4 0), (130, .v (.int .i64 a))], [(1, some ⟨.box 152 [.arr .u32 8 b], false⟩), (2, some ⟨.box 152 [.arr .u32 8 c], false⟩), (4, some ⟨.box 152 [.arr .u32 8 d], false⟩)], 120, 143⟩
def V21 : ASt → Option X21
 | ⟨[(4, .ptr 1 0), (6, .ptr 2 0), (10, .ptr 4 0), (130, .v (.int .i64 a))], [(1, some ⟨.box 152 [.arr .u32 8 b], false⟩), (2, some ⟨.box 152 [.arr .u32 8 c], false⟩), (4, some ⟨.box 152 [.arr .u32 8 d], false⟩)], 120, 143⟩ => some (a, b, c, d)
 | _ => none
theorem az6 (st) (x) (h : V21 st = some x) : st = S21 x := by
 unfold V21 at h
 split at h
 · cases h; rfl
 · cases h
abbrev Y21 := P.bmv
def E4 (K : AExit → ASt → Option R) : Y4 → Option R := (fun x => K (.exit 0) (S4 x))
noncomputable def L4 : xg := fun st K => af5 (V4 st) fun x => P.bj2 x (E4 K)
def E10 (K : AExit → ASt → Option R) : Y10 → Option R := (fun x => K (.exit 2) (S10 x))
noncomputable def L10 : xg := fun st K => af5 (V10 st) fun x => P.bkf x (E10 K)
def E21 (K : AExit → ASt → Option R) : Y21 → Option R := (fun x => K (.exit 4) (S21 x))
noncomputable def L21 : xg := fun st K => af5 (V21 st) fun x => P.bj4 x (E21 K)
noncomputable def D : Ctx := ({ P := Tryd.prog, G := [(32, iw.spec), (108, jy.spec), (114, fu.spec), (115, ig.spec)], globs := GLO.gB, hints := [(21, ⟨[4, 6, 10, 130], [], [6], [], some (120, [1, 2, 4]), [], [], []⟩), (10, ⟨[3, 4, 6, 7, 10, 38, 39], [], [6], [], none, [], [], []⟩), (4, ⟨[2, 3, 4, 6, 7, 8, 19], [], [6], [], none, [], [], []⟩)], loops := [(4, L4), (10, L10), (21, L21)], inl := [] } : Ctx)
theorem asl (K) (next) (x) : og D (dw Tryd.f107 4) K next (S4 x) = P.bhh x (fun x => next (S4 x)) (E4 K) := by kernel_rfl
theorem az8 : l6 D (dw Tryd.f107 4) := jc S4 bas (by kernel_rfl) P.bnt asl
theorem an0 (K) (next) (x) : og D (dw Tryd.f107 10) K next (S10 x) = P.zs12 x (fun x => next (S10 x)) (E10 K) := by kernel_rfl
theorem asc : l6 D (dw Tryd.f107 10) := jc S10 atj (by kernel_rfl) P.bn7 an0
theorem avn (K) (next) (x) : og D (dw Tryd.f107 21) K next (S21 x) = P.bhy x (fun x => next (S21 x)) (E21 K) := by kernel_rfl
theorem bax : l6 D (dw Tryd.f107 21) := jc S21 az6 (by kernel_rfl) P.bn5 avn
theorem loops : bn (Tryd.f107.body.getD .skip) = [dw Tryd.f107 4, dw Tryd.f107 10, dw Tryd.f107 21] := by kernel_rfl
noncomputable def av : Abs.Spec := fun args K => match args with
 | [.agg [.v (.int .i64 f), .v (.int .i64 e), .arr .i64 3 a, .arr .i64 3 b, .arr .i64 3 c, .arr .i64 3 d, .fn (.func 108) [] []], .arr .u32 8 g, .sl (.ints .u8 h)] => P.jf f e a b c d g h (fun i => K (.arr .u32 8 i))
 | _ => none
noncomputable def spec : Abs.Spec := fun args K => av (o7 [.any, .any, .sl (.ints .u8 [])] args) K
theorem ok0 : Proved Tryd.prog GLO.gB 107 av := by
 refine bq (D := D) (fn := Tryd.f107) (c := Tryd.f107.body.getD .skip) [.any] (by kernel_rfl) (ah (by kernel_rfl)) (by kernel_rfl) (by kernel_rfl) (by kernel_rfl) ⟨iw.ok, jy.ok, fu.ok, ig.ok, trivial⟩ trivial ?_ ?_
 · rw [loops]; exact ⟨az8, asc, bax, trivial⟩
 · intro args K r h
   unfold av at h
   split at h
   · rw [P.aat] at h; exact Eq.trans (by kernel_rfl) h
   · cases h
theorem ok : Proved Tryd.prog GLO.gB 107 spec := dz _ ok0
end jf

namespace kr
abbrev X3 := P.bha
def S3 : X3 → ASt := fun (l, j, k, a, b, c, d, e, f, g, h, i) => ⟨[(2, .sl (.ints .u8 l)), (3, .ptr 0 0), (4, .ptr 1 0), (6, .ptr 2 0), (8, .ptr 3 0), (14, .arr .u64 8 j), (15, .v (.int .i64 k))], [(0, some ⟨.box 143 [.v (.int .i64 a), .v (.int .i64 b), .arr .i64 3 c, .arr .i64 3 d, .arr .i64 3 e, .arr .i64 3 f, .fn (.func 108) [] []], false⟩), (1, some ⟨.box 123 [.arr .u64 8 g], false⟩), (2, some ⟨.box 123 [.arr .u64 8 h], false⟩), (3, some ⟨.box 152 [.arr .u32 8 i], false⟩)], 4, 52⟩
def V3 : ASt → Option X3
 | ⟨[(2, .sl (.ints .u8 l)), (3, .ptr 0 0), (4, .ptr 1 0), (6, .ptr 2 0), (8, .ptr 3 0), (14, .arr .u64 8 j), (15, .v (.int .i64 k))], [(0, some ⟨.box 143 [.v (.int .i64 a), .v (.int .i64 b), .arr .i64 3 c, .arr .i64 3 d, .arr .i64 3 e, .arr .i64 3 f, .fn (.func 108) [] []], false⟩), (1, some ⟨.box 123 [.arr .u64 8 g], false⟩), (2, some ⟨.box 123 [.arr .u64 8 h], false⟩), (3, some ⟨.box 152 [.arr .u32 8 i], false⟩)], 4, 52⟩ => some (l, j, k, a, b, c, d, e, f, g, h, i)
 | _ => none
theorem am3 (st) (x) (h : V3 st = some x) : st = S3 x := by
 unfold V3 at h
 split at h
 · cases h; rfl
 · cases h
abbrev Y3 := P.bjq
abbrev X8 := P.bh5
def S8 : X8 → ASt := fun (k, j, a, b, c, d, e, f, g, h, i) => ⟨[(2, .sl (.ints .u8 k)), (3, .ptr 0 0), (4, .ptr 1 0), (6, .ptr 2 0), (8, .ptr 3 0), (11, .v (.int .i64 j))], [(3, some ⟨.box 152 [.arr .u32 8 a], false⟩), (2, some ⟨.box 123 [.arr .u64 8 b], false⟩), (1, some ⟨.box 123 [.arr .u64 8 c], false⟩), (0, some ⟨.box 143 [.v (.int .i64 d), .v (.int .i64 e), .arr .i64 3 f, .arr .i64 3 g, .arr .i64 3 h, .arr .i64 3 i, .fn (.func 108) [] []], false⟩)], 4, 52⟩
def V8 : ASt → Option X8
 | ⟨[(2, .sl (.ints .u8 k)), (3, .ptr 0 0), (4, .ptr 1 0), (6, .ptr 2 0), (8, .ptr 3 0), (11, .v (.int .i64 j))], [(3, some ⟨.box 152 [.arr .u32 8 a], false⟩), (2, some ⟨.box 123 [.arr .u64 8 b], false⟩), (1, some ⟨.box 123 [.arr .u64 8 c], false⟩), (0, some ⟨.box 143 [.v (.int .i64 d), .v (.int .i64 e), .arr .i64 3 f, .arr .i64 3 g, .arr .i64 3 h, .arr .i64 3 i, .fn (.func 108) [] []], false⟩)], 4, 52⟩ => some (k, j, a, b, c, d, e, f, g, h, i)
 | _ => none
theorem avi (st) (x) (h : V8 st = some x) : st = S8 x := by
 unfold V8 at h
 split at h
 · cases h; rfl
 · cases h
abbrev Y8 := P.bmn
abbrev X12 := P.bgs
def S12 : X12 → ASt := fun (e, c, d, a, b) => ⟨[(2, .sl (.ints .u8 e)), (4, .ptr 1 0), (6, .ptr 2 0), (40, .arr .u32 8 c), (41, .v (.int .i64 d))], [(1, some ⟨.box 123 [.arr .u64 8 a], false⟩), (2, some ⟨.box 123 [.arr .u64 8 b], false⟩)], 120, 52⟩
def V12 : ASt → Option X12
 | ⟨[(2, .sl (.ints .u8 e)), (4, .ptr 1 0), (6, .ptr 2 0), (40, .arr .u32 8 c), (41, .v (.int .i64 d))], [(1, some ⟨.box 123 [.arr .u64 8 a], false⟩), (2, some ⟨.box 123 [.arr .u64 8 b], false⟩)], 120, 52⟩ => some (e, c, d, a, b)
 | _ => none
theorem az1 (st) (x) (h : V12 st = some x) : st = S12 x := by
 unfold V12 at h
 split at h
 · cases h; rfl
 · cases h
abbrev Y12 := P.bl4
def E3 (K : AExit → ASt → Option R) : Y3 → Option R := (fun x => K (.exit 0) (S3 x))
noncomputable def L3 : xg := fun st K => af5 (V3 st) fun x => P.bki x (E3 K)
def E8 (K : AExit → ASt → Option R) : Y8 → Option R := (fun x => K (.exit 2) (S8 x))
noncomputable def L8 : xg := fun st K => af5 (V8 st) fun x => P.blb x (E8 K)
def E12 (K : AExit → ASt → Option R) : Y12 → Option R := (fun x => K (.exit 4) (S12 x))
noncomputable def L12 : xg := fun st K => af5 (V12 st) fun x => P.bjw x (E12 K)
noncomputable def D : Ctx := ({ P := Tryd.prog, G := [(107, jf.spec), (108, jy.spec)], globs := GLO.gB, hints := [(12, ⟨[2, 4, 6, 40, 41], [], [6, 7], [], some (120, [1, 2]), [], [], []⟩), (8, ⟨[2, 3, 4, 6, 8, 11], [], [6, 7], [(2, .sl (.ints .u8 []))], none, [], [], []⟩), (3, ⟨[2, 3, 4, 6, 8, 14, 15], [], [6, 7], [], none, [], [], []⟩)], loops := [(3, L3), (8, L8), (12, L12)], inl := [] } : Ctx)
theorem af9 (K) (next) (x) : og D (dw Tryd.f96 3) K next (S3 x) = P.bgi x (fun x => next (S3 x)) (E3 K) := by kernel_rfl
theorem an2 : l6 D (dw Tryd.f96 3) := jc S3 am3 (by kernel_rfl) P.boe af9
theorem amt (K) (next) (x) : og D (dw Tryd.f96 8) K next (S8 x) = P.bh6 x (fun x => next (S8 x)) (E8 K) := by kernel_rfl
theorem avf : l6 D (dw Tryd.f96 8) := jc S8 avi (by kernel_rfl) P.boc amt
theorem avh (K) (next) (x) : og D (dw Tryd.f96 12) K next (S12 x) = P.bhf x (fun x => next (S12 x)) (E12 K) := by kernel_rfl
theorem bab : l6 D (dw Tryd.f96 12) := jc S12 az1 (by kernel_rfl) P.bnv avh
theorem loops : bn (Tryd.f96.body.getD .skip) = [dw Tryd.f96 3, dw Tryd.f96 8, dw Tryd.f96 12] := by kernel_rfl
noncomputable def av : Abs.Spec := fun args K => match args with
 | [.agg [.v (.int .i64 f), .v (.int .i64 e), .arr .i64 3 a, .arr .i64 3 b, .arr .i64 3 c, .arr .i64 3 d, .fn (.func 108) [] []], .arr .u64 8 g, .sl (.ints .u8 h)] => P.kr f e a b c d g h (fun i j => K (.tuple [.arr .u64 8 i, .sl (.ints .u8 j)]))
 | _ => none
noncomputable def spec : Abs.Spec := fun args K => av (o7 [.any, .any, .sl (.ints .u8 [])] args) K
theorem ok0 : Proved Tryd.prog GLO.gB 96 av := by
 refine bq (D := D) (fn := Tryd.f96) (c := Tryd.f96.body.getD .skip) [.any, .sl (.ints .u8 [])] (by kernel_rfl) (ah (by kernel_rfl)) (by kernel_rfl) (by kernel_rfl) (by kernel_rfl) ⟨jf.ok, jy.ok, trivial⟩ trivial ?_ ?_
 · rw [loops]; exact ⟨an2, avf, bab, trivial⟩
 · intro args K r h
   unfold av at h
   split at h
   · rw [P.acu] at h; exact Eq.trans (by kernel_rfl) h
   · cases h
theorem ok : Proved Tryd.prog GLO.gB 96 spec := dz _ ok0
end kr

namespace ak
noncomputable def D : Ctx := ({ P := Tryd.prog, G := [(110, j5.spec)], globs := GLO.gB, hints := [], loops := [], inl := [] } : Ctx)
theorem loops : bn (Tryd.f123.body.getD .skip) = [] := by kernel_rfl
noncomputable def av : Abs.Spec := fun args K => match args with
 | [.agg [.v (.int .i64 f), .v (.int .i64 e), .arr .i64 3 a, .arr .i64 3 b, .arr .i64 3 c, .arr .i64 3 d, .fn (.func 110) [] []], .v (.int .u64 g), .v (.int .i64 h)] => P.ak f e a b c d g h (fun i => K (.v (.int .u64 i)))
 | _ => none
noncomputable def spec : Abs.Spec := av
theorem ok0 : Proved Tryd.prog GLO.gB 123 av := by
 refine bq (D := D) (fn := Tryd.f123) (c := Tryd.f123.body.getD .skip) [.any] (by kernel_rfl) (ah (by kernel_rfl)) (by kernel_rfl) (by kernel_rfl) (by kernel_rfl) ⟨j5.ok, trivial⟩ trivial ?_ ?_
 · rw [loops]; exact trivial
 · intro args K r h
   unfold av at h
   split at h
   · rw [P.za] at h; exact Eq.trans (by kernel_rfl) h
   · cases h
theorem ok : Proved Tryd.prog GLO.gB 123 spec := ok0
end ak

namespace gq
noncomputable def D : Ctx := ({ P := Tryd.prog, G := [(110, j5.spec), (123, ak.spec)], globs := GLO.gB, hints := [], loops := [], inl := [] } : Ctx)
theorem loops : bn (Tryd.f116.body.getD .skip) = [] := by kernel_rfl
noncomputable def av : Abs.Spec := fun args K => match args with
 | [.agg [.v (.int .i64 f), .v (.int .i64 e), .arr .i64 3 a, .arr .i64 3 b, .arr .i64 3 c, .arr .i64 3 d, .fn (.func 110) [] []], .v (.int .u64 g), .v (.int .i64 h)] => P.gq f e a b c d g h (fun i => K (.v (.int .u64 i)))
 | _ => none
noncomputable def spec : Abs.Spec := av
theorem ok0 : Proved Tryd.prog GLO.gB 116 av := by
 refine bq (D := D) (fn := Tryd.f116) (c := Tryd.f116.body.getD .skip) [.any] (by kernel_rfl) (ah (by kernel_rfl)) (by kernel_rfl) (by kernel_rfl) (by kernel_rfl) ⟨j5.ok, ak.ok, trivial⟩ trivial ?_ ?_
 · rw [loops]; exact trivial
 · intro args K r h
   unfold av at h
   split at h
   · rw [P.uo] at h; exact Eq.trans (by kernel_rfl) h
   · cases h
theorem ok : Proved Tryd.prog GLO.gB 116 spec := ok0
end gq

namespace iq
noncomputable def D : Ctx := ({ P := Tryd.prog, G := [(110, j5.spec), (123, ak.spec)], globs := GLO.gB, hints := [], loops := [], inl := [] } : Ctx)
theorem loops : bn (Tryd.f117.body.getD .skip) = [] := by kernel_rfl
noncomputable def av : Abs.Spec := fun args K => match args with
 | [.agg [.v (.int .i64 f), .v (.int .i64 e), .arr .i64 3 a, .arr .i64 3 b, .arr .i64 3 c, .arr .i64 3 d, .fn (.func 110) [] []], .v (.int .u64 g), .v (.int .i64 h)] => P.iq f e a b c d g h (fun i => K (.v (.int .u64 i)))
 | _ => none
noncomputable def spec : Abs.Spec := av
theorem ok0 : Proved Tryd.prog GLO.gB 117 av := by
 refine bq (D := D) (fn := Tryd.f117) (c := Tryd.f117.body.getD .skip) [.any] (by kernel_rfl) (ah (by kernel_rfl)) (by kernel_rfl) (by kernel_rfl) (by kernel_rfl) ⟨j5.ok, ak.ok, trivial⟩ trivial ?_ ?_
 · rw [loops]; exact trivial
 · intro args K r h
   unfold av at h
   split at h
   · rw [P.vg] at h; exact Eq.trans (by kernel_rfl) h
   · cases h
theorem ok : Proved Tryd.prog GLO.gB 117 spec := ok0
end iq

end
