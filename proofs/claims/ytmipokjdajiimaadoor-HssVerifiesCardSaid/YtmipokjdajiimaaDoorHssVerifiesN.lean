/-
  HssVerifies, part 14: an interpreter of my own over abstract values, the pure functions, the walks and the plain law.
-/

import Derived.Test.YtmipokjdajiimaaDoorHssVerifiesI
import Derived.Test.YtmipokjdajiimaaDoorHssVerifiesH
import Derived.Test.YtmipokjdajiimaaDoorProg
import Derived.Test.YtmipokjdajiimaaDoorHssVerifiesJ
import Derived.Test.YtmipokjdajiimaaDoorHssVerifiesM
import Derived.KernelRfl
import Derived.Test.YtmipokjdajiimaaDoorHssVerifiesK

section
open Go Go.Abs Go.Proofs
set_option maxRecDepth 100000
set_option maxHeartbeats 0
set_option linter.unusedVariables false

namespace ni
abbrev bzz := P.zt9
def br6 : bzz → ASt := fun (a, b, c) => ⟨[(0, .own 0), (2, .v (.int .i64 a)), (3, .v (.int .i64 b))], [(0, some ⟨.row 5 (.ints .u8 c), false⟩)], 1, 28⟩
def bve : ASt → Option bzz
 | ⟨[(0, .own 0), (2, .v (.int .i64 a)), (3, .v (.int .i64 b))], [(0, some ⟨.row 5 (.ints .u8 c), false⟩)], 1, 28⟩ => some (a, b, c)
 | _ => none
theorem bmv (st) (x) (h : bve st = some x) : st = br6 x := by
 unfold bve at h
 split at h
 · cases h; rfl
 · cases h
abbrev Y1_1 := P.zy9
def bzl (K : AExit → ASt → Option R) : Y1_1 → Option R := (fun x => K (.exit 0) (br6 x))
noncomputable def L1_1 : sj := fun st K => ad3 (bve st) fun x => P.zm9 x (bzl K)
noncomputable def D1 : Ctx := ({ P := Tryd.prog, G := [(63, adf.spec)], globs := GLO.gB, hints := [(1, ⟨[0, 2, 3], [], [], [], none, [], [], []⟩)], loops := [(1, L1_1)], inl := [] } : Ctx)
noncomputable def D : Ctx := ({ P := Tryd.prog, G := [(63, adf.spec)], globs := GLO.gB, hints := [], loops := [], inl := [(64, anl D1 Tryd.f64)] } : Ctx)
theorem bjj (K) (next) (x) : ko D1 (dw Tryd.f64 1) K next (br6 x) = P.zs9 x (fun x => next (br6 x)) (bzl K) := by kernel_rfl
theorem bny : jm D1 (dw Tryd.f64 1) := fq br6 bmv (by kernel_rfl) P.ze9 bjj
theorem loops : dh (Tryd.f38.body.getD .skip) = [] := by kernel_rfl
theorem bhw : dh (Tryd.f64.body.getD .skip) = [dw Tryd.f64 1] := by kernel_rfl
noncomputable def au : Abs.Spec := fun args K => match args with
 | [.v (.int .u64 a), .v (.int .i64 b)] => P.ni a b (fun c => K (.fr 5 (.ints .u8 c)))
 | _ => none
noncomputable def spec : Abs.Spec := au
theorem ok0 : Proved Tryd.prog GLO.gB 38 au := by
 refine cu (D := D) (fn := Tryd.f38) (c := Tryd.f38.body.getD .skip) [.fr 5 (.ints .u8 [])] (by kernel_rfl) (aj (by kernel_rfl)) (by kernel_rfl) (by kernel_rfl) (by kernel_rfl) ⟨adf.ok, trivial⟩ ⟨bh7 (D := D1) (D' := D) (fn := Tryd.f64) (c := Tryd.f64.body.getD .skip) rfl rfl (by kernel_rfl) (aj (by kernel_rfl)) (by kernel_rfl) (by kernel_rfl) (by kernel_rfl) ⟨adf.ok, trivial⟩ trivial (by rw [bhw]; exact ⟨bny, trivial⟩) (fun _ _ _ _ _ h => h), trivial⟩ ?_ ?_
 · rw [loops]; exact trivial
 · intro args K r h
   unfold au at h
   split at h
   · rw [P.avp] at h; exact Eq.trans (by kernel_rfl) h
   · cases h
theorem ok : Proved Tryd.prog GLO.gB 38 spec := ok0
end ni

namespace ae1
noncomputable def D : Ctx := ({ P := Tryd.prog, G := [(37, jq.spec), (38, ni.spec), (46, y5.spec), (53, pq.spec)], globs := GLO.gB, hints := [], loops := [], inl := [] } : Ctx)
theorem loops : dh (Tryd.f43.body.getD .skip) = [] := by kernel_rfl
noncomputable def au : Abs.Spec := fun args K => match args with
 | [.agg [.v (.int .i64 a), .v (.int .i64 b)]] => P.ae1 a b (fun c => K (.fr 5 (.ints .u8 c)))
 | _ => none
noncomputable def spec : Abs.Spec := au
theorem ok0 : Proved Tryd.prog GLO.gB 43 au := by
 refine cu (D := D) (fn := Tryd.f43) (c := Tryd.f43.body.getD .skip) [.fr 5 (.ints .u8 [])] (by kernel_rfl) (aj (by kernel_rfl)) (by kernel_rfl) (by kernel_rfl) (by kernel_rfl) ⟨jq.ok, ni.ok, y5.ok, pq.ok, trivial⟩ trivial ?_ ?_
 · rw [loops]; exact trivial
 · intro args K r h
   unfold au at h
   split at h
   · rw [P.asb] at h; exact Eq.trans (by kernel_rfl) h
   · cases h
theorem ok : Proved Tryd.prog GLO.gB 43 spec := ok0
end ae1

namespace zx
noncomputable def D : Ctx := ({ P := Tryd.prog, G := [(74, l6.spec)], globs := GLO.gB, hints := [], loops := [], inl := [] } : Ctx)
theorem loops : dh (Tryd.f90.body.getD .skip) = [] := by kernel_rfl
noncomputable def au : Abs.Spec := fun args K => match args with
 | [.v (.int .i64 g), .sl (.ints .u8 h), .v (.int .u32 i)] => P.zx g h i (fun e d f a b c j => K (.tuple [.agg [.v (.int .i64 e), .sl (.ints .u8 d), .v (.int .u32 f), .v (.int .i64 a), .v (.int .i64 b), .v (.int .i64 c)], .v (.int .i64 j)]))
 | _ => none
noncomputable def spec : Abs.Spec := fun args K => au (mo [.any, .sl (.ints .u8 []), .any] args) K
theorem ok0 : Proved Tryd.prog GLO.gB 90 au := by
 refine cu (D := D) (fn := Tryd.f90) (c := Tryd.f90.body.getD .skip) [.agg [.any, .sl (.ints .u8 []), .any, .any, .any, .any], .any] (by kernel_rfl) (aj (by kernel_rfl)) (by kernel_rfl) (by kernel_rfl) (by kernel_rfl) ⟨l6.ok, trivial⟩ trivial ?_ ?_
 · rw [loops]; exact trivial
 · intro args K r h
   unfold au at h
   split at h
   · rw [P.aku] at h; exact Eq.trans (by kernel_rfl) h
   · cases h
theorem ok : Proved Tryd.prog GLO.gB 90 spec := dz _ ok0
end zx

namespace lu
noncomputable def D : Ctx := ({ P := Tryd.prog, G := [], globs := GLO.gB, hints := [], loops := [], inl := [] } : Ctx)
theorem loops : dh (Tryd.f110.body.getD .skip) = [] := by kernel_rfl
noncomputable def au : Abs.Spec := fun args K => match args with
 | [.v (.int .i64 a)] => P.lu a (fun b => K (.v (.int .u64 b)))
 | _ => none
noncomputable def spec : Abs.Spec := au
theorem ok0 : Proved Tryd.prog GLO.gB 110 au := by
 refine cu (D := D) (fn := Tryd.f110) (c := Tryd.f110.body.getD .skip) [.any] (by kernel_rfl) (aj (by kernel_rfl)) (by kernel_rfl) (by kernel_rfl) (by kernel_rfl) trivial trivial ?_ ?_
 · rw [loops]; exact trivial
 · intro args K r h
   unfold au at h
   split at h
   · rw [P.akr] at h; exact Eq.trans (by kernel_rfl) h
   · cases h
theorem ok : Proved Tryd.prog GLO.gB 110 spec := ok0
end lu

namespace aa1
noncomputable def D : Ctx := ({ P := Tryd.prog, G := [(110, lu.spec)], globs := GLO.gB, hints := [], loops := [], inl := [] } : Ctx)
theorem loops : dh (Tryd.f99.body.getD .skip) = [] := by kernel_rfl
noncomputable def au : Abs.Spec := fun args K => match args with
 | [] => P.aa1 (fun f e a b c d => K (.agg [.v (.int .i64 f), .v (.int .i64 e), .arr .i64 3 a, .arr .i64 3 b, .arr .i64 3 c, .arr .i64 3 d, .fn (.func 110) [] []]))
 | _ => none
noncomputable def spec : Abs.Spec := au
theorem ok0 : Proved Tryd.prog GLO.gB 99 au := by
 refine cu (D := D) (fn := Tryd.f99) (c := Tryd.f99.body.getD .skip) [.any] (by kernel_rfl) (aj (by kernel_rfl)) (by kernel_rfl) (by kernel_rfl) (by kernel_rfl) ⟨lu.ok, trivial⟩ trivial ?_ ?_
 · rw [loops]; exact trivial
 · intro args K r h
   unfold au at h
   split at h
   · rw [P.apx] at h; exact Eq.trans (by kernel_rfl) h
   · cases h
theorem ok : Proved Tryd.prog GLO.gB 99 spec := ok0
end aa1

namespace l5
noncomputable def D : Ctx := ({ P := Tryd.prog, G := [], globs := GLO.gB, hints := [], loops := [], inl := [] } : Ctx)
theorem loops : dh (Tryd.f108.body.getD .skip) = [] := by kernel_rfl
noncomputable def au : Abs.Spec := fun args K => match args with
 | [.v (.int .i64 a)] => P.l5 a (fun b => K (.v (.int .u32 b)))
 | _ => none
noncomputable def spec : Abs.Spec := au
theorem ok0 : Proved Tryd.prog GLO.gB 108 au := by
 refine cu (D := D) (fn := Tryd.f108) (c := Tryd.f108.body.getD .skip) [.any] (by kernel_rfl) (aj (by kernel_rfl)) (by kernel_rfl) (by kernel_rfl) (by kernel_rfl) trivial trivial ?_ ?_
 · rw [loops]; exact trivial
 · intro args K r h
   unfold au at h
   split at h
   · rw [P.akv] at h; exact Eq.trans (by kernel_rfl) h
   · cases h
theorem ok : Proved Tryd.prog GLO.gB 108 spec := ok0
end l5

namespace aa5
noncomputable def D : Ctx := ({ P := Tryd.prog, G := [(108, l5.spec)], globs := GLO.gB, hints := [], loops := [], inl := [] } : Ctx)
theorem loops : dh (Tryd.f97.body.getD .skip) = [] := by kernel_rfl
noncomputable def au : Abs.Spec := fun args K => match args with
 | [] => P.aa5 (fun f e a b c d => K (.agg [.v (.int .i64 f), .v (.int .i64 e), .arr .i64 3 a, .arr .i64 3 b, .arr .i64 3 c, .arr .i64 3 d, .fn (.func 108) [] []]))
 | _ => none
noncomputable def spec : Abs.Spec := au
theorem ok0 : Proved Tryd.prog GLO.gB 97 au := by
 refine cu (D := D) (fn := Tryd.f97) (c := Tryd.f97.body.getD .skip) [.any] (by kernel_rfl) (aj (by kernel_rfl)) (by kernel_rfl) (by kernel_rfl) (by kernel_rfl) ⟨l5.ok, trivial⟩ trivial ?_ ?_
 · rw [loops]; exact trivial
 · intro args K r h
   unfold au at h
   split at h
   · rw [P.apv] at h; exact Eq.trans (by kernel_rfl) h
   · cases h
theorem ok : Proved Tryd.prog GLO.gB 97 spec := ok0
end aa5

namespace ay
noncomputable def D : Ctx := ({ P := Tryd.prog, G := [(108, l5.spec)], globs := GLO.gB, hints := [], loops := [], inl := [] } : Ctx)
theorem loops : dh (Tryd.f122.body.getD .skip) = [] := by kernel_rfl
noncomputable def au : Abs.Spec := fun args K => match args with
 | [.agg [.v (.int .i64 f), .v (.int .i64 e), .arr .i64 3 a, .arr .i64 3 b, .arr .i64 3 c, .arr .i64 3 d, .fn (.func 108) [] []], .v (.int .u32 g), .v (.int .i64 h)] => P.ay f e a b c d g h (fun i => K (.v (.int .u32 i)))
 | _ => none
noncomputable def spec : Abs.Spec := au
theorem ok0 : Proved Tryd.prog GLO.gB 122 au := by
 refine cu (D := D) (fn := Tryd.f122) (c := Tryd.f122.body.getD .skip) [.any] (by kernel_rfl) (aj (by kernel_rfl)) (by kernel_rfl) (by kernel_rfl) (by kernel_rfl) ⟨l5.ok, trivial⟩ trivial ?_ ?_
 · rw [loops]; exact trivial
 · intro args K r h
   unfold au at h
   split at h
   · rw [P.aas] at h; exact Eq.trans (by kernel_rfl) h
   · cases h
theorem ok : Proved Tryd.prog GLO.gB 122 spec := ok0
end ay

namespace gy
noncomputable def D : Ctx := ({ P := Tryd.prog, G := [(108, l5.spec), (122, ay.spec)], globs := GLO.gB, hints := [], loops := [], inl := [] } : Ctx)
theorem loops : dh (Tryd.f114.body.getD .skip) = [] := by kernel_rfl
noncomputable def au : Abs.Spec := fun args K => match args with
 | [.agg [.v (.int .i64 f), .v (.int .i64 e), .arr .i64 3 a, .arr .i64 3 b, .arr .i64 3 c, .arr .i64 3 d, .fn (.func 108) [] []], .v (.int .u32 g), .v (.int .i64 h)] => P.gy f e a b c d g h (fun i => K (.v (.int .u32 i)))
 | _ => none
noncomputable def spec : Abs.Spec := au
theorem ok0 : Proved Tryd.prog GLO.gB 114 au := by
 refine cu (D := D) (fn := Tryd.f114) (c := Tryd.f114.body.getD .skip) [.any] (by kernel_rfl) (aj (by kernel_rfl)) (by kernel_rfl) (by kernel_rfl) (by kernel_rfl) ⟨l5.ok, ay.ok, trivial⟩ trivial ?_ ?_
 · rw [loops]; exact trivial
 · intro args K r h
   unfold au at h
   split at h
   · rw [P.y8] at h; exact Eq.trans (by kernel_rfl) h
   · cases h
theorem ok : Proved Tryd.prog GLO.gB 114 spec := ok0
end gy

namespace jd
noncomputable def D : Ctx := ({ P := Tryd.prog, G := [(108, l5.spec), (122, ay.spec)], globs := GLO.gB, hints := [], loops := [], inl := [] } : Ctx)
theorem loops : dh (Tryd.f115.body.getD .skip) = [] := by kernel_rfl
noncomputable def au : Abs.Spec := fun args K => match args with
 | [.agg [.v (.int .i64 f), .v (.int .i64 e), .arr .i64 3 a, .arr .i64 3 b, .arr .i64 3 c, .arr .i64 3 d, .fn (.func 108) [] []], .v (.int .u32 g), .v (.int .i64 h)] => P.jd f e a b c d g h (fun i => K (.v (.int .u32 i)))
 | _ => none
noncomputable def spec : Abs.Spec := au
theorem ok0 : Proved Tryd.prog GLO.gB 115 au := by
 refine cu (D := D) (fn := Tryd.f115) (c := Tryd.f115.body.getD .skip) [.any] (by kernel_rfl) (aj (by kernel_rfl)) (by kernel_rfl) (by kernel_rfl) (by kernel_rfl) ⟨l5.ok, ay.ok, trivial⟩ trivial ?_ ?_
 · rw [loops]; exact trivial
 · intro args K r h
   unfold au at h
   split at h
   · rw [P.zk] at h; exact Eq.trans (by kernel_rfl) h
   · cases h
theorem ok : Proved Tryd.prog GLO.gB 115 spec := ok0
end jd

namespace ji
abbrev X4 := P.bph
def S4 : X4 → ASt := fun (k, l, j, a, b, c, d, e, f, g, h, i) => ⟨[(2, .sl (.ints .u8 k)), (3, .ptr 0 0), (4, .ptr 1 0), (6, .ptr 2 0), (7, .ptr 3 0), (8, .v (.int .i64 l)), (19, .v (.int .i64 j))], [(0, some ⟨.box 143 [.v (.int .i64 a), .v (.int .i64 b), .arr .i64 3 c, .arr .i64 3 d, .arr .i64 3 e, .arr .i64 3 f, .fn (.func 108) [] []], false⟩), (1, some ⟨.box 152 [.arr .u32 8 g], false⟩), (2, some ⟨.box 152 [.arr .u32 8 h], false⟩), (3, some ⟨.box 156 [.arr .u32 16 i], false⟩)], 4, 143⟩
def V4 : ASt → Option X4
 | ⟨[(2, .sl (.ints .u8 k)), (3, .ptr 0 0), (4, .ptr 1 0), (6, .ptr 2 0), (7, .ptr 3 0), (8, .v (.int .i64 l)), (19, .v (.int .i64 j))], [(0, some ⟨.box 143 [.v (.int .i64 a), .v (.int .i64 b), .arr .i64 3 c, .arr .i64 3 d, .arr .i64 3 e, .arr .i64 3 f, .fn (.func 108) [] []], false⟩), (1, some ⟨.box 152 [.arr .u32 8 g], false⟩), (2, some ⟨.box 152 [.arr .u32 8 h], false⟩), (3, some ⟨.box 156 [.arr .u32 16 i], false⟩)], 4, 143⟩ => some (k, l, j, a, b, c, d, e, f, g, h, i)
 | _ => none
theorem ax8 (st) (x) (h : V4 st = some x) : st = S4 x := by
 unfold V4 at h
 split at h
 · cases h; rfl
 · cases h
abbrev Y4 := P.bvy
abbrev X10 := P.brb
def S10 : X10 → ASt := fun (k, l, a, b, c, d, e, f, g, h, i, j) => ⟨[(3, .ptr 0 0), (4, .ptr 1 0), (6, .ptr 2 0), (7, .ptr 3 0), (10, .ptr 4 0), (38, .v (.int .i64 k)), (39, .v (.int .i64 l))], [(3, some ⟨.box 156 [.arr .u32 16 a], false⟩), (2, some ⟨.box 152 [.arr .u32 8 b], false⟩), (1, some ⟨.box 152 [.arr .u32 8 c], false⟩), (0, some ⟨.box 143 [.v (.int .i64 d), .v (.int .i64 e), .arr .i64 3 f, .arr .i64 3 g, .arr .i64 3 h, .arr .i64 3 i, .fn (.func 108) [] []], false⟩), (4, some ⟨.box 152 [.arr .u32 8 j], false⟩)], 5, 143⟩
def V10 : ASt → Option X10
 | ⟨[(3, .ptr 0 0), (4, .ptr 1 0), (6, .ptr 2 0), (7, .ptr 3 0), (10, .ptr 4 0), (38, .v (.int .i64 k)), (39, .v (.int .i64 l))], [(3, some ⟨.box 156 [.arr .u32 16 a], false⟩), (2, some ⟨.box 152 [.arr .u32 8 b], false⟩), (1, some ⟨.box 152 [.arr .u32 8 c], false⟩), (0, some ⟨.box 143 [.v (.int .i64 d), .v (.int .i64 e), .arr .i64 3 f, .arr .i64 3 g, .arr .i64 3 h, .arr .i64 3 i, .fn (.func 108) [] []], false⟩), (4, some ⟨.box 152 [.arr .u32 8 j], false⟩)], 5, 143⟩ => some (k, l, a, b, c, d, e, f, g, h, i, j)
 | _ => none
theorem ayu (st) (x) (h : V10 st = some x) : st = S10 x := by
 unfold V10 at h
 split at h
 · cases h; rfl
 · cases h
abbrev Y10 := P.bu0
abbrev X21 := P.bpf
def S21 : X21 → ASt := fun (a, b, c, d) => ⟨[(4, .ptr 1 0), (6, .ptr 2 0), (10, .ptr 4 0), (130, .v (.int .i64 a))], [(1, some ⟨.box 152 [.arr .u32 8 b], false⟩), (2, some ⟨.box 152 [.arr .u32 8 c], false⟩), (4, some ⟨.box 152 [.arr .u32 8 d], false⟩)], 120, 143⟩
def V21 : ASt → Option X21
 | ⟨[(4, .ptr 1 0), (6, .ptr 2 0), (10, .ptr 4 0), (130, .v (.int .i64 a))], [(1, some ⟨.box 152 [.arr .u32 8 b], false⟩), (2, some ⟨.box 152 [.arr .u32 8 c], false⟩), (4, some ⟨.box 152 [.arr .u32 8 d], false⟩)], 120, 143⟩ => some (a, b, c, d)
 | _ => none
theorem bg9 (st) (x) (h : V21 st = some x) : st = S21 x := by
 unfold V21 at h
 split at h
 · cases h; rfl
 · cases h
abbrev Y21 := P.bwz
def E4 (K : AExit → ASt → Option R) : Y4 → Option R := (fun x => K (.exit 0) (S4 x))
noncomputable def L4 : sj := fun st K => ad3 (V4 st) fun x => P.bua x (E4 K)
def E10 (K : AExit → ASt → Option R) : Y10 → Option R := (fun x => K (.exit 2) (S10 x))
noncomputable def L10 : sj := fun st K => ad3 (V10 st) fun x => P.buz x (E10 K)
def E21 (K : AExit → ASt → Option R) : Y21 → Option R := (fun x => K (.exit 4) (S21 x))
noncomputable def L21 : sj := fun st K => ad3 (V21 st) fun x => P.bu5 x (E21 K)
noncomputable def D : Ctx := ({ P := Tryd.prog, G := [(32, iy.spec), (108, l5.spec), (114, gy.spec), (115, jd.spec)], globs := GLO.gB, hints := [(21, ⟨[4, 6, 10, 130], [], [6], [], some (120, [1, 2, 4]), [], [], []⟩), (10, ⟨[3, 4, 6, 7, 10, 38, 39], [], [6], [], none, [], [], []⟩), (4, ⟨[2, 3, 4, 6, 7, 8, 19], [], [6], [], none, [], [], []⟩)], loops := [(4, L4), (10, L10), (21, L21)], inl := [] } : Ctx)
theorem am8 (K) (next) (x) : ko D (dw Tryd.f107 4) K next (S4 x) = P.brj x (fun x => next (S4 x)) (E4 K) := by kernel_rfl
theorem aw2 : jm D (dw Tryd.f107 4) := fq S4 ax8 (by kernel_rfl) P.bzb am8
theorem aue (K) (next) (x) : ko D (dw Tryd.f107 10) K next (S10 x) = P.zs12 x (fun x => next (S10 x)) (E10 K) := by kernel_rfl
theorem ay3 : jm D (dw Tryd.f107 10) := fq S10 ayu (by kernel_rfl) P.by3 aue
theorem bbg (K) (next) (x) : ko D (dw Tryd.f107 21) K next (S21 x) = P.brl x (fun x => next (S21 x)) (E21 K) := by kernel_rfl
theorem bgn : jm D (dw Tryd.f107 21) := fq S21 bg9 (by kernel_rfl) P.b0i bbg
theorem loops : dh (Tryd.f107.body.getD .skip) = [dw Tryd.f107 4, dw Tryd.f107 10, dw Tryd.f107 21] := by kernel_rfl
noncomputable def au : Abs.Spec := fun args K => match args with
 | [.agg [.v (.int .i64 f), .v (.int .i64 e), .arr .i64 3 a, .arr .i64 3 b, .arr .i64 3 c, .arr .i64 3 d, .fn (.func 108) [] []], .arr .u32 8 g, .sl (.ints .u8 h)] => P.ji f e a b c d g h (fun i => K (.arr .u32 8 i))
 | _ => none
noncomputable def spec : Abs.Spec := fun args K => au (mo [.any, .any, .sl (.ints .u8 [])] args) K
theorem ok0 : Proved Tryd.prog GLO.gB 107 au := by
 refine cu (D := D) (fn := Tryd.f107) (c := Tryd.f107.body.getD .skip) [.any] (by kernel_rfl) (aj (by kernel_rfl)) (by kernel_rfl) (by kernel_rfl) (by kernel_rfl) ⟨iy.ok, l5.ok, gy.ok, jd.ok, trivial⟩ trivial ?_ ?_
 · rw [loops]; exact ⟨aw2, ay3, bgn, trivial⟩
 · intro args K r h
   unfold au at h
   split at h
   · rw [P.abw] at h; exact Eq.trans (by kernel_rfl) h
   · cases h
theorem ok : Proved Tryd.prog GLO.gB 107 spec := dz _ ok0
end ji

namespace mg
abbrev X3 := P.bp4
def S3 : X3 → ASt := fun (l, j, k, a, b, c, d, e, f, g, h, i) => ⟨[(2, .sl (.ints .u8 l)), (3, .ptr 0 0), (4, .ptr 1 0), (6, .ptr 2 0), (8, .ptr 3 0), (14, .arr .u64 8 j), (15, .v (.int .i64 k))], [(0, some ⟨.box 143 [.v (.int .i64 a), .v (.int .i64 b), .arr .i64 3 c, .arr .i64 3 d, .arr .i64 3 e, .arr .i64 3 f, .fn (.func 108) [] []], false⟩), (1, some ⟨.box 123 [.arr .u64 8 g], false⟩), (2, some ⟨.box 123 [.arr .u64 8 h], false⟩), (3, some ⟨.box 152 [.arr .u32 8 i], false⟩)], 4, 52⟩
def V3 : ASt → Option X3
 | ⟨[(2, .sl (.ints .u8 l)), (3, .ptr 0 0), (4, .ptr 1 0), (6, .ptr 2 0), (8, .ptr 3 0), (14, .arr .u64 8 j), (15, .v (.int .i64 k))], [(0, some ⟨.box 143 [.v (.int .i64 a), .v (.int .i64 b), .arr .i64 3 c, .arr .i64 3 d, .arr .i64 3 e, .arr .i64 3 f, .fn (.func 108) [] []], false⟩), (1, some ⟨.box 123 [.arr .u64 8 g], false⟩), (2, some ⟨.box 123 [.arr .u64 8 h], false⟩), (3, some ⟨.box 152 [.arr .u32 8 i], false⟩)], 4, 52⟩ => some (l, j, k, a, b, c, d, e, f, g, h, i)
 | _ => none
theorem apk (st) (x) (h : V3 st = some x) : st = S3 x := by
 unfold V3 at h
 split at h
 · cases h; rfl
 · cases h
abbrev Y3 := P.byy
abbrev X8 := P.brn
def S8 : X8 → ASt := fun (k, j, a, b, c, d, e, f, g, h, i) => ⟨[(2, .sl (.ints .u8 k)), (3, .ptr 0 0), (4, .ptr 1 0), (6, .ptr 2 0), (8, .ptr 3 0), (11, .v (.int .i64 j))], [(3, some ⟨.box 152 [.arr .u32 8 a], false⟩), (2, some ⟨.box 123 [.arr .u64 8 b], false⟩), (1, some ⟨.box 123 [.arr .u64 8 c], false⟩), (0, some ⟨.box 143 [.v (.int .i64 d), .v (.int .i64 e), .arr .i64 3 f, .arr .i64 3 g, .arr .i64 3 h, .arr .i64 3 i, .fn (.func 108) [] []], false⟩)], 4, 52⟩
def V8 : ASt → Option X8
 | ⟨[(2, .sl (.ints .u8 k)), (3, .ptr 0 0), (4, .ptr 1 0), (6, .ptr 2 0), (8, .ptr 3 0), (11, .v (.int .i64 j))], [(3, some ⟨.box 152 [.arr .u32 8 a], false⟩), (2, some ⟨.box 123 [.arr .u64 8 b], false⟩), (1, some ⟨.box 123 [.arr .u64 8 c], false⟩), (0, some ⟨.box 143 [.v (.int .i64 d), .v (.int .i64 e), .arr .i64 3 f, .arr .i64 3 g, .arr .i64 3 h, .arr .i64 3 i, .fn (.func 108) [] []], false⟩)], 4, 52⟩ => some (k, j, a, b, c, d, e, f, g, h, i)
 | _ => none
theorem ayd (st) (x) (h : V8 st = some x) : st = S8 x := by
 unfold V8 at h
 split at h
 · cases h; rfl
 · cases h
abbrev Y8 := P.bu9
abbrev X12 := P.bps
def S12 : X12 → ASt := fun (e, c, d, a, b) => ⟨[(2, .sl (.ints .u8 e)), (4, .ptr 1 0), (6, .ptr 2 0), (40, .arr .u32 8 c), (41, .v (.int .i64 d))], [(1, some ⟨.box 123 [.arr .u64 8 a], false⟩), (2, some ⟨.box 123 [.arr .u64 8 b], false⟩)], 120, 52⟩
def V12 : ASt → Option X12
 | ⟨[(2, .sl (.ints .u8 e)), (4, .ptr 1 0), (6, .ptr 2 0), (40, .arr .u32 8 c), (41, .v (.int .i64 d))], [(1, some ⟨.box 123 [.arr .u64 8 a], false⟩), (2, some ⟨.box 123 [.arr .u64 8 b], false⟩)], 120, 52⟩ => some (e, c, d, a, b)
 | _ => none
theorem bht (st) (x) (h : V12 st = some x) : st = S12 x := by
 unfold V12 at h
 split at h
 · cases h; rfl
 · cases h
abbrev Y12 := P.byh
def E3 (K : AExit → ASt → Option R) : Y3 → Option R := (fun x => K (.exit 0) (S3 x))
noncomputable def L3 : sj := fun st K => ad3 (V3 st) fun x => P.byk x (E3 K)
def E8 (K : AExit → ASt → Option R) : Y8 → Option R := (fun x => K (.exit 2) (S8 x))
noncomputable def L8 : sj := fun st K => ad3 (V8 st) fun x => P.btx x (E8 K)
def E12 (K : AExit → ASt → Option R) : Y12 → Option R := (fun x => K (.exit 4) (S12 x))
noncomputable def L12 : sj := fun st K => ad3 (V12 st) fun x => P.bud x (E12 K)
noncomputable def D : Ctx := ({ P := Tryd.prog, G := [(107, ji.spec), (108, l5.spec)], globs := GLO.gB, hints := [(12, ⟨[2, 4, 6, 40, 41], [], [6, 7], [], some (120, [1, 2]), [], [], []⟩), (8, ⟨[2, 3, 4, 6, 8, 11], [], [6, 7], [(2, .sl (.ints .u8 []))], none, [], [], []⟩), (3, ⟨[2, 3, 4, 6, 8, 14, 15], [], [6, 7], [], none, [], [], []⟩)], loops := [(3, L3), (8, L8), (12, L12)], inl := [] } : Ctx)
theorem ahc (K) (next) (x) : ko D (dw Tryd.f96 3) K next (S3 x) = P.bpj x (fun x => next (S3 x)) (E3 K) := by kernel_rfl
theorem ao0 : jm D (dw Tryd.f96 3) := fq S3 apk (by kernel_rfl) P.bzs ahc
theorem amj (K) (next) (x) : ko D (dw Tryd.f96 8) K next (S8 x) = P.brt x (fun x => next (S8 x)) (E8 K) := by kernel_rfl
theorem axb : jm D (dw Tryd.f96 8) := fq S8 ayd (by kernel_rfl) P.by4 amj
theorem bcc (K) (next) (x) : ko D (dw Tryd.f96 12) K next (S12 x) = P.bpw x (fun x => next (S12 x)) (E12 K) := by kernel_rfl
theorem bga : jm D (dw Tryd.f96 12) := fq S12 bht (by kernel_rfl) P.b0a bcc
theorem loops : dh (Tryd.f96.body.getD .skip) = [dw Tryd.f96 3, dw Tryd.f96 8, dw Tryd.f96 12] := by kernel_rfl
noncomputable def au : Abs.Spec := fun args K => match args with
 | [.agg [.v (.int .i64 f), .v (.int .i64 e), .arr .i64 3 a, .arr .i64 3 b, .arr .i64 3 c, .arr .i64 3 d, .fn (.func 108) [] []], .arr .u64 8 g, .sl (.ints .u8 h)] => P.mg f e a b c d g h (fun i j => K (.tuple [.arr .u64 8 i, .sl (.ints .u8 j)]))
 | _ => none
noncomputable def spec : Abs.Spec := fun args K => au (mo [.any, .any, .sl (.ints .u8 [])] args) K
theorem ok0 : Proved Tryd.prog GLO.gB 96 au := by
 refine cu (D := D) (fn := Tryd.f96) (c := Tryd.f96.body.getD .skip) [.any, .sl (.ints .u8 [])] (by kernel_rfl) (aj (by kernel_rfl)) (by kernel_rfl) (by kernel_rfl) (by kernel_rfl) ⟨ji.ok, l5.ok, trivial⟩ trivial ?_ ?_
 · rw [loops]; exact ⟨ao0, axb, bga, trivial⟩
 · intro args K r h
   unfold au at h
   split at h
   · rw [P.aef] at h; exact Eq.trans (by kernel_rfl) h
   · cases h
theorem ok : Proved Tryd.prog GLO.gB 96 spec := dz _ ok0
end mg

namespace av
noncomputable def D : Ctx := ({ P := Tryd.prog, G := [(110, lu.spec)], globs := GLO.gB, hints := [], loops := [], inl := [] } : Ctx)
theorem loops : dh (Tryd.f123.body.getD .skip) = [] := by kernel_rfl
noncomputable def au : Abs.Spec := fun args K => match args with
 | [.agg [.v (.int .i64 f), .v (.int .i64 e), .arr .i64 3 a, .arr .i64 3 b, .arr .i64 3 c, .arr .i64 3 d, .fn (.func 110) [] []], .v (.int .u64 g), .v (.int .i64 h)] => P.av f e a b c d g h (fun i => K (.v (.int .u64 i)))
 | _ => none
noncomputable def spec : Abs.Spec := au
theorem ok0 : Proved Tryd.prog GLO.gB 123 au := by
 refine cu (D := D) (fn := Tryd.f123) (c := Tryd.f123.body.getD .skip) [.any] (by kernel_rfl) (aj (by kernel_rfl)) (by kernel_rfl) (by kernel_rfl) (by kernel_rfl) ⟨lu.ok, trivial⟩ trivial ?_ ?_
 · rw [loops]; exact trivial
 · intro args K r h
   unfold au at h
   split at h
   · rw [P.aar] at h; exact Eq.trans (by kernel_rfl) h
   · cases h
theorem ok : Proved Tryd.prog GLO.gB 123 spec := ok0
end av

namespace ig
noncomputable def D : Ctx := ({ P := Tryd.prog, G := [(110, lu.spec), (123, av.spec)], globs := GLO.gB, hints := [], loops := [], inl := [] } : Ctx)
theorem loops : dh (Tryd.f116.body.getD .skip) = [] := by kernel_rfl
noncomputable def au : Abs.Spec := fun args K => match args with
 | [.agg [.v (.int .i64 f), .v (.int .i64 e), .arr .i64 3 a, .arr .i64 3 b, .arr .i64 3 c, .arr .i64 3 d, .fn (.func 110) [] []], .v (.int .u64 g), .v (.int .i64 h)] => P.ig f e a b c d g h (fun i => K (.v (.int .u64 i)))
 | _ => none
noncomputable def spec : Abs.Spec := au
theorem ok0 : Proved Tryd.prog GLO.gB 116 au := by
 refine cu (D := D) (fn := Tryd.f116) (c := Tryd.f116.body.getD .skip) [.any] (by kernel_rfl) (aj (by kernel_rfl)) (by kernel_rfl) (by kernel_rfl) (by kernel_rfl) ⟨lu.ok, av.ok, trivial⟩ trivial ?_ ?_
 · rw [loops]; exact trivial
 · intro args K r h
   unfold au at h
   split at h
   · rw [P.y9] at h; exact Eq.trans (by kernel_rfl) h
   · cases h
theorem ok : Proved Tryd.prog GLO.gB 116 spec := ok0
end ig

namespace jc
noncomputable def D : Ctx := ({ P := Tryd.prog, G := [(110, lu.spec), (123, av.spec)], globs := GLO.gB, hints := [], loops := [], inl := [] } : Ctx)
theorem loops : dh (Tryd.f117.body.getD .skip) = [] := by kernel_rfl
noncomputable def au : Abs.Spec := fun args K => match args with
 | [.agg [.v (.int .i64 f), .v (.int .i64 e), .arr .i64 3 a, .arr .i64 3 b, .arr .i64 3 c, .arr .i64 3 d, .fn (.func 110) [] []], .v (.int .u64 g), .v (.int .i64 h)] => P.jc f e a b c d g h (fun i => K (.v (.int .u64 i)))
 | _ => none
noncomputable def spec : Abs.Spec := au
theorem ok0 : Proved Tryd.prog GLO.gB 117 au := by
 refine cu (D := D) (fn := Tryd.f117) (c := Tryd.f117.body.getD .skip) [.any] (by kernel_rfl) (aj (by kernel_rfl)) (by kernel_rfl) (by kernel_rfl) (by kernel_rfl) ⟨lu.ok, av.ok, trivial⟩ trivial ?_ ?_
 · rw [loops]; exact trivial
 · intro args K r h
   unfold au at h
   split at h
   · rw [P.zo] at h; exact Eq.trans (by kernel_rfl) h
   · cases h
theorem ok : Proved Tryd.prog GLO.gB 117 spec := ok0
end jc

end
