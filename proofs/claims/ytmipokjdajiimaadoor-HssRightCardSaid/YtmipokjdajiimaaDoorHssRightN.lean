/-
  HssRight, part 14: an interpreter of my own over abstract values, the pure functions, the walks and the plain law.
-/

import Derived.Test.YtmipokjdajiimaaDoorHssRightI
import Derived.Test.YtmipokjdajiimaaDoorHssRightH
import Derived.Test.YtmipokjdajiimaaDoorProg
import Derived.Test.YtmipokjdajiimaaDoorHssRightJ
import Derived.Test.YtmipokjdajiimaaDoorHssRightM
import Derived.KernelRfl
import Derived.Test.YtmipokjdajiimaaDoorHssRightK

section
open Go Go.Abs Go.Proofs
set_option maxRecDepth 100000
set_option maxHeartbeats 0
set_option linter.unusedVariables false

namespace gq
abbrev b6n := P.zt9
def bu1 : b6n → ASt := fun (a, b, c) => ⟨[(0, .own 0), (2, .v (.int .i64 a)), (3, .v (.int .i64 b))], [(0, some ⟨.row 5 (.ints .u8 c), false⟩)], 1, 28⟩
def b28 : ASt → Option b6n
 | ⟨[(0, .own 0), (2, .v (.int .i64 a)), (3, .v (.int .i64 b))], [(0, some ⟨.row 5 (.ints .u8 c), false⟩)], 1, 28⟩ => some (a, b, c)
 | _ => none
theorem bto (st) (x) (h : b28 st = some x) : st = bu1 x := by
 unfold b28 at h
 split at h
 · cases h; rfl
 · cases h
abbrev Y1_1 := P.zy9
def b6p (K : AExit → ASt → Option R) : Y1_1 → Option R := (fun x => K (.exit 0) (bu1 x))
noncomputable def L1_1 : aah := fun st K => akb (b28 st) fun x => P.zm9 x (b6p K)
noncomputable def D1 : Ctx := ({ P := Tryd.prog, G := [(63, aei.spec)], globs := GLO.gB, hints := [(1, ⟨[0, 2, 3], [], [], [], none, [], [], []⟩)], loops := [(1, L1_1)], inl := [] } : Ctx)
noncomputable def D : Ctx := ({ P := Tryd.prog, G := [(63, aei.spec)], globs := GLO.gB, hints := [], loops := [], inl := [(64, agn D1 Tryd.f64)] } : Ctx)
theorem bo5 (K) (next) (x) : rz D1 (fu Tryd.f64 1) K next (bu1 x) = P.zs9 x (fun x => next (bu1 x)) (b6p K) := by kernel_rfl
theorem bs6 : pq D1 (fu Tryd.f64 1) := jq bu1 bto (by kernel_rfl) P.ze9 bo5
theorem loops : dh (Tryd.f38.body.getD .skip) = [] := by kernel_rfl
theorem axo : dh (Tryd.f64.body.getD .skip) = [fu Tryd.f64 1] := by kernel_rfl
noncomputable def bn : Abs.Spec := fun args K => match args with
 | [.v (.int .u64 a), .v (.int .i64 b)] => P.gq a b (fun c => K (.fr 5 (.ints .u8 c)))
 | _ => none
noncomputable def spec : Abs.Spec := bn
theorem ok0 : Proved Tryd.prog GLO.gB 38 bn := by
 refine dx (D := D) (fn := Tryd.f38) (c := Tryd.f38.body.getD .skip) [.fr 5 (.ints .u8 [])] (by kernel_rfl) (aj (by kernel_rfl)) (by kernel_rfl) (by kernel_rfl) (by kernel_rfl) ⟨aei.ok, trivial⟩ ⟨avp (D := D1) (D' := D) (fn := Tryd.f64) (c := Tryd.f64.body.getD .skip) rfl rfl (by kernel_rfl) (aj (by kernel_rfl)) (by kernel_rfl) (by kernel_rfl) (by kernel_rfl) ⟨aei.ok, trivial⟩ trivial (by rw [axo]; exact ⟨bs6, trivial⟩) (fun _ _ _ _ _ h => h), trivial⟩ ?_ ?_
 · rw [loops]; exact trivial
 · intro args K r h
   unfold bn at h
   split at h
   · rw [P.ayx] at h; exact Eq.trans (by kernel_rfl) h
   · cases h
theorem ok : Proved Tryd.prog GLO.gB 38 spec := ok0
end gq

namespace aco
noncomputable def D : Ctx := ({ P := Tryd.prog, G := [(37, eu.spec), (38, gq.spec), (46, pz.spec), (53, qm.spec)], globs := GLO.gB, hints := [], loops := [], inl := [] } : Ctx)
theorem loops : dh (Tryd.f43.body.getD .skip) = [] := by kernel_rfl
noncomputable def bn : Abs.Spec := fun args K => match args with
 | [.agg [.v (.int .i64 a), .v (.int .i64 b)]] => P.aco a b (fun c => K (.fr 5 (.ints .u8 c)))
 | _ => none
noncomputable def spec : Abs.Spec := bn
theorem ok0 : Proved Tryd.prog GLO.gB 43 bn := by
 refine dx (D := D) (fn := Tryd.f43) (c := Tryd.f43.body.getD .skip) [.fr 5 (.ints .u8 [])] (by kernel_rfl) (aj (by kernel_rfl)) (by kernel_rfl) (by kernel_rfl) (by kernel_rfl) ⟨eu.ok, gq.ok, pz.ok, qm.ok, trivial⟩ trivial ?_ ?_
 · rw [loops]; exact trivial
 · intro args K r h
   unfold bn at h
   split at h
   · rw [P.au9] at h; exact Eq.trans (by kernel_rfl) h
   · cases h
theorem ok : Proved Tryd.prog GLO.gB 43 spec := ok0
end aco

namespace wm
noncomputable def D : Ctx := ({ P := Tryd.prog, G := [(74, ni.spec)], globs := GLO.gB, hints := [], loops := [], inl := [] } : Ctx)
theorem loops : dh (Tryd.f90.body.getD .skip) = [] := by kernel_rfl
noncomputable def bn : Abs.Spec := fun args K => match args with
 | [.v (.int .i64 g), .sl (.ints .u8 h), .v (.int .u32 i)] => P.wm g h i (fun e d f a b c j => K (.tuple [.agg [.v (.int .i64 e), .sl (.ints .u8 d), .v (.int .u32 f), .v (.int .i64 a), .v (.int .i64 b), .v (.int .i64 c)], .v (.int .i64 j)]))
 | _ => none
noncomputable def spec : Abs.Spec := fun args K => bn (p9 [.any, .sl (.ints .u8 []), .any] args) K
theorem ok0 : Proved Tryd.prog GLO.gB 90 bn := by
 refine dx (D := D) (fn := Tryd.f90) (c := Tryd.f90.body.getD .skip) [.agg [.any, .sl (.ints .u8 []), .any, .any, .any, .any], .any] (by kernel_rfl) (aj (by kernel_rfl)) (by kernel_rfl) (by kernel_rfl) (by kernel_rfl) ⟨ni.ok, trivial⟩ trivial ?_ ?_
 · rw [loops]; exact trivial
 · intro args K r h
   unfold bn at h
   split at h
   · rw [P.am5] at h; exact Eq.trans (by kernel_rfl) h
   · cases h
theorem ok : Proved Tryd.prog GLO.gB 90 spec := dz _ ok0
end wm

namespace mq
noncomputable def D : Ctx := ({ P := Tryd.prog, G := [], globs := GLO.gB, hints := [], loops := [], inl := [] } : Ctx)
theorem loops : dh (Tryd.f110.body.getD .skip) = [] := by kernel_rfl
noncomputable def bn : Abs.Spec := fun args K => match args with
 | [.v (.int .i64 a)] => P.mq a (fun b => K (.v (.int .u64 b)))
 | _ => none
noncomputable def spec : Abs.Spec := bn
theorem ok0 : Proved Tryd.prog GLO.gB 110 bn := by
 refine dx (D := D) (fn := Tryd.f110) (c := Tryd.f110.body.getD .skip) [.any] (by kernel_rfl) (aj (by kernel_rfl)) (by kernel_rfl) (by kernel_rfl) (by kernel_rfl) trivial trivial ?_ ?_
 · rw [loops]; exact trivial
 · intro args K r h
   unfold bn at h
   split at h
   · rw [P.ana] at h; exact Eq.trans (by kernel_rfl) h
   · cases h
theorem ok : Proved Tryd.prog GLO.gB 110 spec := ok0
end mq

namespace abu
noncomputable def D : Ctx := ({ P := Tryd.prog, G := [(110, mq.spec)], globs := GLO.gB, hints := [], loops := [], inl := [] } : Ctx)
theorem loops : dh (Tryd.f99.body.getD .skip) = [] := by kernel_rfl
noncomputable def bn : Abs.Spec := fun args K => match args with
 | [] => P.abu (fun f e a b c d => K (.agg [.v (.int .i64 f), .v (.int .i64 e), .arr .i64 3 a, .arr .i64 3 b, .arr .i64 3 c, .arr .i64 3 d, .fn (.func 110) [] []]))
 | _ => none
noncomputable def spec : Abs.Spec := bn
theorem ok0 : Proved Tryd.prog GLO.gB 99 bn := by
 refine dx (D := D) (fn := Tryd.f99) (c := Tryd.f99.body.getD .skip) [.any] (by kernel_rfl) (aj (by kernel_rfl)) (by kernel_rfl) (by kernel_rfl) (by kernel_rfl) ⟨mq.ok, trivial⟩ trivial ?_ ?_
 · rw [loops]; exact trivial
 · intro args K r h
   unfold bn at h
   split at h
   · rw [P.as0] at h; exact Eq.trans (by kernel_rfl) h
   · cases h
theorem ok : Proved Tryd.prog GLO.gB 99 spec := ok0
end abu

namespace ng
noncomputable def D : Ctx := ({ P := Tryd.prog, G := [], globs := GLO.gB, hints := [], loops := [], inl := [] } : Ctx)
theorem loops : dh (Tryd.f108.body.getD .skip) = [] := by kernel_rfl
noncomputable def bn : Abs.Spec := fun args K => match args with
 | [.v (.int .i64 a)] => P.ng a (fun b => K (.v (.int .u32 b)))
 | _ => none
noncomputable def spec : Abs.Spec := bn
theorem ok0 : Proved Tryd.prog GLO.gB 108 bn := by
 refine dx (D := D) (fn := Tryd.f108) (c := Tryd.f108.body.getD .skip) [.any] (by kernel_rfl) (aj (by kernel_rfl)) (by kernel_rfl) (by kernel_rfl) (by kernel_rfl) trivial trivial ?_ ?_
 · rw [loops]; exact trivial
 · intro args K r h
   unfold bn at h
   split at h
   · rw [P.am3] at h; exact Eq.trans (by kernel_rfl) h
   · cases h
theorem ok : Proved Tryd.prog GLO.gB 108 spec := ok0
end ng

namespace abk
noncomputable def D : Ctx := ({ P := Tryd.prog, G := [(108, ng.spec)], globs := GLO.gB, hints := [], loops := [], inl := [] } : Ctx)
theorem loops : dh (Tryd.f97.body.getD .skip) = [] := by kernel_rfl
noncomputable def bn : Abs.Spec := fun args K => match args with
 | [] => P.abk (fun f e a b c d => K (.agg [.v (.int .i64 f), .v (.int .i64 e), .arr .i64 3 a, .arr .i64 3 b, .arr .i64 3 c, .arr .i64 3 d, .fn (.func 108) [] []]))
 | _ => none
noncomputable def spec : Abs.Spec := bn
theorem ok0 : Proved Tryd.prog GLO.gB 97 bn := by
 refine dx (D := D) (fn := Tryd.f97) (c := Tryd.f97.body.getD .skip) [.any] (by kernel_rfl) (aj (by kernel_rfl)) (by kernel_rfl) (by kernel_rfl) (by kernel_rfl) ⟨ng.ok, trivial⟩ trivial ?_ ?_
 · rw [loops]; exact trivial
 · intro args K r h
   unfold bn at h
   split at h
   · rw [P.asn] at h; exact Eq.trans (by kernel_rfl) h
   · cases h
theorem ok : Proved Tryd.prog GLO.gB 97 spec := ok0
end abk

namespace ay
noncomputable def D : Ctx := ({ P := Tryd.prog, G := [(108, ng.spec)], globs := GLO.gB, hints := [], loops := [], inl := [] } : Ctx)
theorem loops : dh (Tryd.f122.body.getD .skip) = [] := by kernel_rfl
noncomputable def bn : Abs.Spec := fun args K => match args with
 | [.agg [.v (.int .i64 f), .v (.int .i64 e), .arr .i64 3 a, .arr .i64 3 b, .arr .i64 3 c, .arr .i64 3 d, .fn (.func 108) [] []], .v (.int .u32 g), .v (.int .i64 h)] => P.ay f e a b c d g h (fun i => K (.v (.int .u32 i)))
 | _ => none
noncomputable def spec : Abs.Spec := bn
theorem ok0 : Proved Tryd.prog GLO.gB 122 bn := by
 refine dx (D := D) (fn := Tryd.f122) (c := Tryd.f122.body.getD .skip) [.any] (by kernel_rfl) (aj (by kernel_rfl)) (by kernel_rfl) (by kernel_rfl) (by kernel_rfl) ⟨ng.ok, trivial⟩ trivial ?_ ?_
 · rw [loops]; exact trivial
 · intro args K r h
   unfold bn at h
   split at h
   · rw [P.abb] at h; exact Eq.trans (by kernel_rfl) h
   · cases h
theorem ok : Proved Tryd.prog GLO.gB 122 spec := ok0
end ay

namespace jd
noncomputable def D : Ctx := ({ P := Tryd.prog, G := [(108, ng.spec), (122, ay.spec)], globs := GLO.gB, hints := [], loops := [], inl := [] } : Ctx)
theorem loops : dh (Tryd.f114.body.getD .skip) = [] := by kernel_rfl
noncomputable def bn : Abs.Spec := fun args K => match args with
 | [.agg [.v (.int .i64 f), .v (.int .i64 e), .arr .i64 3 a, .arr .i64 3 b, .arr .i64 3 c, .arr .i64 3 d, .fn (.func 108) [] []], .v (.int .u32 g), .v (.int .i64 h)] => P.jd f e a b c d g h (fun i => K (.v (.int .u32 i)))
 | _ => none
noncomputable def spec : Abs.Spec := bn
theorem ok0 : Proved Tryd.prog GLO.gB 114 bn := by
 refine dx (D := D) (fn := Tryd.f114) (c := Tryd.f114.body.getD .skip) [.any] (by kernel_rfl) (aj (by kernel_rfl)) (by kernel_rfl) (by kernel_rfl) (by kernel_rfl) ⟨ng.ok, ay.ok, trivial⟩ trivial ?_ ?_
 · rw [loops]; exact trivial
 · intro args K r h
   unfold bn at h
   split at h
   · rw [P.zk] at h; exact Eq.trans (by kernel_rfl) h
   · cases h
theorem ok : Proved Tryd.prog GLO.gB 114 spec := ok0
end jd

namespace jl
noncomputable def D : Ctx := ({ P := Tryd.prog, G := [(108, ng.spec), (122, ay.spec)], globs := GLO.gB, hints := [], loops := [], inl := [] } : Ctx)
theorem loops : dh (Tryd.f115.body.getD .skip) = [] := by kernel_rfl
noncomputable def bn : Abs.Spec := fun args K => match args with
 | [.agg [.v (.int .i64 f), .v (.int .i64 e), .arr .i64 3 a, .arr .i64 3 b, .arr .i64 3 c, .arr .i64 3 d, .fn (.func 108) [] []], .v (.int .u32 g), .v (.int .i64 h)] => P.jl f e a b c d g h (fun i => K (.v (.int .u32 i)))
 | _ => none
noncomputable def spec : Abs.Spec := bn
theorem ok0 : Proved Tryd.prog GLO.gB 115 bn := by
 refine dx (D := D) (fn := Tryd.f115) (c := Tryd.f115.body.getD .skip) [.any] (by kernel_rfl) (aj (by kernel_rfl)) (by kernel_rfl) (by kernel_rfl) (by kernel_rfl) ⟨ng.ok, ay.ok, trivial⟩ trivial ?_ ?_
 · rw [loops]; exact trivial
 · intro args K r h
   unfold bn at h
   split at h
   · rw [P.zw] at h; exact Eq.trans (by kernel_rfl) h
   · cases h
theorem ok : Proved Tryd.prog GLO.gB 115 spec := ok0
end jl

namespace j6
abbrev X4 := P.bwt
def S4 : X4 → ASt := fun (k, l, j, a, b, c, d, e, f, g, h, i) => ⟨[(2, .sl (.ints .u8 k)), (3, .ptr 0 0), (4, .ptr 1 0), (6, .ptr 2 0), (7, .ptr 3 0), (8, .v (.int .i64 l)), (19, .v (.int .i64 j))], [(0, some ⟨.box 143 [.v (.int .i64 a), .v (.int .i64 b), .arr .i64 3 c, .arr .i64 3 d, .arr .i64 3 e, .arr .i64 3 f, .fn (.func 108) [] []], false⟩), (1, some ⟨.box 152 [.arr .u32 8 g], false⟩), (2, some ⟨.box 152 [.arr .u32 8 h], false⟩), (3, some ⟨.box 156 [.arr .u32 16 i], false⟩)], 4, 143⟩
def V4 : ASt → Option X4
 | ⟨[(2, .sl (.ints .u8 k)), (3, .ptr 0 0), (4, .ptr 1 0), (6, .ptr 2 0), (7, .ptr 3 0), (8, .v (.int .i64 l)), (19, .v (.int .i64 j))], [(0, some ⟨.box 143 [.v (.int .i64 a), .v (.int .i64 b), .arr .i64 3 c, .arr .i64 3 d, .arr .i64 3 e, .arr .i64 3 f, .fn (.func 108) [] []], false⟩), (1, some ⟨.box 152 [.arr .u32 8 g], false⟩), (2, some ⟨.box 152 [.arr .u32 8 h], false⟩), (3, some ⟨.box 156 [.arr .u32 16 i], false⟩)], 4, 143⟩ => some (k, l, j, a, b, c, d, e, f, g, h, i)
 | _ => none
theorem bsb (st) (x) (h : V4 st = some x) : st = S4 x := by
 unfold V4 at h
 split at h
 · cases h; rfl
 · cases h
abbrev Y4 := P.b07
abbrev X10 := P.buk
def S10 : X10 → ASt := fun (k, l, a, b, c, d, e, f, g, h, i, j) => ⟨[(3, .ptr 0 0), (4, .ptr 1 0), (6, .ptr 2 0), (7, .ptr 3 0), (10, .ptr 4 0), (38, .v (.int .i64 k)), (39, .v (.int .i64 l))], [(3, some ⟨.box 156 [.arr .u32 16 a], false⟩), (2, some ⟨.box 152 [.arr .u32 8 b], false⟩), (1, some ⟨.box 152 [.arr .u32 8 c], false⟩), (0, some ⟨.box 143 [.v (.int .i64 d), .v (.int .i64 e), .arr .i64 3 f, .arr .i64 3 g, .arr .i64 3 h, .arr .i64 3 i, .fn (.func 108) [] []], false⟩), (4, some ⟨.box 152 [.arr .u32 8 j], false⟩)], 5, 143⟩
def V10 : ASt → Option X10
 | ⟨[(3, .ptr 0 0), (4, .ptr 1 0), (6, .ptr 2 0), (7, .ptr 3 0), (10, .ptr 4 0), (38, .v (.int .i64 k)), (39, .v (.int .i64 l))], [(3, some ⟨.box 156 [.arr .u32 16 a], false⟩), (2, some ⟨.box 152 [.arr .u32 8 b], false⟩), (1, some ⟨.box 152 [.arr .u32 8 c], false⟩), (0, some ⟨.box 143 [.v (.int .i64 d), .v (.int .i64 e), .arr .i64 3 f, .arr .i64 3 g, .arr .i64 3 h, .arr .i64 3 i, .fn (.func 108) [] []], false⟩), (4, some ⟨.box 152 [.arr .u32 8 j], false⟩)], 5, 143⟩ => some (k, l, a, b, c, d, e, f, g, h, i, j)
 | _ => none
theorem bc9 (st) (x) (h : V10 st = some x) : st = S10 x := by
 unfold V10 at h
 split at h
 · cases h; rfl
 · cases h
abbrev Y10 := P.b0h
abbrev X21 := P.buc
def S21 : X21 → ASt := fun (a, b, c, d) => ⟨[(4, .ptr 1 0), (6, .ptr 2 0), (10, .ptr 4 0), (130, .v (.int .i64 a))], [(1, some ⟨.box 152 [.arr .u32 8 b], false⟩), (2, some ⟨.box 152 [.arr .u32 8 c], false⟩), (4, some ⟨.box 152 [.arr .u32 8 d], false⟩)], 120, 143⟩
def V21 : ASt → Option X21
 | ⟨[(4, .ptr 1 0), (6, .ptr 2 0), (10, .ptr 4 0), (130, .v (.int .i64 a))], [(1, some ⟨.box 152 [.arr .u32 8 b], false⟩), (2, some ⟨.box 152 [.arr .u32 8 c], false⟩), (4, some ⟨.box 152 [.arr .u32 8 d], false⟩)], 120, 143⟩ => some (a, b, c, d)
 | _ => none
theorem bn6 (st) (x) (h : V21 st = some x) : st = S21 x := by
 unfold V21 at h
 split at h
 · cases h; rfl
 · cases h
abbrev Y21 := P.b1p
def E4 (K : AExit → ASt → Option R) : Y4 → Option R := (fun x => K (.exit 0) (S4 x))
noncomputable def L4 : aah := fun st K => akb (V4 st) fun x => P.b4w x (E4 K)
def E10 (K : AExit → ASt → Option R) : Y10 → Option R := (fun x => K (.exit 2) (S10 x))
noncomputable def L10 : aah := fun st K => akb (V10 st) fun x => P.bz9 x (E10 K)
def E21 (K : AExit → ASt → Option R) : Y21 → Option R := (fun x => K (.exit 4) (S21 x))
noncomputable def L21 : aah := fun st K => akb (V21 st) fun x => P.b3t x (E21 K)
noncomputable def D : Ctx := ({ P := Tryd.prog, G := [(32, jh.spec), (108, ng.spec), (114, jd.spec), (115, jl.spec)], globs := GLO.gB, hints := [(21, ⟨[4, 6, 10, 130], [], [6], [], some (120, [1, 2, 4]), [], [], []⟩), (10, ⟨[3, 4, 6, 7, 10, 38, 39], [], [6], [], none, [], [], []⟩), (4, ⟨[2, 3, 4, 6, 7, 8, 19], [], [6], [], none, [], [], []⟩)], loops := [(4, L4), (10, L10), (21, L21)], inl := [] } : Ctx)
theorem bni (K) (next) (x) : rz D (fu Tryd.f107 4) K next (S4 x) = P.bvi x (fun x => next (S4 x)) (E4 K) := by kernel_rfl
theorem bs9 : pq D (fu Tryd.f107 4) := jq S4 bsb (by kernel_rfl) P.b7e bni
theorem axy (K) (next) (x) : rz D (fu Tryd.f107 10) K next (S10 x) = P.zs12 x (fun x => next (S10 x)) (E10 K) := by kernel_rfl
theorem bdk : pq D (fu Tryd.f107 10) := jq S10 bc9 (by kernel_rfl) P.b5f axy
theorem bgy (K) (next) (x) : rz D (fu Tryd.f107 21) K next (S21 x) = P.bul x (fun x => next (S21 x)) (E21 K) := by kernel_rfl
theorem blr : pq D (fu Tryd.f107 21) := jq S21 bn6 (by kernel_rfl) P.b5n bgy
theorem loops : dh (Tryd.f107.body.getD .skip) = [fu Tryd.f107 4, fu Tryd.f107 10, fu Tryd.f107 21] := by kernel_rfl
noncomputable def bn : Abs.Spec := fun args K => match args with
 | [.agg [.v (.int .i64 f), .v (.int .i64 e), .arr .i64 3 a, .arr .i64 3 b, .arr .i64 3 c, .arr .i64 3 d, .fn (.func 108) [] []], .arr .u32 8 g, .sl (.ints .u8 h)] => P.j6 f e a b c d g h (fun i => K (.arr .u32 8 i))
 | _ => none
noncomputable def spec : Abs.Spec := fun args K => bn (p9 [.any, .any, .sl (.ints .u8 [])] args) K
theorem ok0 : Proved Tryd.prog GLO.gB 107 bn := by
 refine dx (D := D) (fn := Tryd.f107) (c := Tryd.f107.body.getD .skip) [.any] (by kernel_rfl) (aj (by kernel_rfl)) (by kernel_rfl) (by kernel_rfl) (by kernel_rfl) ⟨jh.ok, ng.ok, jd.ok, jl.ok, trivial⟩ trivial ?_ ?_
 · rw [loops]; exact ⟨bs9, bdk, blr, trivial⟩
 · intro args K r h
   unfold bn at h
   split at h
   · rw [P.ab8] at h; exact Eq.trans (by kernel_rfl) h
   · cases h
theorem ok : Proved Tryd.prog GLO.gB 107 spec := dz _ ok0
end j6

namespace oh
abbrev X3 := P.bwv
def S3 : X3 → ASt := fun (l, j, k, a, b, c, d, e, f, g, h, i) => ⟨[(2, .sl (.ints .u8 l)), (3, .ptr 0 0), (4, .ptr 1 0), (6, .ptr 2 0), (8, .ptr 3 0), (14, .arr .u64 8 j), (15, .v (.int .i64 k))], [(0, some ⟨.box 143 [.v (.int .i64 a), .v (.int .i64 b), .arr .i64 3 c, .arr .i64 3 d, .arr .i64 3 e, .arr .i64 3 f, .fn (.func 108) [] []], false⟩), (1, some ⟨.box 123 [.arr .u64 8 g], false⟩), (2, some ⟨.box 123 [.arr .u64 8 h], false⟩), (3, some ⟨.box 152 [.arr .u32 8 i], false⟩)], 4, 52⟩
def V3 : ASt → Option X3
 | ⟨[(2, .sl (.ints .u8 l)), (3, .ptr 0 0), (4, .ptr 1 0), (6, .ptr 2 0), (8, .ptr 3 0), (14, .arr .u64 8 j), (15, .v (.int .i64 k))], [(0, some ⟨.box 143 [.v (.int .i64 a), .v (.int .i64 b), .arr .i64 3 c, .arr .i64 3 d, .arr .i64 3 e, .arr .i64 3 f, .fn (.func 108) [] []], false⟩), (1, some ⟨.box 123 [.arr .u64 8 g], false⟩), (2, some ⟨.box 123 [.arr .u64 8 h], false⟩), (3, some ⟨.box 152 [.arr .u32 8 i], false⟩)], 4, 52⟩ => some (l, j, k, a, b, c, d, e, f, g, h, i)
 | _ => none
theorem bbg (st) (x) (h : V3 st = some x) : st = S3 x := by
 unfold V3 at h
 split at h
 · cases h; rfl
 · cases h
abbrev Y3 := P.b0w
abbrev X8 := P.buq
def S8 : X8 → ASt := fun (k, j, a, b, c, d, e, f, g, h, i) => ⟨[(2, .sl (.ints .u8 k)), (3, .ptr 0 0), (4, .ptr 1 0), (6, .ptr 2 0), (8, .ptr 3 0), (11, .v (.int .i64 j))], [(3, some ⟨.box 152 [.arr .u32 8 a], false⟩), (2, some ⟨.box 123 [.arr .u64 8 b], false⟩), (1, some ⟨.box 123 [.arr .u64 8 c], false⟩), (0, some ⟨.box 143 [.v (.int .i64 d), .v (.int .i64 e), .arr .i64 3 f, .arr .i64 3 g, .arr .i64 3 h, .arr .i64 3 i, .fn (.func 108) [] []], false⟩)], 4, 52⟩
def V8 : ASt → Option X8
 | ⟨[(2, .sl (.ints .u8 k)), (3, .ptr 0 0), (4, .ptr 1 0), (6, .ptr 2 0), (8, .ptr 3 0), (11, .v (.int .i64 j))], [(3, some ⟨.box 152 [.arr .u32 8 a], false⟩), (2, some ⟨.box 123 [.arr .u64 8 b], false⟩), (1, some ⟨.box 123 [.arr .u64 8 c], false⟩), (0, some ⟨.box 143 [.v (.int .i64 d), .v (.int .i64 e), .arr .i64 3 f, .arr .i64 3 g, .arr .i64 3 h, .arr .i64 3 i, .fn (.func 108) [] []], false⟩)], 4, 52⟩ => some (k, j, a, b, c, d, e, f, g, h, i)
 | _ => none
theorem bho (st) (x) (h : V8 st = some x) : st = S8 x := by
 unfold V8 at h
 split at h
 · cases h; rfl
 · cases h
abbrev Y8 := P.b35
abbrev X12 := P.bwa
def S12 : X12 → ASt := fun (e, c, d, a, b) => ⟨[(2, .sl (.ints .u8 e)), (4, .ptr 1 0), (6, .ptr 2 0), (40, .arr .u32 8 c), (41, .v (.int .i64 d))], [(1, some ⟨.box 123 [.arr .u64 8 a], false⟩), (2, some ⟨.box 123 [.arr .u64 8 b], false⟩)], 120, 52⟩
def V12 : ASt → Option X12
 | ⟨[(2, .sl (.ints .u8 e)), (4, .ptr 1 0), (6, .ptr 2 0), (40, .arr .u32 8 c), (41, .v (.int .i64 d))], [(1, some ⟨.box 123 [.arr .u64 8 a], false⟩), (2, some ⟨.box 123 [.arr .u64 8 b], false⟩)], 120, 52⟩ => some (e, c, d, a, b)
 | _ => none
theorem bl7 (st) (x) (h : V12 st = some x) : st = S12 x := by
 unfold V12 at h
 split at h
 · cases h; rfl
 · cases h
abbrev Y12 := P.b25
def E3 (K : AExit → ASt → Option R) : Y3 → Option R := (fun x => K (.exit 0) (S3 x))
noncomputable def L3 : aah := fun st K => akb (V3 st) fun x => P.b1k x (E3 K)
def E8 (K : AExit → ASt → Option R) : Y8 → Option R := (fun x => K (.exit 2) (S8 x))
noncomputable def L8 : aah := fun st K => akb (V8 st) fun x => P.b1d x (E8 K)
def E12 (K : AExit → ASt → Option R) : Y12 → Option R := (fun x => K (.exit 4) (S12 x))
noncomputable def L12 : aah := fun st K => akb (V12 st) fun x => P.b3s x (E12 K)
noncomputable def D : Ctx := ({ P := Tryd.prog, G := [(107, j6.spec), (108, ng.spec)], globs := GLO.gB, hints := [(12, ⟨[2, 4, 6, 40, 41], [], [6, 7], [], some (120, [1, 2]), [], [], []⟩), (8, ⟨[2, 3, 4, 6, 8, 11], [], [6, 7], [(2, .sl (.ints .u8 []))], none, [], [], []⟩), (3, ⟨[2, 3, 4, 6, 8, 14, 15], [], [6, 7], [], none, [], [], []⟩)], loops := [(3, L3), (8, L8), (12, L12)], inl := [] } : Ctx)
theorem aqt (K) (next) (x) : rz D (fu Tryd.f96 3) K next (S3 x) = P.bui x (fun x => next (S3 x)) (E3 K) := by kernel_rfl
theorem bca : pq D (fu Tryd.f96 3) := jq S3 bbg (by kernel_rfl) P.b6v aqt
theorem avn (K) (next) (x) : rz D (fu Tryd.f96 8) K next (S8 x) = P.bw8 x (fun x => next (S8 x)) (E8 K) := by kernel_rfl
theorem bgs : pq D (fu Tryd.f96 8) := jq S8 bho (by kernel_rfl) P.b40 avn
theorem bge (K) (next) (x) : rz D (fu Tryd.f96 12) K next (S12 x) = P.bxa x (fun x => next (S12 x)) (E12 K) := by kernel_rfl
theorem boc : pq D (fu Tryd.f96 12) := jq S12 bl7 (by kernel_rfl) P.b52 bge
theorem loops : dh (Tryd.f96.body.getD .skip) = [fu Tryd.f96 3, fu Tryd.f96 8, fu Tryd.f96 12] := by kernel_rfl
noncomputable def bn : Abs.Spec := fun args K => match args with
 | [.agg [.v (.int .i64 f), .v (.int .i64 e), .arr .i64 3 a, .arr .i64 3 b, .arr .i64 3 c, .arr .i64 3 d, .fn (.func 108) [] []], .arr .u64 8 g, .sl (.ints .u8 h)] => P.oh f e a b c d g h (fun i j => K (.tuple [.arr .u64 8 i, .sl (.ints .u8 j)]))
 | _ => none
noncomputable def spec : Abs.Spec := fun args K => bn (p9 [.any, .any, .sl (.ints .u8 [])] args) K
theorem ok0 : Proved Tryd.prog GLO.gB 96 bn := by
 refine dx (D := D) (fn := Tryd.f96) (c := Tryd.f96.body.getD .skip) [.any, .sl (.ints .u8 [])] (by kernel_rfl) (aj (by kernel_rfl)) (by kernel_rfl) (by kernel_rfl) (by kernel_rfl) ⟨j6.ok, ng.ok, trivial⟩ trivial ?_ ?_
 · rw [loops]; exact ⟨bca, bgs, boc, trivial⟩
 · intro args K r h
   unfold bn at h
   split at h
   · rw [P.ae5] at h; exact Eq.trans (by kernel_rfl) h
   · cases h
theorem ok : Proved Tryd.prog GLO.gB 96 spec := dz _ ok0
end oh

namespace bf
noncomputable def D : Ctx := ({ P := Tryd.prog, G := [(110, mq.spec)], globs := GLO.gB, hints := [], loops := [], inl := [] } : Ctx)
theorem loops : dh (Tryd.f123.body.getD .skip) = [] := by kernel_rfl
noncomputable def bn : Abs.Spec := fun args K => match args with
 | [.agg [.v (.int .i64 f), .v (.int .i64 e), .arr .i64 3 a, .arr .i64 3 b, .arr .i64 3 c, .arr .i64 3 d, .fn (.func 110) [] []], .v (.int .u64 g), .v (.int .i64 h)] => P.bf f e a b c d g h (fun i => K (.v (.int .u64 i)))
 | _ => none
noncomputable def spec : Abs.Spec := bn
theorem ok0 : Proved Tryd.prog GLO.gB 123 bn := by
 refine dx (D := D) (fn := Tryd.f123) (c := Tryd.f123.body.getD .skip) [.any] (by kernel_rfl) (aj (by kernel_rfl)) (by kernel_rfl) (by kernel_rfl) (by kernel_rfl) ⟨mq.ok, trivial⟩ trivial ?_ ?_
 · rw [loops]; exact trivial
 · intro args K r h
   unfold bn at h
   split at h
   · rw [P.aa9] at h; exact Eq.trans (by kernel_rfl) h
   · cases h
theorem ok : Proved Tryd.prog GLO.gB 123 spec := ok0
end bf

namespace je
noncomputable def D : Ctx := ({ P := Tryd.prog, G := [(110, mq.spec), (123, bf.spec)], globs := GLO.gB, hints := [], loops := [], inl := [] } : Ctx)
theorem loops : dh (Tryd.f116.body.getD .skip) = [] := by kernel_rfl
noncomputable def bn : Abs.Spec := fun args K => match args with
 | [.agg [.v (.int .i64 f), .v (.int .i64 e), .arr .i64 3 a, .arr .i64 3 b, .arr .i64 3 c, .arr .i64 3 d, .fn (.func 110) [] []], .v (.int .u64 g), .v (.int .i64 h)] => P.je f e a b c d g h (fun i => K (.v (.int .u64 i)))
 | _ => none
noncomputable def spec : Abs.Spec := bn
theorem ok0 : Proved Tryd.prog GLO.gB 116 bn := by
 refine dx (D := D) (fn := Tryd.f116) (c := Tryd.f116.body.getD .skip) [.any] (by kernel_rfl) (aj (by kernel_rfl)) (by kernel_rfl) (by kernel_rfl) (by kernel_rfl) ⟨mq.ok, bf.ok, trivial⟩ trivial ?_ ?_
 · rw [loops]; exact trivial
 · intro args K r h
   unfold bn at h
   split at h
   · rw [P.zh] at h; exact Eq.trans (by kernel_rfl) h
   · cases h
theorem ok : Proved Tryd.prog GLO.gB 116 spec := ok0
end je

namespace jm
noncomputable def D : Ctx := ({ P := Tryd.prog, G := [(110, mq.spec), (123, bf.spec)], globs := GLO.gB, hints := [], loops := [], inl := [] } : Ctx)
theorem loops : dh (Tryd.f117.body.getD .skip) = [] := by kernel_rfl
noncomputable def bn : Abs.Spec := fun args K => match args with
 | [.agg [.v (.int .i64 f), .v (.int .i64 e), .arr .i64 3 a, .arr .i64 3 b, .arr .i64 3 c, .arr .i64 3 d, .fn (.func 110) [] []], .v (.int .u64 g), .v (.int .i64 h)] => P.jm f e a b c d g h (fun i => K (.v (.int .u64 i)))
 | _ => none
noncomputable def spec : Abs.Spec := bn
theorem ok0 : Proved Tryd.prog GLO.gB 117 bn := by
 refine dx (D := D) (fn := Tryd.f117) (c := Tryd.f117.body.getD .skip) [.any] (by kernel_rfl) (aj (by kernel_rfl)) (by kernel_rfl) (by kernel_rfl) (by kernel_rfl) ⟨mq.ok, bf.ok, trivial⟩ trivial ?_ ?_
 · rw [loops]; exact trivial
 · intro args K r h
   unfold bn at h
   split at h
   · rw [P.zq] at h; exact Eq.trans (by kernel_rfl) h
   · cases h
theorem ok : Proved Tryd.prog GLO.gB 117 spec := ok0
end jm

end
