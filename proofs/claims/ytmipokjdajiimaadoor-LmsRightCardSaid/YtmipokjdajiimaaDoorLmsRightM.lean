/-
  LmsRight, part 13: an interpreter of my own over abstract values, the pure functions, the walks and the plain law.
-/

import Derived.Test.YtmipokjdajiimaaDoorLmsRightK
import Derived.Test.YtmipokjdajiimaaDoorLmsRightH
import Derived.Test.YtmipokjdajiimaaDoorProg
import Derived.Test.YtmipokjdajiimaaDoorLmsRightJ
import Derived.Test.YtmipokjdajiimaaDoorLmsRightL
import Derived.KernelRfl

section
open Go Go.Abs Go.Proofs
set_option maxRecDepth 100000
set_option maxHeartbeats 0
set_option linter.unusedVariables false

namespace aan
noncomputable def D : Ctx := ({ P := Tryd.prog, G := [(108, lq.spec)], globs := GLO.gB, hints := [], loops := [], inl := [] } : Ctx)
theorem loops : bg (Tryd.f97.body.getD .skip) = [] := by kernel_rfl
noncomputable def av : Abs.Spec := fun args K => match args with
 | [] => P.aan (fun f e a b c d => K (.agg [.v (.int .i64 f), .v (.int .i64 e), .arr .i64 3 a, .arr .i64 3 b, .arr .i64 3 c, .arr .i64 3 d, .fn (.func 108) [] []]))
 | _ => none
noncomputable def spec : Abs.Spec := av
theorem ok0 : Proved Tryd.prog GLO.gB 97 av := by
 refine cu (D := D) (fn := Tryd.f97) (c := Tryd.f97.body.getD .skip) [.any] (by kernel_rfl) (ah (by kernel_rfl)) (by kernel_rfl) (by kernel_rfl) (by kernel_rfl) ⟨lq.ok, trivial⟩ trivial ?_ ?_
 · rw [loops]; exact trivial
 · intro args K r h
   unfold av at h
   split at h
   · rw [P.al9] at h; exact Eq.trans (by kernel_rfl) h
   · cases h
theorem ok : Proved Tryd.prog GLO.gB 97 spec := ok0
end aan

namespace ak
noncomputable def D : Ctx := ({ P := Tryd.prog, G := [(108, lq.spec)], globs := GLO.gB, hints := [], loops := [], inl := [] } : Ctx)
theorem loops : bg (Tryd.f122.body.getD .skip) = [] := by kernel_rfl
noncomputable def av : Abs.Spec := fun args K => match args with
 | [.agg [.v (.int .i64 f), .v (.int .i64 e), .arr .i64 3 a, .arr .i64 3 b, .arr .i64 3 c, .arr .i64 3 d, .fn (.func 108) [] []], .v (.int .u32 g), .v (.int .i64 h)] => P.ak f e a b c d g h (fun i => K (.v (.int .u32 i)))
 | _ => none
noncomputable def spec : Abs.Spec := av
theorem ok0 : Proved Tryd.prog GLO.gB 122 av := by
 refine cu (D := D) (fn := Tryd.f122) (c := Tryd.f122.body.getD .skip) [.any] (by kernel_rfl) (ah (by kernel_rfl)) (by kernel_rfl) (by kernel_rfl) (by kernel_rfl) ⟨lq.ok, trivial⟩ trivial ?_ ?_
 · rw [loops]; exact trivial
 · intro args K r h
   unfold av at h
   split at h
   · rw [P.zx] at h; exact Eq.trans (by kernel_rfl) h
   · cases h
theorem ok : Proved Tryd.prog GLO.gB 122 spec := ok0
end ak

namespace ig
noncomputable def D : Ctx := ({ P := Tryd.prog, G := [(108, lq.spec), (122, ak.spec)], globs := GLO.gB, hints := [], loops := [], inl := [] } : Ctx)
theorem loops : bg (Tryd.f114.body.getD .skip) = [] := by kernel_rfl
noncomputable def av : Abs.Spec := fun args K => match args with
 | [.agg [.v (.int .i64 f), .v (.int .i64 e), .arr .i64 3 a, .arr .i64 3 b, .arr .i64 3 c, .arr .i64 3 d, .fn (.func 108) [] []], .v (.int .u32 g), .v (.int .i64 h)] => P.ig f e a b c d g h (fun i => K (.v (.int .u32 i)))
 | _ => none
noncomputable def spec : Abs.Spec := av
theorem ok0 : Proved Tryd.prog GLO.gB 114 av := by
 refine cu (D := D) (fn := Tryd.f114) (c := Tryd.f114.body.getD .skip) [.any] (by kernel_rfl) (ah (by kernel_rfl)) (by kernel_rfl) (by kernel_rfl) (by kernel_rfl) ⟨lq.ok, ak.ok, trivial⟩ trivial ?_ ?_
 · rw [loops]; exact trivial
 · intro args K r h
   unfold av at h
   split at h
   · rw [P.wm] at h; exact Eq.trans (by kernel_rfl) h
   · cases h
theorem ok : Proved Tryd.prog GLO.gB 114 spec := ok0
end ig

namespace jd
noncomputable def D : Ctx := ({ P := Tryd.prog, G := [(108, lq.spec), (122, ak.spec)], globs := GLO.gB, hints := [], loops := [], inl := [] } : Ctx)
theorem loops : bg (Tryd.f115.body.getD .skip) = [] := by kernel_rfl
noncomputable def av : Abs.Spec := fun args K => match args with
 | [.agg [.v (.int .i64 f), .v (.int .i64 e), .arr .i64 3 a, .arr .i64 3 b, .arr .i64 3 c, .arr .i64 3 d, .fn (.func 108) [] []], .v (.int .u32 g), .v (.int .i64 h)] => P.jd f e a b c d g h (fun i => K (.v (.int .u32 i)))
 | _ => none
noncomputable def spec : Abs.Spec := av
theorem ok0 : Proved Tryd.prog GLO.gB 115 av := by
 refine cu (D := D) (fn := Tryd.f115) (c := Tryd.f115.body.getD .skip) [.any] (by kernel_rfl) (ah (by kernel_rfl)) (by kernel_rfl) (by kernel_rfl) (by kernel_rfl) ⟨lq.ok, ak.ok, trivial⟩ trivial ?_ ?_
 · rw [loops]; exact trivial
 · intro args K r h
   unfold av at h
   split at h
   · rw [P.xk] at h; exact Eq.trans (by kernel_rfl) h
   · cases h
theorem ok : Proved Tryd.prog GLO.gB 115 spec := ok0
end jd

namespace jo
abbrev X4 := P.zt8
def S4 : X4 → ASt := fun (k, l, j, a, b, c, d, e, f, g, h, i) => ⟨[(2, .sl (.ints .u8 k)), (3, .ptr 0 0), (4, .ptr 1 0), (6, .ptr 2 0), (7, .ptr 3 0), (8, .v (.int .i64 l)), (19, .v (.int .i64 j))], [(0, some ⟨.box 143 [.v (.int .i64 a), .v (.int .i64 b), .arr .i64 3 c, .arr .i64 3 d, .arr .i64 3 e, .arr .i64 3 f, .fn (.func 108) [] []], false⟩), (1, some ⟨.box 152 [.arr .u32 8 g], false⟩), (2, some ⟨.box 152 [.arr .u32 8 h], false⟩), (3, some ⟨.box 156 [.arr .u32 16 i], false⟩)], 4, 143⟩
def V4 : ASt → Option X4
 | ⟨[(2, .sl (.ints .u8 k)), (3, .ptr 0 0), (4, .ptr 1 0), (6, .ptr 2 0), (7, .ptr 3 0), (8, .v (.int .i64 l)), (19, .v (.int .i64 j))], [(0, some ⟨.box 143 [.v (.int .i64 a), .v (.int .i64 b), .arr .i64 3 c, .arr .i64 3 d, .arr .i64 3 e, .arr .i64 3 f, .fn (.func 108) [] []], false⟩), (1, some ⟨.box 152 [.arr .u32 8 g], false⟩), (2, some ⟨.box 152 [.arr .u32 8 h], false⟩), (3, some ⟨.box 156 [.arr .u32 16 i], false⟩)], 4, 143⟩ => some (k, l, j, a, b, c, d, e, f, g, h, i)
 | _ => none
theorem bcc (st) (x) (h : V4 st = some x) : st = S4 x := by
 unfold V4 at h
 split at h
 · cases h; rfl
 · cases h
abbrev Y4 := P.zy8
abbrev X10 := P.zt9
def S10 : X10 → ASt := fun (k, l, a, b, c, d, e, f, g, h, i, j) => ⟨[(3, .ptr 0 0), (4, .ptr 1 0), (6, .ptr 2 0), (7, .ptr 3 0), (10, .ptr 4 0), (38, .v (.int .i64 k)), (39, .v (.int .i64 l))], [(3, some ⟨.box 156 [.arr .u32 16 a], false⟩), (2, some ⟨.box 152 [.arr .u32 8 b], false⟩), (1, some ⟨.box 152 [.arr .u32 8 c], false⟩), (0, some ⟨.box 143 [.v (.int .i64 d), .v (.int .i64 e), .arr .i64 3 f, .arr .i64 3 g, .arr .i64 3 h, .arr .i64 3 i, .fn (.func 108) [] []], false⟩), (4, some ⟨.box 152 [.arr .u32 8 j], false⟩)], 5, 143⟩
def V10 : ASt → Option X10
 | ⟨[(3, .ptr 0 0), (4, .ptr 1 0), (6, .ptr 2 0), (7, .ptr 3 0), (10, .ptr 4 0), (38, .v (.int .i64 k)), (39, .v (.int .i64 l))], [(3, some ⟨.box 156 [.arr .u32 16 a], false⟩), (2, some ⟨.box 152 [.arr .u32 8 b], false⟩), (1, some ⟨.box 152 [.arr .u32 8 c], false⟩), (0, some ⟨.box 143 [.v (.int .i64 d), .v (.int .i64 e), .arr .i64 3 f, .arr .i64 3 g, .arr .i64 3 h, .arr .i64 3 i, .fn (.func 108) [] []], false⟩), (4, some ⟨.box 152 [.arr .u32 8 j], false⟩)], 5, 143⟩ => some (k, l, a, b, c, d, e, f, g, h, i, j)
 | _ => none
theorem as2 (st) (x) (h : V10 st = some x) : st = S10 x := by
 unfold V10 at h
 split at h
 · cases h; rfl
 · cases h
abbrev Y10 := P.zy9
abbrev X21 := P.bjb
def S21 : X21 → ASt := fun (a, b, c, d) => ⟨[(4, .ptr 1 0), (6, .ptr 2 0), (10, .ptr 4 0), (130, .v (.int .i64 a))], [(1, some ⟨.box 152 [.arr .u32 8 b], false⟩), (2, some ⟨.box 152 [.arr .u32 8 c], false⟩), (4, some ⟨.box 152 [.arr .u32 8 d], false⟩)], 120, 143⟩
def V21 : ASt → Option X21
 | ⟨[(4, .ptr 1 0), (6, .ptr 2 0), (10, .ptr 4 0), (130, .v (.int .i64 a))], [(1, some ⟨.box 152 [.arr .u32 8 b], false⟩), (2, some ⟨.box 152 [.arr .u32 8 c], false⟩), (4, some ⟨.box 152 [.arr .u32 8 d], false⟩)], 120, 143⟩ => some (a, b, c, d)
 | _ => none
theorem bai (st) (x) (h : V21 st = some x) : st = S21 x := by
 unfold V21 at h
 split at h
 · cases h; rfl
 · cases h
abbrev Y21 := P.bl1
def E4 (K : AExit → ASt → Option R) : Y4 → Option R := (fun x => K (.exit 0) (S4 x))
noncomputable def L4 : aat := fun st K => ahy (V4 st) fun x => P.zm8 x (E4 K)
def E10 (K : AExit → ASt → Option R) : Y10 → Option R := (fun x => K (.exit 2) (S10 x))
noncomputable def L10 : aat := fun st K => ahy (V10 st) fun x => P.zm9 x (E10 K)
def E21 (K : AExit → ASt → Option R) : Y21 → Option R := (fun x => K (.exit 4) (S21 x))
noncomputable def L21 : aat := fun st K => ahy (V21 st) fun x => P.blf x (E21 K)
noncomputable def D : Ctx := ({ P := Tryd.prog, G := [(32, jl.spec), (108, lq.spec), (114, ig.spec), (115, jd.spec)], globs := GLO.gB, hints := [(21, ⟨[4, 6, 10, 130], [], [6], [], some (120, [1, 2, 4]), [], [], []⟩), (10, ⟨[3, 4, 6, 7, 10, 38, 39], [], [6], [], none, [], [], []⟩), (4, ⟨[2, 3, 4, 6, 7, 8, 19], [], [6], [], none, [], [], []⟩)], loops := [(4, L4), (10, L10), (21, L21)], inl := [] } : Ctx)
theorem att (K) (next) (x) : qw D (eu Tryd.f107 4) K next (S4 x) = P.zs8 x (fun x => next (S4 x)) (E4 K) := by kernel_rfl
theorem bay : oh D (eu Tryd.f107 4) := jv S4 bcc (by kernel_rfl) P.ze8 att
theorem anb (K) (next) (x) : qw D (eu Tryd.f107 10) K next (S10 x) = P.zs9 x (fun x => next (S10 x)) (E10 K) := by kernel_rfl
theorem asy : oh D (eu Tryd.f107 10) := jv S10 as2 (by kernel_rfl) P.ze9 anb
theorem av3 (K) (next) (x) : qw D (eu Tryd.f107 21) K next (S21 x) = P.bhm x (fun x => next (S21 x)) (E21 K) := by kernel_rfl
theorem bca : oh D (eu Tryd.f107 21) := jv S21 bai (by kernel_rfl) P.boa av3
theorem loops : bg (Tryd.f107.body.getD .skip) = [eu Tryd.f107 4, eu Tryd.f107 10, eu Tryd.f107 21] := by kernel_rfl
noncomputable def av : Abs.Spec := fun args K => match args with
 | [.agg [.v (.int .i64 f), .v (.int .i64 e), .arr .i64 3 a, .arr .i64 3 b, .arr .i64 3 c, .arr .i64 3 d, .fn (.func 108) [] []], .arr .u32 8 g, .sl (.ints .u8 h)] => P.jo f e a b c d g h (fun i => K (.arr .u32 8 i))
 | _ => none
noncomputable def spec : Abs.Spec := fun args K => av (qb [.any, .any, .sl (.ints .u8 [])] args) K
theorem ok0 : Proved Tryd.prog GLO.gB 107 av := by
 refine cu (D := D) (fn := Tryd.f107) (c := Tryd.f107.body.getD .skip) [.any] (by kernel_rfl) (ah (by kernel_rfl)) (by kernel_rfl) (by kernel_rfl) (by kernel_rfl) ⟨jl.ok, lq.ok, ig.ok, jd.ok, trivial⟩ trivial ?_ ?_
 · rw [loops]; exact ⟨bay, asy, bca, trivial⟩
 · intro args K r h
   unfold av at h
   split at h
   · rw [P.aa5] at h; exact Eq.trans (by kernel_rfl) h
   · cases h
theorem ok : Proved Tryd.prog GLO.gB 107 spec := dz _ ok0
end jo

namespace mq
abbrev X3 := P.bi3
def S3 : X3 → ASt := fun (l, j, k, a, b, c, d, e, f, g, h, i) => ⟨[(2, .sl (.ints .u8 l)), (3, .ptr 0 0), (4, .ptr 1 0), (6, .ptr 2 0), (8, .ptr 3 0), (14, .arr .u64 8 j), (15, .v (.int .i64 k))], [(0, some ⟨.box 143 [.v (.int .i64 a), .v (.int .i64 b), .arr .i64 3 c, .arr .i64 3 d, .arr .i64 3 e, .arr .i64 3 f, .fn (.func 108) [] []], false⟩), (1, some ⟨.box 123 [.arr .u64 8 g], false⟩), (2, some ⟨.box 123 [.arr .u64 8 h], false⟩), (3, some ⟨.box 152 [.arr .u32 8 i], false⟩)], 4, 52⟩
def V3 : ASt → Option X3
 | ⟨[(2, .sl (.ints .u8 l)), (3, .ptr 0 0), (4, .ptr 1 0), (6, .ptr 2 0), (8, .ptr 3 0), (14, .arr .u64 8 j), (15, .v (.int .i64 k))], [(0, some ⟨.box 143 [.v (.int .i64 a), .v (.int .i64 b), .arr .i64 3 c, .arr .i64 3 d, .arr .i64 3 e, .arr .i64 3 f, .fn (.func 108) [] []], false⟩), (1, some ⟨.box 123 [.arr .u64 8 g], false⟩), (2, some ⟨.box 123 [.arr .u64 8 h], false⟩), (3, some ⟨.box 152 [.arr .u32 8 i], false⟩)], 4, 52⟩ => some (l, j, k, a, b, c, d, e, f, g, h, i)
 | _ => none
theorem avd (st) (x) (h : V3 st = some x) : st = S3 x := by
 unfold V3 at h
 split at h
 · cases h; rfl
 · cases h
abbrev Y3 := P.bni
abbrev X8 := P.bjl
def S8 : X8 → ASt := fun (k, j, a, b, c, d, e, f, g, h, i) => ⟨[(2, .sl (.ints .u8 k)), (3, .ptr 0 0), (4, .ptr 1 0), (6, .ptr 2 0), (8, .ptr 3 0), (11, .v (.int .i64 j))], [(3, some ⟨.box 152 [.arr .u32 8 a], false⟩), (2, some ⟨.box 123 [.arr .u64 8 b], false⟩), (1, some ⟨.box 123 [.arr .u64 8 c], false⟩), (0, some ⟨.box 143 [.v (.int .i64 d), .v (.int .i64 e), .arr .i64 3 f, .arr .i64 3 g, .arr .i64 3 h, .arr .i64 3 i, .fn (.func 108) [] []], false⟩)], 4, 52⟩
def V8 : ASt → Option X8
 | ⟨[(2, .sl (.ints .u8 k)), (3, .ptr 0 0), (4, .ptr 1 0), (6, .ptr 2 0), (8, .ptr 3 0), (11, .v (.int .i64 j))], [(3, some ⟨.box 152 [.arr .u32 8 a], false⟩), (2, some ⟨.box 123 [.arr .u64 8 b], false⟩), (1, some ⟨.box 123 [.arr .u64 8 c], false⟩), (0, some ⟨.box 143 [.v (.int .i64 d), .v (.int .i64 e), .arr .i64 3 f, .arr .i64 3 g, .arr .i64 3 h, .arr .i64 3 i, .fn (.func 108) [] []], false⟩)], 4, 52⟩ => some (k, j, a, b, c, d, e, f, g, h, i)
 | _ => none
theorem azm (st) (x) (h : V8 st = some x) : st = S8 x := by
 unfold V8 at h
 split at h
 · cases h; rfl
 · cases h
abbrev Y8 := P.bna
abbrev X12 := P.bjz
def S12 : X12 → ASt := fun (e, c, d, a, b) => ⟨[(2, .sl (.ints .u8 e)), (4, .ptr 1 0), (6, .ptr 2 0), (40, .arr .u32 8 c), (41, .v (.int .i64 d))], [(1, some ⟨.box 123 [.arr .u64 8 a], false⟩), (2, some ⟨.box 123 [.arr .u64 8 b], false⟩)], 120, 52⟩
def V12 : ASt → Option X12
 | ⟨[(2, .sl (.ints .u8 e)), (4, .ptr 1 0), (6, .ptr 2 0), (40, .arr .u32 8 c), (41, .v (.int .i64 d))], [(1, some ⟨.box 123 [.arr .u64 8 a], false⟩), (2, some ⟨.box 123 [.arr .u64 8 b], false⟩)], 120, 52⟩ => some (e, c, d, a, b)
 | _ => none
theorem azv (st) (x) (h : V12 st = some x) : st = S12 x := by
 unfold V12 at h
 split at h
 · cases h; rfl
 · cases h
abbrev Y12 := P.bnh
def E3 (K : AExit → ASt → Option R) : Y3 → Option R := (fun x => K (.exit 0) (S3 x))
noncomputable def L3 : aat := fun st K => ahy (V3 st) fun x => P.bk3 x (E3 K)
def E8 (K : AExit → ASt → Option R) : Y8 → Option R := (fun x => K (.exit 2) (S8 x))
noncomputable def L8 : aat := fun st K => ahy (V8 st) fun x => P.bk4 x (E8 K)
def E12 (K : AExit → ASt → Option R) : Y12 → Option R := (fun x => K (.exit 4) (S12 x))
noncomputable def L12 : aat := fun st K => ahy (V12 st) fun x => P.bnr x (E12 K)
noncomputable def D : Ctx := ({ P := Tryd.prog, G := [(107, jo.spec), (108, lq.spec)], globs := GLO.gB, hints := [(12, ⟨[2, 4, 6, 40, 41], [], [6, 7], [], some (120, [1, 2]), [], [], []⟩), (8, ⟨[2, 3, 4, 6, 8, 11], [], [6, 7], [(2, .sl (.ints .u8 []))], none, [], [], []⟩), (3, ⟨[2, 3, 4, 6, 8, 14, 15], [], [6, 7], [], none, [], [], []⟩)], loops := [(3, L3), (8, L8), (12, L12)], inl := [] } : Ctx)
theorem an8 (K) (next) (x) : qw D (eu Tryd.f96 3) K next (S3 x) = P.bip x (fun x => next (S3 x)) (E3 K) := by kernel_rfl
theorem awn : oh D (eu Tryd.f96 3) := jv S3 avd (by kernel_rfl) P.bn5 an8
theorem atc (K) (next) (x) : qw D (eu Tryd.f96 8) K next (S8 x) = P.zs12 x (fun x => next (S8 x)) (E8 K) := by kernel_rfl
theorem baj : oh D (eu Tryd.f96 8) := jv S8 azm (by kernel_rfl) P.bom atc
theorem avo (K) (next) (x) : qw D (eu Tryd.f96 12) K next (S12 x) = P.bjk x (fun x => next (S12 x)) (E12 K) := by kernel_rfl
theorem az7 : oh D (eu Tryd.f96 12) := jv S12 azv (by kernel_rfl) P.bog avo
theorem loops : bg (Tryd.f96.body.getD .skip) = [eu Tryd.f96 3, eu Tryd.f96 8, eu Tryd.f96 12] := by kernel_rfl
noncomputable def av : Abs.Spec := fun args K => match args with
 | [.agg [.v (.int .i64 f), .v (.int .i64 e), .arr .i64 3 a, .arr .i64 3 b, .arr .i64 3 c, .arr .i64 3 d, .fn (.func 108) [] []], .arr .u64 8 g, .sl (.ints .u8 h)] => P.mq f e a b c d g h (fun i j => K (.tuple [.arr .u64 8 i, .sl (.ints .u8 j)]))
 | _ => none
noncomputable def spec : Abs.Spec := fun args K => av (qb [.any, .any, .sl (.ints .u8 [])] args) K
theorem ok0 : Proved Tryd.prog GLO.gB 96 av := by
 refine cu (D := D) (fn := Tryd.f96) (c := Tryd.f96.body.getD .skip) [.any, .sl (.ints .u8 [])] (by kernel_rfl) (ah (by kernel_rfl)) (by kernel_rfl) (by kernel_rfl) (by kernel_rfl) ⟨jo.ok, lq.ok, trivial⟩ trivial ?_ ?_
 · rw [loops]; exact ⟨awn, baj, az7, trivial⟩
 · intro args K r h
   unfold av at h
   split at h
   · rw [P.adg] at h; exact Eq.trans (by kernel_rfl) h
   · cases h
theorem ok : Proved Tryd.prog GLO.gB 96 spec := dz _ ok0
end mq

namespace aj
noncomputable def D : Ctx := ({ P := Tryd.prog, G := [(110, l7.spec)], globs := GLO.gB, hints := [], loops := [], inl := [] } : Ctx)
theorem loops : bg (Tryd.f123.body.getD .skip) = [] := by kernel_rfl
noncomputable def av : Abs.Spec := fun args K => match args with
 | [.agg [.v (.int .i64 f), .v (.int .i64 e), .arr .i64 3 a, .arr .i64 3 b, .arr .i64 3 c, .arr .i64 3 d, .fn (.func 110) [] []], .v (.int .u64 g), .v (.int .i64 h)] => P.aj f e a b c d g h (fun i => K (.v (.int .u64 i)))
 | _ => none
noncomputable def spec : Abs.Spec := av
theorem ok0 : Proved Tryd.prog GLO.gB 123 av := by
 refine cu (D := D) (fn := Tryd.f123) (c := Tryd.f123.body.getD .skip) [.any] (by kernel_rfl) (ah (by kernel_rfl)) (by kernel_rfl) (by kernel_rfl) (by kernel_rfl) ⟨l7.ok, trivial⟩ trivial ?_ ?_
 · rw [loops]; exact trivial
 · intro args K r h
   unfold av at h
   split at h
   · rw [P.zy] at h; exact Eq.trans (by kernel_rfl) h
   · cases h
theorem ok : Proved Tryd.prog GLO.gB 123 spec := ok0
end aj

namespace iq
noncomputable def D : Ctx := ({ P := Tryd.prog, G := [(110, l7.spec), (123, aj.spec)], globs := GLO.gB, hints := [], loops := [], inl := [] } : Ctx)
theorem loops : bg (Tryd.f116.body.getD .skip) = [] := by kernel_rfl
noncomputable def av : Abs.Spec := fun args K => match args with
 | [.agg [.v (.int .i64 f), .v (.int .i64 e), .arr .i64 3 a, .arr .i64 3 b, .arr .i64 3 c, .arr .i64 3 d, .fn (.func 110) [] []], .v (.int .u64 g), .v (.int .i64 h)] => P.iq f e a b c d g h (fun i => K (.v (.int .u64 i)))
 | _ => none
noncomputable def spec : Abs.Spec := av
theorem ok0 : Proved Tryd.prog GLO.gB 116 av := by
 refine cu (D := D) (fn := Tryd.f116) (c := Tryd.f116.body.getD .skip) [.any] (by kernel_rfl) (ah (by kernel_rfl)) (by kernel_rfl) (by kernel_rfl) (by kernel_rfl) ⟨l7.ok, aj.ok, trivial⟩ trivial ?_ ?_
 · rw [loops]; exact trivial
 · intro args K r h
   unfold av at h
   split at h
   · rw [P.wo] at h; exact Eq.trans (by kernel_rfl) h
   · cases h
theorem ok : Proved Tryd.prog GLO.gB 116 spec := ok0
end iq

namespace jc
noncomputable def D : Ctx := ({ P := Tryd.prog, G := [(110, l7.spec), (123, aj.spec)], globs := GLO.gB, hints := [], loops := [], inl := [] } : Ctx)
theorem loops : bg (Tryd.f117.body.getD .skip) = [] := by kernel_rfl
noncomputable def av : Abs.Spec := fun args K => match args with
 | [.agg [.v (.int .i64 f), .v (.int .i64 e), .arr .i64 3 a, .arr .i64 3 b, .arr .i64 3 c, .arr .i64 3 d, .fn (.func 110) [] []], .v (.int .u64 g), .v (.int .i64 h)] => P.jc f e a b c d g h (fun i => K (.v (.int .u64 i)))
 | _ => none
noncomputable def spec : Abs.Spec := av
theorem ok0 : Proved Tryd.prog GLO.gB 117 av := by
 refine cu (D := D) (fn := Tryd.f117) (c := Tryd.f117.body.getD .skip) [.any] (by kernel_rfl) (ah (by kernel_rfl)) (by kernel_rfl) (by kernel_rfl) (by kernel_rfl) ⟨l7.ok, aj.ok, trivial⟩ trivial ?_ ?_
 · rw [loops]; exact trivial
 · intro args K r h
   unfold av at h
   split at h
   · rw [P.yh] at h; exact Eq.trans (by kernel_rfl) h
   · cases h
theorem ok : Proved Tryd.prog GLO.gB 117 spec := ok0
end jc

namespace jm
abbrev X4 := P.bh3
def S4 : X4 → ASt := fun (k, l, j, a, b, c, d, e, f, g, h, i) => ⟨[(2, .sl (.ints .u8 k)), (3, .ptr 0 0), (4, .ptr 1 0), (6, .ptr 2 0), (7, .ptr 3 0), (8, .v (.int .i64 l)), (19, .v (.int .i64 j))], [(0, some ⟨.box 147 [.v (.int .i64 a), .v (.int .i64 b), .arr .i64 3 c, .arr .i64 3 d, .arr .i64 3 e, .arr .i64 3 f, .fn (.func 110) [] []], false⟩), (1, some ⟨.box 123 [.arr .u64 8 g], false⟩), (2, some ⟨.box 123 [.arr .u64 8 h], false⟩), (3, some ⟨.box 159 [.arr .u64 16 i], false⟩)], 4, 142⟩
def V4 : ASt → Option X4
 | ⟨[(2, .sl (.ints .u8 k)), (3, .ptr 0 0), (4, .ptr 1 0), (6, .ptr 2 0), (7, .ptr 3 0), (8, .v (.int .i64 l)), (19, .v (.int .i64 j))], [(0, some ⟨.box 147 [.v (.int .i64 a), .v (.int .i64 b), .arr .i64 3 c, .arr .i64 3 d, .arr .i64 3 e, .arr .i64 3 f, .fn (.func 110) [] []], false⟩), (1, some ⟨.box 123 [.arr .u64 8 g], false⟩), (2, some ⟨.box 123 [.arr .u64 8 h], false⟩), (3, some ⟨.box 159 [.arr .u64 16 i], false⟩)], 4, 142⟩ => some (k, l, j, a, b, c, d, e, f, g, h, i)
 | _ => none
theorem bcc (st) (x) (h : V4 st = some x) : st = S4 x := by
 unfold V4 at h
 split at h
 · cases h; rfl
 · cases h
abbrev Y4 := P.bng
abbrev X10 := P.bh6
def S10 : X10 → ASt := fun (k, l, a, b, c, d, e, f, g, h, i, j) => ⟨[(3, .ptr 0 0), (4, .ptr 1 0), (6, .ptr 2 0), (7, .ptr 3 0), (10, .ptr 4 0), (37, .v (.int .i64 k)), (38, .v (.int .i64 l))], [(3, some ⟨.box 159 [.arr .u64 16 a], false⟩), (2, some ⟨.box 123 [.arr .u64 8 b], false⟩), (1, some ⟨.box 123 [.arr .u64 8 c], false⟩), (0, some ⟨.box 147 [.v (.int .i64 d), .v (.int .i64 e), .arr .i64 3 f, .arr .i64 3 g, .arr .i64 3 h, .arr .i64 3 i, .fn (.func 110) [] []], false⟩), (4, some ⟨.box 123 [.arr .u64 8 j], false⟩)], 5, 142⟩
def V10 : ASt → Option X10
 | ⟨[(3, .ptr 0 0), (4, .ptr 1 0), (6, .ptr 2 0), (7, .ptr 3 0), (10, .ptr 4 0), (37, .v (.int .i64 k)), (38, .v (.int .i64 l))], [(3, some ⟨.box 159 [.arr .u64 16 a], false⟩), (2, some ⟨.box 123 [.arr .u64 8 b], false⟩), (1, some ⟨.box 123 [.arr .u64 8 c], false⟩), (0, some ⟨.box 147 [.v (.int .i64 d), .v (.int .i64 e), .arr .i64 3 f, .arr .i64 3 g, .arr .i64 3 h, .arr .i64 3 i, .fn (.func 110) [] []], false⟩), (4, some ⟨.box 123 [.arr .u64 8 j], false⟩)], 5, 142⟩ => some (k, l, a, b, c, d, e, f, g, h, i, j)
 | _ => none
theorem as2 (st) (x) (h : V10 st = some x) : st = S10 x := by
 unfold V10 at h
 split at h
 · cases h; rfl
 · cases h
abbrev Y10 := P.blj
abbrev X21 := P.bh0
def S21 : X21 → ASt := fun (a, b, c, d) => ⟨[(4, .ptr 1 0), (6, .ptr 2 0), (10, .ptr 4 0), (129, .v (.int .i64 a))], [(1, some ⟨.box 123 [.arr .u64 8 b], false⟩), (2, some ⟨.box 123 [.arr .u64 8 c], false⟩), (4, some ⟨.box 123 [.arr .u64 8 d], false⟩)], 120, 142⟩
def V21 : ASt → Option X21
 | ⟨[(4, .ptr 1 0), (6, .ptr 2 0), (10, .ptr 4 0), (129, .v (.int .i64 a))], [(1, some ⟨.box 123 [.arr .u64 8 b], false⟩), (2, some ⟨.box 123 [.arr .u64 8 c], false⟩), (4, some ⟨.box 123 [.arr .u64 8 d], false⟩)], 120, 142⟩ => some (a, b, c, d)
 | _ => none
theorem bai (st) (x) (h : V21 st = some x) : st = S21 x := by
 unfold V21 at h
 split at h
 · cases h; rfl
 · cases h
abbrev Y21 := P.blx
def E4 (K : AExit → ASt → Option R) : Y4 → Option R := (fun x => K (.exit 0) (S4 x))
noncomputable def L4 : aat := fun st K => ahy (V4 st) fun x => P.bnk x (E4 K)
def E10 (K : AExit → ASt → Option R) : Y10 → Option R := (fun x => K (.exit 2) (S10 x))
noncomputable def L10 : aat := fun st K => ahy (V10 st) fun x => P.bm8 x (E10 K)
def E21 (K : AExit → ASt → Option R) : Y21 → Option R := (fun x => K (.exit 4) (S21 x))
noncomputable def L21 : aat := fun st K => ahy (V21 st) fun x => P.bmk x (E21 K)
noncomputable def D : Ctx := ({ P := Tryd.prog, G := [(32, jl.spec), (110, l7.spec), (116, iq.spec), (117, jc.spec)], globs := GLO.gB, hints := [(21, ⟨[4, 6, 10, 129], [], [6], [], some (120, [1, 2, 4]), [], [], []⟩), (10, ⟨[3, 4, 6, 7, 10, 37, 38], [], [6], [], none, [], [], []⟩), (4, ⟨[2, 3, 4, 6, 7, 8, 19], [], [6], [], none, [], [], []⟩)], loops := [(4, L4), (10, L10), (21, L21)], inl := [] } : Ctx)
theorem att (K) (next) (x) : qw D (eu Tryd.f109 4) K next (S4 x) = P.bi9 x (fun x => next (S4 x)) (E4 K) := by kernel_rfl
theorem bay : oh D (eu Tryd.f109 4) := jv S4 bcc (by kernel_rfl) P.bn4 att
theorem anb (K) (next) (x) : qw D (eu Tryd.f109 10) K next (S10 x) = P.bjt x (fun x => next (S10 x)) (E10 K) := by kernel_rfl
theorem asy : oh D (eu Tryd.f109 10) := jv S10 as2 (by kernel_rfl) P.bob anb
theorem av3 (K) (next) (x) : qw D (eu Tryd.f109 21) K next (S21 x) = P.bjm x (fun x => next (S21 x)) (E21 K) := by kernel_rfl
theorem bca : oh D (eu Tryd.f109 21) := jv S21 bai (by kernel_rfl) P.bod av3
theorem loops : bg (Tryd.f109.body.getD .skip) = [eu Tryd.f109 4, eu Tryd.f109 10, eu Tryd.f109 21] := by kernel_rfl
noncomputable def av : Abs.Spec := fun args K => match args with
 | [.agg [.v (.int .i64 f), .v (.int .i64 e), .arr .i64 3 a, .arr .i64 3 b, .arr .i64 3 c, .arr .i64 3 d, .fn (.func 110) [] []], .arr .u64 8 g, .sl (.ints .u8 h)] => P.jm f e a b c d g h (fun i => K (.arr .u64 8 i))
 | _ => none
noncomputable def spec : Abs.Spec := fun args K => av (qb [.any, .any, .sl (.ints .u8 [])] args) K
theorem ok0 : Proved Tryd.prog GLO.gB 109 av := by
 refine cu (D := D) (fn := Tryd.f109) (c := Tryd.f109.body.getD .skip) [.any] (by kernel_rfl) (ah (by kernel_rfl)) (by kernel_rfl) (by kernel_rfl) (by kernel_rfl) ⟨jl.ok, l7.ok, iq.ok, jc.ok, trivial⟩ trivial ?_ ?_
 · rw [loops]; exact ⟨bay, asy, bca, trivial⟩
 · intro args K r h
   unfold av at h
   split at h
   · rw [P.aa3] at h; exact Eq.trans (by kernel_rfl) h
   · cases h
theorem ok : Proved Tryd.prog GLO.gB 109 spec := dz _ ok0
end jm

end
