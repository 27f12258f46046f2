/-
  HssVerifies, part 15: an interpreter of my own over abstract values, the pure functions, the walks and the plain law.
-/

import Derived.Test.YtmipokjdajiimaaDoorHssVerifiesK
import Derived.Test.YtmipokjdajiimaaDoorHssVerifiesH
import Derived.Test.YtmipokjdajiimaaDoorProg
import Derived.Test.YtmipokjdajiimaaDoorHssVerifiesJ
import Derived.Test.YtmipokjdajiimaaDoorHssVerifiesM
import Derived.Test.YtmipokjdajiimaaDoorHssVerifiesN
import Derived.KernelRfl
import Derived.Test.YtmipokjdajiimaaDoorHssVerifiesI

section
open Go Go.Abs Go.Proofs
set_option maxRecDepth 100000
set_option maxHeartbeats 0
set_option linter.unusedVariables false

namespace jh
abbrev X4 := P.bp6
def S4 : X4 → ASt := fun (k, l, j, a, b, c, d, e, f, g, h, i) => ⟨[(2, .sl (.ints .u8 k)), (3, .ptr 0 0), (4, .ptr 1 0), (6, .ptr 2 0), (7, .ptr 3 0), (8, .v (.int .i64 l)), (19, .v (.int .i64 j))], [(0, some ⟨.box 147 [.v (.int .i64 a), .v (.int .i64 b), .arr .i64 3 c, .arr .i64 3 d, .arr .i64 3 e, .arr .i64 3 f, .fn (.func 110) [] []], false⟩), (1, some ⟨.box 123 [.arr .u64 8 g], false⟩), (2, some ⟨.box 123 [.arr .u64 8 h], false⟩), (3, some ⟨.box 159 [.arr .u64 16 i], false⟩)], 4, 142⟩
def V4 : ASt → Option X4
 | ⟨[(2, .sl (.ints .u8 k)), (3, .ptr 0 0), (4, .ptr 1 0), (6, .ptr 2 0), (7, .ptr 3 0), (8, .v (.int .i64 l)), (19, .v (.int .i64 j))], [(0, some ⟨.box 147 [.v (.int .i64 a), .v (.int .i64 b), .arr .i64 3 c, .arr .i64 3 d, .arr .i64 3 e, .arr .i64 3 f, .fn (.func 110) [] []], false⟩), (1, some ⟨.box 123 [.arr .u64 8 g], false⟩), (2, some ⟨.box 123 [.arr .u64 8 h], false⟩), (3, some ⟨.box 159 [.arr .u64 16 i], false⟩)], 4, 142⟩ => some (k, l, j, a, b, c, d, e, f, g, h, i)
 | _ => none
theorem ax8 (st) (x) (h : V4 st = some x) : st = S4 x := by
 unfold V4 at h
 split at h
 · cases h; rfl
 · cases h
abbrev Y4 := P.bt4
abbrev X10 := P.bq1
def S10 : X10 → ASt := fun (k, l, a, b, c, d, e, f, g, h, i, j) => ⟨[(3, .ptr 0 0), (4, .ptr 1 0), (6, .ptr 2 0), (7, .ptr 3 0), (10, .ptr 4 0), (37, .v (.int .i64 k)), (38, .v (.int .i64 l))], [(3, some ⟨.box 159 [.arr .u64 16 a], false⟩), (2, some ⟨.box 123 [.arr .u64 8 b], false⟩), (1, some ⟨.box 123 [.arr .u64 8 c], false⟩), (0, some ⟨.box 147 [.v (.int .i64 d), .v (.int .i64 e), .arr .i64 3 f, .arr .i64 3 g, .arr .i64 3 h, .arr .i64 3 i, .fn (.func 110) [] []], false⟩), (4, some ⟨.box 123 [.arr .u64 8 j], false⟩)], 5, 142⟩
def V10 : ASt → Option X10
 | ⟨[(3, .ptr 0 0), (4, .ptr 1 0), (6, .ptr 2 0), (7, .ptr 3 0), (10, .ptr 4 0), (37, .v (.int .i64 k)), (38, .v (.int .i64 l))], [(3, some ⟨.box 159 [.arr .u64 16 a], false⟩), (2, some ⟨.box 123 [.arr .u64 8 b], false⟩), (1, some ⟨.box 123 [.arr .u64 8 c], false⟩), (0, some ⟨.box 147 [.v (.int .i64 d), .v (.int .i64 e), .arr .i64 3 f, .arr .i64 3 g, .arr .i64 3 h, .arr .i64 3 i, .fn (.func 110) [] []], false⟩), (4, some ⟨.box 123 [.arr .u64 8 j], false⟩)], 5, 142⟩ => some (k, l, a, b, c, d, e, f, g, h, i, j)
 | _ => none
theorem ayu (st) (x) (h : V10 st = some x) : st = S10 x := by
 unfold V10 at h
 split at h
 · cases h; rfl
 · cases h
abbrev Y10 := P.bue
abbrev X21 := P.br8
def S21 : X21 → ASt := fun (a, b, c, d) => ⟨[(4, .ptr 1 0), (6, .ptr 2 0), (10, .ptr 4 0), (129, .v (.int .i64 a))], [(1, some ⟨.box 123 [.arr .u64 8 b], false⟩), (2, some ⟨.box 123 [.arr .u64 8 c], false⟩), (4, some ⟨.box 123 [.arr .u64 8 d], false⟩)], 120, 142⟩
def V21 : ASt → Option X21
 | ⟨[(4, .ptr 1 0), (6, .ptr 2 0), (10, .ptr 4 0), (129, .v (.int .i64 a))], [(1, some ⟨.box 123 [.arr .u64 8 b], false⟩), (2, some ⟨.box 123 [.arr .u64 8 c], false⟩), (4, some ⟨.box 123 [.arr .u64 8 d], false⟩)], 120, 142⟩ => some (a, b, c, d)
 | _ => none
theorem bg9 (st) (x) (h : V21 st = some x) : st = S21 x := by
 unfold V21 at h
 split at h
 · cases h; rfl
 · cases h
abbrev Y21 := P.bui
def E4 (K : AExit → ASt → Option R) : Y4 → Option R := (fun x => K (.exit 0) (S4 x))
noncomputable def L4 : sj := fun st K => ad3 (V4 st) fun x => P.bwa x (E4 K)
def E10 (K : AExit → ASt → Option R) : Y10 → Option R := (fun x => K (.exit 2) (S10 x))
noncomputable def L10 : sj := fun st K => ad3 (V10 st) fun x => P.bxy x (E10 K)
def E21 (K : AExit → ASt → Option R) : Y21 → Option R := (fun x => K (.exit 4) (S21 x))
noncomputable def L21 : sj := fun st K => ad3 (V21 st) fun x => P.bxd x (E21 K)
noncomputable def D : Ctx := ({ P := Tryd.prog, G := [(32, iy.spec), (110, lu.spec), (116, ig.spec), (117, jc.spec)], globs := GLO.gB, hints := [(21, ⟨[4, 6, 10, 129], [], [6], [], some (120, [1, 2, 4]), [], [], []⟩), (10, ⟨[3, 4, 6, 7, 10, 37, 38], [], [6], [], none, [], [], []⟩), (4, ⟨[2, 3, 4, 6, 7, 8, 19], [], [6], [], none, [], [], []⟩)], loops := [(4, L4), (10, L10), (21, L21)], inl := [] } : Ctx)
theorem am8 (K) (next) (x) : ko D (dw Tryd.f109 4) K next (S4 x) = P.br7 x (fun x => next (S4 x)) (E4 K) := by kernel_rfl
theorem aw2 : jm D (dw Tryd.f109 4) := fq S4 ax8 (by kernel_rfl) P.bzw am8
theorem aue (K) (next) (x) : ko D (dw Tryd.f109 10) K next (S10 x) = P.bo4 x (fun x => next (S10 x)) (E10 K) := by kernel_rfl
theorem ay3 : jm D (dw Tryd.f109 10) := fq S10 ayu (by kernel_rfl) P.bz4 aue
theorem bbg (K) (next) (x) : ko D (dw Tryd.f109 21) K next (S21 x) = P.bqv x (fun x => next (S21 x)) (E21 K) := by kernel_rfl
theorem bgn : jm D (dw Tryd.f109 21) := fq S21 bg9 (by kernel_rfl) P.bzn bbg
theorem loops : dh (Tryd.f109.body.getD .skip) = [dw Tryd.f109 4, dw Tryd.f109 10, dw Tryd.f109 21] := by kernel_rfl
noncomputable def au : Abs.Spec := fun args K => match args with
 | [.agg [.v (.int .i64 f), .v (.int .i64 e), .arr .i64 3 a, .arr .i64 3 b, .arr .i64 3 c, .arr .i64 3 d, .fn (.func 110) [] []], .arr .u64 8 g, .sl (.ints .u8 h)] => P.jh f e a b c d g h (fun i => K (.arr .u64 8 i))
 | _ => none
noncomputable def spec : Abs.Spec := fun args K => au (mo [.any, .any, .sl (.ints .u8 [])] args) K
theorem ok0 : Proved Tryd.prog GLO.gB 109 au := by
 refine cu (D := D) (fn := Tryd.f109) (c := Tryd.f109.body.getD .skip) [.any] (by kernel_rfl) (aj (by kernel_rfl)) (by kernel_rfl) (by kernel_rfl) (by kernel_rfl) ⟨iy.ok, lu.ok, ig.ok, jc.ok, trivial⟩ trivial ?_ ?_
 · rw [loops]; exact ⟨aw2, ay3, bgn, trivial⟩
 · intro args K r h
   unfold au at h
   split at h
   · rw [P.abz] at h; exact Eq.trans (by kernel_rfl) h
   · cases h
theorem ok : Proved Tryd.prog GLO.gB 109 spec := dz _ ok0
end jh

namespace l9
abbrev X3 := P.brx
def S3 : X3 → ASt := fun (l, j, k, a, b, c, d, e, f, g, h, i) => ⟨[(2, .sl (.ints .u8 l)), (3, .ptr 0 0), (4, .ptr 1 0), (6, .ptr 2 0), (8, .ptr 3 0), (14, .arr .u64 8 j), (15, .v (.int .i64 k))], [(0, some ⟨.box 147 [.v (.int .i64 a), .v (.int .i64 b), .arr .i64 3 c, .arr .i64 3 d, .arr .i64 3 e, .arr .i64 3 f, .fn (.func 110) [] []], false⟩), (1, some ⟨.box 123 [.arr .u64 8 g], false⟩), (2, some ⟨.box 123 [.arr .u64 8 h], false⟩), (3, some ⟨.box 123 [.arr .u64 8 i], false⟩)], 4, 50⟩
def V3 : ASt → Option X3
 | ⟨[(2, .sl (.ints .u8 l)), (3, .ptr 0 0), (4, .ptr 1 0), (6, .ptr 2 0), (8, .ptr 3 0), (14, .arr .u64 8 j), (15, .v (.int .i64 k))], [(0, some ⟨.box 147 [.v (.int .i64 a), .v (.int .i64 b), .arr .i64 3 c, .arr .i64 3 d, .arr .i64 3 e, .arr .i64 3 f, .fn (.func 110) [] []], false⟩), (1, some ⟨.box 123 [.arr .u64 8 g], false⟩), (2, some ⟨.box 123 [.arr .u64 8 h], false⟩), (3, some ⟨.box 123 [.arr .u64 8 i], false⟩)], 4, 50⟩ => some (l, j, k, a, b, c, d, e, f, g, h, i)
 | _ => none
theorem apk (st) (x) (h : V3 st = some x) : st = S3 x := by
 unfold V3 at h
 split at h
 · cases h; rfl
 · cases h
abbrev Y3 := P.bu4
abbrev X8 := P.bqa
def S8 : X8 → ASt := fun (k, j, a, b, c, d, e, f, g, h, i) => ⟨[(2, .sl (.ints .u8 k)), (3, .ptr 0 0), (4, .ptr 1 0), (6, .ptr 2 0), (8, .ptr 3 0), (11, .v (.int .i64 j))], [(3, some ⟨.box 123 [.arr .u64 8 a], false⟩), (2, some ⟨.box 123 [.arr .u64 8 b], false⟩), (1, some ⟨.box 123 [.arr .u64 8 c], false⟩), (0, some ⟨.box 147 [.v (.int .i64 d), .v (.int .i64 e), .arr .i64 3 f, .arr .i64 3 g, .arr .i64 3 h, .arr .i64 3 i, .fn (.func 110) [] []], false⟩)], 4, 50⟩
def V8 : ASt → Option X8
 | ⟨[(2, .sl (.ints .u8 k)), (3, .ptr 0 0), (4, .ptr 1 0), (6, .ptr 2 0), (8, .ptr 3 0), (11, .v (.int .i64 j))], [(3, some ⟨.box 123 [.arr .u64 8 a], false⟩), (2, some ⟨.box 123 [.arr .u64 8 b], false⟩), (1, some ⟨.box 123 [.arr .u64 8 c], false⟩), (0, some ⟨.box 147 [.v (.int .i64 d), .v (.int .i64 e), .arr .i64 3 f, .arr .i64 3 g, .arr .i64 3 h, .arr .i64 3 i, .fn (.func 110) [] []], false⟩)], 4, 50⟩ => some (k, j, a, b, c, d, e, f, g, h, i)
 | _ => none
theorem ayd (st) (x) (h : V8 st = some x) : st = S8 x := by
 unfold V8 at h
 split at h
 · cases h; rfl
 · cases h
abbrev Y8 := P.bwy
abbrev X12 := P.bq3
def S12 : X12 → ASt := fun (e, c, d, a, b) => ⟨[(2, .sl (.ints .u8 e)), (4, .ptr 1 0), (6, .ptr 2 0), (39, .arr .u64 8 c), (40, .v (.int .i64 d))], [(1, some ⟨.box 123 [.arr .u64 8 a], false⟩), (2, some ⟨.box 123 [.arr .u64 8 b], false⟩)], 120, 50⟩
def V12 : ASt → Option X12
 | ⟨[(2, .sl (.ints .u8 e)), (4, .ptr 1 0), (6, .ptr 2 0), (39, .arr .u64 8 c), (40, .v (.int .i64 d))], [(1, some ⟨.box 123 [.arr .u64 8 a], false⟩), (2, some ⟨.box 123 [.arr .u64 8 b], false⟩)], 120, 50⟩ => some (e, c, d, a, b)
 | _ => none
theorem bht (st) (x) (h : V12 st = some x) : st = S12 x := by
 unfold V12 at h
 split at h
 · cases h; rfl
 · cases h
abbrev Y12 := P.bwj
def E3 (K : AExit → ASt → Option R) : Y3 → Option R := (fun x => K (.exit 0) (S3 x))
noncomputable def L3 : sj := fun st K => ad3 (V3 st) fun x => P.bv3 x (E3 K)
def E8 (K : AExit → ASt → Option R) : Y8 → Option R := (fun x => K (.exit 2) (S8 x))
noncomputable def L8 : sj := fun st K => ad3 (V8 st) fun x => P.byj x (E8 K)
def E12 (K : AExit → ASt → Option R) : Y12 → Option R := (fun x => K (.exit 4) (S12 x))
noncomputable def L12 : sj := fun st K => ad3 (V12 st) fun x => P.byn x (E12 K)
noncomputable def D : Ctx := ({ P := Tryd.prog, G := [(109, jh.spec), (110, lu.spec)], globs := GLO.gB, hints := [(12, ⟨[2, 4, 6, 39, 40], [], [6, 7], [], some (120, [1, 2]), [], [], []⟩), (8, ⟨[2, 3, 4, 6, 8, 11], [], [6, 7], [(2, .sl (.ints .u8 []))], none, [], [], []⟩), (3, ⟨[2, 3, 4, 6, 8, 14, 15], [], [6, 7], [], none, [], [], []⟩)], loops := [(3, L3), (8, L8), (12, L12)], inl := [] } : Ctx)
theorem ahc (K) (next) (x) : ko D (dw Tryd.f98 3) K next (S3 x) = P.bpg x (fun x => next (S3 x)) (E3 K) := by kernel_rfl
theorem ao0 : jm D (dw Tryd.f98 3) := fq S3 apk (by kernel_rfl) P.bzu ahc
theorem amj (K) (next) (x) : ko D (dw Tryd.f98 8) K next (S8 x) = P.brq x (fun x => next (S8 x)) (E8 K) := by kernel_rfl
theorem axb : jm D (dw Tryd.f98 8) := fq S8 ayd (by kernel_rfl) P.bz8 amj
theorem bcc (K) (next) (x) : ko D (dw Tryd.f98 12) K next (S12 x) = P.bqu x (fun x => next (S12 x)) (E12 K) := by kernel_rfl
theorem bga : jm D (dw Tryd.f98 12) := fq S12 bht (by kernel_rfl) P.b0j bcc
theorem loops : dh (Tryd.f98.body.getD .skip) = [dw Tryd.f98 3, dw Tryd.f98 8, dw Tryd.f98 12] := by kernel_rfl
noncomputable def au : Abs.Spec := fun args K => match args with
 | [.agg [.v (.int .i64 f), .v (.int .i64 e), .arr .i64 3 a, .arr .i64 3 b, .arr .i64 3 c, .arr .i64 3 d, .fn (.func 110) [] []], .arr .u64 8 g, .sl (.ints .u8 h)] => P.l9 f e a b c d g h (fun i j => K (.tuple [.arr .u64 8 i, .sl (.ints .u8 j)]))
 | _ => none
noncomputable def spec : Abs.Spec := fun args K => au (mo [.any, .any, .sl (.ints .u8 [])] args) K
theorem ok0 : Proved Tryd.prog GLO.gB 98 au := by
 refine cu (D := D) (fn := Tryd.f98) (c := Tryd.f98.body.getD .skip) [.any, .sl (.ints .u8 [])] (by kernel_rfl) (aj (by kernel_rfl)) (by kernel_rfl) (by kernel_rfl) (by kernel_rfl) ⟨jh.ok, lu.ok, trivial⟩ trivial ?_ ?_
 · rw [loops]; exact ⟨ao0, axb, bga, trivial⟩
 · intro args K r h
   unfold au at h
   split at h
   · rw [P.ad7] at h; exact Eq.trans (by kernel_rfl) h
   · cases h
theorem ok : Proved Tryd.prog GLO.gB 98 spec := dz _ ok0
end l9

namespace l8
noncomputable def D : Ctx := { P := Tryd.prog, G := [], globs := GLO.gB, hints := [], loops := [] }
noncomputable def c : Code := Tryd.f100.body.getD .skip
noncomputable def o0 : Oper := (bd1 (sq1 c)).getD 0 bdq
noncomputable def o1 : Oper := (bd1 (sq1 (sq1 (sq2 c)))).getD 0 bdq
noncomputable def o2 : Oper := (bd1 (sq1 (sq1 (sq2 c)))).getD 1 bdq
noncomputable def X : Code := bx2 (sq2 (sq1 (sq2 c)))
noncomputable def rest : Code := sq2 (sq2 c)
noncomputable def ox : Oper := (bd1 (sq1 X)).getD 0 bdq
theorem bog (a : List Int) : aco D rest ⟨[(0, .sl (.ints .u8 a)), (2, .v (.slice none 0 0))], [], 0, Tryd.f100.ntmps⟩ (bz7 D [.fr 5 (.ints .u8 a)] Tryd.f100) = br (decide ((0 + a.length) * 1 ≤ 140737488355328)) (some (.fr 5 (.ints .u8 a))) none := by kernel_rfl
noncomputable def au : Abs.Spec := fun args K => match args with
  | [.sl (.ints .u8 a)] => P.l8 a (fun a => K (.fr 5 (.ints .u8 a)))
  | _ => none
theorem bnf : Tryd.f100.body = some (.seq (.region 0 #[o0] false) (.seq (.seq (.region 1 #[o1, o2] false) (.cond (.tmp 4) X .skip)) rest)) := by kernel_rfl
theorem ok0 : Proved Tryd.prog GLO.gB 100 au := by
  refine ⟨⟨Tryd.f100, by kernel_rfl, by kernel_rfl, by kernel_rfl⟩, fun args K r h => ?_⟩
  unfold au at h
  split at h
  · rename_i a
    unfold P.l8 at h
    obtain ⟨hp, hK⟩ := pre_some h
    refine ⟨_, hK, bkd (D := D) (fn := Tryd.f100) (t := 23) (e := 5) trivial (aj (by kernel_rfl)) trivial (by kernel_rfl) (by kernel_rfl) bnf ⟨by kernel_rfl, by kernel_rfl, by kernel_rfl⟩ ⟨by kernel_rfl, by kernel_rfl, by kernel_rfl⟩ ⟨by kernel_rfl, by kernel_rfl, by kernel_rfl⟩ (by kernel_rfl) (by decide +kernel) (by kernel_rfl) (by kernel_rfl) ⟨2, ox, by kernel_rfl, by kernel_rfl, by kernel_rfl, by kernel_rfl⟩ (by kernel_rfl) rfl rfl rfl ?_⟩
    rw [bog, ah (by omega)]
  · cases h
noncomputable def spec : Abs.Spec := fun args K => au (mo [.sl (.ints .u8 [])] args) K
theorem ok : Proved Tryd.prog GLO.gB 100 spec := dz _ ok0
end l8

namespace vw
noncomputable def D : Ctx := ({ P := Tryd.prog, G := [(62, gq.spec), (96, mg.spec), (97, aa5.spec), (98, l9.spec), (99, aa1.spec), (100, l8.spec)], globs := GLO.gB, hints := [], loops := [], inl := [] } : Ctx)
theorem loops : dh (Tryd.f88.body.getD .skip) = [] := by kernel_rfl
noncomputable def au : Abs.Spec := fun args K => match args with
 | [.agg [.v (.int .i64 c), .arr .u64 8 a, .sl (.ints .u8 d), .v (.int .u64 e)], .sl (.ints .u8 i)] => P.vw c a d e i (fun f b g h => K (.agg [.v (.int .i64 f), .arr .u64 8 b, .fr 5 (.ints .u8 g), .v (.int .u64 h)]))
 | _ => none
noncomputable def spec : Abs.Spec := fun args K => au (mo [.agg [.any, .any, .sl (.ints .u8 []), .any], .sl (.ints .u8 [])] args) K
theorem ok0 : Proved Tryd.prog GLO.gB 88 au := by
 refine cu (D := D) (fn := Tryd.f88) (c := Tryd.f88.body.getD .skip) [.agg [.any, .any, .fr 5 (.ints .u8 []), .any]] (by kernel_rfl) (aj (by kernel_rfl)) (by kernel_rfl) (by kernel_rfl) (by kernel_rfl) ⟨gq.ok, mg.ok, aa5.ok, l9.ok, aa1.ok, l8.ok, trivial⟩ trivial ?_ ?_
 · rw [loops]; exact trivial
 · intro args K r h
   unfold au at h
   split at h
   · rw [P.av6] at h; exact Eq.trans (by kernel_rfl) h
   · cases h
theorem ok : Proved Tryd.prog GLO.gB 88 spec := dz _ ok0
end vw

namespace qc
noncomputable def D : Ctx := ({ P := Tryd.prog, G := [], globs := GLO.gB, hints := [], loops := [], inl := [] } : Ctx)
theorem loops : dh (Tryd.f101.body.getD .skip) = [] := by kernel_rfl
noncomputable def au : Abs.Spec := fun args K => match args with
 | [.v (.int .i64 a)] => P.qc a (fun b => K (.v (.int .i64 b)))
 | _ => none
noncomputable def spec : Abs.Spec := au
theorem ok0 : Proved Tryd.prog GLO.gB 101 au := by
 refine cu (D := D) (fn := Tryd.f101) (c := Tryd.f101.body.getD .skip) [.any] (by kernel_rfl) (aj (by kernel_rfl)) (by kernel_rfl) (by kernel_rfl) (by kernel_rfl) trivial trivial ?_ ?_
 · rw [loops]; exact trivial
 · intro args K r h
   unfold au at h
   split at h
   · rw [P.air] at h; exact Eq.trans (by kernel_rfl) h
   · cases h
theorem ok : Proved Tryd.prog GLO.gB 101 spec := ok0
end qc

namespace ab4
abbrev X10 := P.bpm
def S10 : X10 → ASt := fun (g, d, e, f, a, b, c, h) => ⟨[(7, .own 40), (1, .ptr 0 0), (3, .v (.int .i64 g)), (45, .arr .u64 8 d), (46, .v (.int .i64 e))], [(40, some ⟨.row 5 (.ints .u8 f), false⟩), (0, some ⟨.box 125 [.v (.int .i64 a), .arr .u64 8 b, .own 5, .v (.int .u64 c)], false⟩), (5, some ⟨.row 5 (.ints .u8 h), false⟩)], 41, 62⟩
def V10 : ASt → Option X10
 | ⟨[(7, .own 40), (1, .ptr 0 0), (3, .v (.int .i64 g)), (45, .arr .u64 8 d), (46, .v (.int .i64 e))], [(40, some ⟨.row 5 (.ints .u8 f), false⟩), (0, some ⟨.box 125 [.v (.int .i64 a), .arr .u64 8 b, .own 5, .v (.int .u64 c)], false⟩), (5, some ⟨.row 5 (.ints .u8 h), false⟩)], 41, 62⟩ => some (g, d, e, f, a, b, c, h)
 | _ => none
theorem ayu (st) (x) (h : V10 st = some x) : st = S10 x := by
 unfold V10 at h
 split at h
 · cases h; rfl
 · cases h
abbrev Y10 := P.bwe
def E10 (K : AExit → ASt → Option R) : Y10 → Option R := (fun x => K (.exit 0) (S10 x))
noncomputable def L10 : sj := fun st K => ad3 (V10 st) fun x => P.btw x (E10 K)
noncomputable def D : Ctx := ({ P := Tryd.prog, G := [(38, ni.spec), (88, vw.spec), (101, qc.spec)], globs := GLO.gB, hints := [(10, ⟨[1, 3, 45, 46], [(7, 5, .ints .u8 [])], [2], [], some (40, [0, 5]), [], [], []⟩)], loops := [(10, L10)], inl := [] } : Ctx)
theorem aue (K) (next) (x) : ko D (dw Tryd.f89 10) K next (S10 x) = P.bpo x (fun x => next (S10 x)) (E10 K) := by kernel_rfl
theorem ay3 : jm D (dw Tryd.f89 10) := fq S10 ayu (by kernel_rfl) P.bzq aue
theorem loops : dh (Tryd.f89.body.getD .skip) = [dw Tryd.f89 10] := by kernel_rfl
noncomputable def au : Abs.Spec := fun args K => match args with
 | [.agg [.v (.int .i64 b), .arr .u64 8 a, .sl (.ints .u8 c), .v (.int .u64 d)]] => P.ab4 b a c d (fun e => K (.fr 5 (.ints .u8 e)))
 | _ => none
noncomputable def spec : Abs.Spec := fun args K => au (mo [.agg [.any, .any, .sl (.ints .u8 []), .any]] args) K
theorem ok0 : Proved Tryd.prog GLO.gB 89 au := by
 refine apr (D := D) (fn := Tryd.f89) (c := Tryd.f89.body.getD .skip) 5 (.ints .u8 []) (by kernel_rfl) (aj (by kernel_rfl)) (by kernel_rfl) (by kernel_rfl) (by kernel_rfl) ⟨ni.ok, vw.ok, qc.ok, trivial⟩ trivial ?_ ?_
 · rw [loops]; exact ⟨ay3, trivial⟩
 · intro args K r h
   unfold au at h
   split at h
   · rw [P.au3] at h; exact Eq.trans (by kernel_rfl) h
   · cases h
theorem ok : Proved Tryd.prog GLO.gB 89 spec := dz _ ok0
end ab4

namespace ac1
noncomputable def D : Ctx := ({ P := Tryd.prog, G := [], globs := GLO.gB, hints := [], loops := [], inl := [] } : Ctx)
theorem loops : dh (Tryd.f95.body.getD .skip) = [] := by kernel_rfl
noncomputable def au : Abs.Spec := fun args K => match args with
 | [.v (.int .i64 a)] => P.ac1 a (fun b c => K (.tuple [.arr .u64 8 b, .v (.bool c)]))
 | _ => none
noncomputable def spec : Abs.Spec := au
theorem ok0 : Proved Tryd.prog GLO.gB 95 au := by
 refine cu (D := D) (fn := Tryd.f95) (c := Tryd.f95.body.getD .skip) [.any, .any] (by kernel_rfl) (aj (by kernel_rfl)) (by kernel_rfl) (by kernel_rfl) (by kernel_rfl) trivial trivial ?_ ?_
 · rw [loops]; exact trivial
 · intro args K r h
   unfold au at h
   split at h
   · rw [P.ap6] at h; exact Eq.trans (by kernel_rfl) h
   · cases h
theorem ok : Proved Tryd.prog GLO.gB 95 spec := ok0
end ac1

namespace ab7
noncomputable def D : Ctx := ({ P := Tryd.prog, G := [(95, ac1.spec)], globs := GLO.gB, hints := [], loops := [], inl := [] } : Ctx)
theorem loops : dh (Tryd.f87.body.getD .skip) = [] := by kernel_rfl
noncomputable def au : Abs.Spec := fun args K => match args with
 | [.v (.int .i64 e)] => P.ab7 e (fun b a c d f => K (.tuple [.agg [.v (.int .i64 b), .arr .u64 8 a, .fr 5 (.ints .u8 c), .v (.int .u64 d)], .v (.int .i64 f)]))
 | _ => none
noncomputable def spec : Abs.Spec := au
theorem ok0 : Proved Tryd.prog GLO.gB 87 au := by
 refine cu (D := D) (fn := Tryd.f87) (c := Tryd.f87.body.getD .skip) [.agg [.any, .any, .fr 5 (.ints .u8 []), .any], .any] (by kernel_rfl) (aj (by kernel_rfl)) (by kernel_rfl) (by kernel_rfl) (by kernel_rfl) ⟨ac1.ok, trivial⟩ trivial ?_ ?_
 · rw [loops]; exact trivial
 · intro args K r h
   unfold au at h
   split at h
   · rw [P.awn] at h; exact Eq.trans (by kernel_rfl) h
   · cases h
theorem ok : Proved Tryd.prog GLO.gB 87 spec := ok0
end ab7

namespace jv
noncomputable def D : Ctx := ({ P := Tryd.prog, G := [(37, jq.spec), (38, ni.spec), (87, ab7.spec), (88, vw.spec), (89, ab4.spec)], globs := GLO.gB, hints := [], loops := [], inl := [] } : Ctx)
theorem loops : dh (Tryd.f86.body.getD .skip) = [] := by kernel_rfl
noncomputable def au : Abs.Spec := fun args K => match args with
 | [.agg [.v (.int .i64 e), .sl (.ints .u8 d), .v (.int .u32 f), .v (.int .i64 a), .v (.int .i64 b), .v (.int .i64 c)], .v (.int .u64 g), .sl (.rows .u8 h)] => P.jv e d f a b c g h (fun i => K (.fr 5 (.ints .u8 i)))
 | _ => none
noncomputable def spec : Abs.Spec := fun args K => au (mo [.agg [.any, .sl (.ints .u8 []), .any, .any, .any, .any], .any, .sl (.rows .u8 [])] args) K
theorem ok0 : Proved Tryd.prog GLO.gB 86 au := by
 refine cu (D := D) (fn := Tryd.f86) (c := Tryd.f86.body.getD .skip) [.fr 5 (.ints .u8 [])] (by kernel_rfl) (aj (by kernel_rfl)) (by kernel_rfl) (by kernel_rfl) (by kernel_rfl) ⟨jq.ok, ni.ok, ab7.ok, vw.ok, ab4.ok, trivial⟩ trivial ?_ ?_
 · rw [loops]; exact trivial
 · intro args K r h
   unfold au at h
   split at h
   · rw [P.ahf] at h; exact Eq.trans (by kernel_rfl) h
   · cases h
theorem ok : Proved Tryd.prog GLO.gB 86 spec := dz _ ok0
end jv

namespace o8
abbrev X2 := P.bq2
def S2 : X2 → ASt := fun (i, j, k, g, h, a, b, c, d, e, f) => ⟨[(1, .v (.int .i64 i)), (2, .v (.int .u32 j)), (4, .sl (.ints .u8 k)), (5, .ptr 0 0), (12, .v (.int .u32 g)), (13, .v (.int .u32 h))], [(0, some ⟨.box 103 [.v (.int .i64 a), .sl (.ints .u8 b), .v (.int .u32 c), .v (.int .i64 d), .v (.int .i64 e), .v (.int .i64 f)], false⟩)], 1, 29⟩
def V2 : ASt → Option X2
 | ⟨[(1, .v (.int .i64 i)), (2, .v (.int .u32 j)), (4, .sl (.ints .u8 k)), (5, .ptr 0 0), (12, .v (.int .u32 g)), (13, .v (.int .u32 h))], [(0, some ⟨.box 103 [.v (.int .i64 a), .sl (.ints .u8 b), .v (.int .u32 c), .v (.int .i64 d), .v (.int .i64 e), .v (.int .i64 f)], false⟩)], 1, 29⟩ => some (i, j, k, g, h, a, b, c, d, e, f)
 | _ => none
theorem ax7 (st) (x) (h : V2 st = some x) : st = S2 x := by
 unfold V2 at h
 split at h
 · cases h; rfl
 · cases h
abbrev Y2 := P.bwv
def E2 (K : AExit → ASt → Option R) : Y2 → Option R := (fun x => K (.exit 0) (S2 x))
noncomputable def L2 : sj := fun st K => ad3 (V2 st) fun x => P.bwu x (E2 K)
noncomputable def D : Ctx := ({ P := Tryd.prog, G := [(86, jv.spec)], globs := GLO.gB, hints := [(2, ⟨[1, 2, 4, 5, 12, 13], [], [10], [(4, .sl (.ints .u8 []))], none, [], [], []⟩)], loops := [(2, L2)], inl := [] } : Ctx)
theorem ane (K) (next) (x) : ko D (dw Tryd.f72 2) K next (S2 x) = P.bp3 x (fun x => next (S2 x)) (E2 K) := by kernel_rfl
theorem axh : jm D (dw Tryd.f72 2) := fq S2 ax7 (by kernel_rfl) P.b0f ane
theorem loops : dh (Tryd.f72.body.getD .skip) = [dw Tryd.f72 2] := by kernel_rfl
noncomputable def au : Abs.Spec := fun args K => match args with
 | [.agg [.v (.int .i64 e), .sl (.ints .u8 d), .v (.int .u32 f), .v (.int .i64 a), .v (.int .i64 b), .v (.int .i64 c)], .v (.int .i64 g), .v (.int .u32 h), .v (.int .u32 i), .sl (.ints .u8 j)] => P.o8 e d f a b c g h i j (fun k => K (.sl (.ints .u8 k)))
 | _ => none
noncomputable def spec : Abs.Spec := fun args K => au (mo [.agg [.any, .sl (.ints .u8 []), .any, .any, .any, .any], .any, .any, .any, .sl (.ints .u8 [])] args) K
theorem ok0 : Proved Tryd.prog GLO.gB 72 au := by
 refine cu (D := D) (fn := Tryd.f72) (c := Tryd.f72.body.getD .skip) [.sl (.ints .u8 [])] (by kernel_rfl) (aj (by kernel_rfl)) (by kernel_rfl) (by kernel_rfl) (by kernel_rfl) ⟨jv.ok, trivial⟩ trivial ?_ ?_
 · rw [loops]; exact ⟨axh, trivial⟩
 · intro args K r h
   unfold au at h
   split at h
   · rw [P.afa] at h; exact Eq.trans (by kernel_rfl) h
   · cases h
theorem ok : Proved Tryd.prog GLO.gB 72 spec := dz _ ok0
end o8

namespace aa6
noncomputable def D : Ctx := ({ P := Tryd.prog, G := [], globs := GLO.gB, hints := [], loops := [], inl := [] } : Ctx)
theorem loops : dh (Tryd.f111.body.getD .skip) = [] := by kernel_rfl
noncomputable def au : Abs.Spec := fun args K => match args with
 | [.sl (.ints .u8 a), .v (.int .i64 b), .v (.int .i64 c)] => P.aa6 a b c (fun d => K (.v (.bool d)))
 | _ => none
noncomputable def spec : Abs.Spec := fun args K => au (mo [.sl (.ints .u8 []), .any, .any] args) K
theorem ok0 : Proved Tryd.prog GLO.gB 111 au := by
 refine cu (D := D) (fn := Tryd.f111) (c := Tryd.f111.body.getD .skip) [.any] (by kernel_rfl) (aj (by kernel_rfl)) (by kernel_rfl) (by kernel_rfl) (by kernel_rfl) trivial trivial ?_ ?_
 · rw [loops]; exact trivial
 · intro args K r h
   unfold au at h
   split at h
   · rw [P.aqg] at h; exact Eq.trans (by kernel_rfl) h
   · cases h
theorem ok : Proved Tryd.prog GLO.gB 111 spec := dz _ ok0
end aa6

namespace rz
abbrev X8 := P.bqp
def S8 : X8 → ASt := fun (d, e, f, g, a, b, c, h) => ⟨[(0, .sl (.ints .u8 d)), (1, .v (.int .i64 e)), (7, .own 0), (8, .v (.int .u64 f)), (9, .v (.int .i64 g)), (10, .v (.int .i64 a)), (19, .v (.int .i64 b)), (20, .v (.int .i64 c))], [(0, some ⟨.row 42 (.ints .u32 h), false⟩)], 1, 53⟩
def V8 : ASt → Option X8
 | ⟨[(0, .sl (.ints .u8 d)), (1, .v (.int .i64 e)), (7, .own 0), (8, .v (.int .u64 f)), (9, .v (.int .i64 g)), (10, .v (.int .i64 a)), (19, .v (.int .i64 b)), (20, .v (.int .i64 c))], [(0, some ⟨.row 42 (.ints .u32 h), false⟩)], 1, 53⟩ => some (d, e, f, g, a, b, c, h)
 | _ => none
theorem ayd (st) (x) (h : V8 st = some x) : st = S8 x := by
 unfold V8 at h
 split at h
 · cases h; rfl
 · cases h
abbrev Y8 := P.bun
abbrev X6 := P.brg
def S6 : X6 → ASt := fun (c, d, e, f, a, b, g) => ⟨[(0, .sl (.ints .u8 c)), (1, .v (.int .i64 d)), (7, .own 0), (8, .v (.int .u64 e)), (9, .v (.int .i64 f)), (19, .v (.int .i64 a)), (20, .v (.int .i64 b))], [(0, some ⟨.row 42 (.ints .u32 g), false⟩)], 1, 53⟩
def V6 : ASt → Option X6
 | ⟨[(0, .sl (.ints .u8 c)), (1, .v (.int .i64 d)), (7, .own 0), (8, .v (.int .u64 e)), (9, .v (.int .i64 f)), (19, .v (.int .i64 a)), (20, .v (.int .i64 b))], [(0, some ⟨.row 42 (.ints .u32 g), false⟩)], 1, 53⟩ => some (c, d, e, f, a, b, g)
 | _ => none
theorem bmp (st) (x) (h : V6 st = some x) : st = S6 x := by
 unfold V6 at h
 split at h
 · cases h; rfl
 · cases h
abbrev Y6 := P.bxc
def E8 (K : AExit → ASt → Option R) : Y8 → Option R := (fun x => K (.exit 2) (S8 x))
noncomputable def L8 : sj := fun st K => ad3 (V8 st) fun x => P.bty x (E8 K)
def E6 (K : AExit → ASt → Option R) : Y6 → Option R := (fun x => K (.exit 0) (S6 x))
noncomputable def L6 : sj := fun st K => ad3 (V6 st) fun x => P.bw3 x (E6 K)
noncomputable def D : Ctx := ({ P := Tryd.prog, G := [(111, aa6.spec)], globs := GLO.gB, hints := [(8, ⟨[0, 1, 7, 8, 9, 10, 19, 20], [], [6], [(0, .sl (.ints .u8 []))], none, [], [], []⟩), (6, ⟨[0, 1, 7, 8, 9, 19, 20], [], [6], [(0, .sl (.ints .u8 []))], none, [], [], []⟩)], loops := [(8, L8), (6, L6)], inl := [] } : Ctx)
theorem amj (K) (next) (x) : ko D (dw Tryd.f102 8) K next (S8 x) = P.brp x (fun x => next (S8 x)) (E8 K) := by kernel_rfl
theorem axb : jm D (dw Tryd.f102 8) := fq S8 ayd (by kernel_rfl) P.bzx amj
theorem bil (K) (next) (x) : ko D (dw Tryd.f102 6) K next (S6 x) = P.bre x (fun x => next (S6 x)) (E6 K) := by kernel_rfl
theorem bnp : jm D (dw Tryd.f102 6) := fq S6 bmp (by kernel_rfl) P.bzr bil
theorem loops : dh (Tryd.f102.body.getD .skip) = [dw Tryd.f102 6, dw Tryd.f102 8] := by kernel_rfl
noncomputable def au : Abs.Spec := fun args K => match args with
 | [.sl (.ints .u8 a), .v (.int .i64 b), .v (.int .i64 c)] => P.rz a b c (fun d => K (.fr 42 (.ints .u32 d)))
 | _ => none
noncomputable def spec : Abs.Spec := fun args K => au (mo [.sl (.ints .u8 []), .any, .any] args) K
theorem ok0 : Proved Tryd.prog GLO.gB 102 au := by
 refine cu (D := D) (fn := Tryd.f102) (c := Tryd.f102.body.getD .skip) [.fr 42 (.ints .u32 [])] (by kernel_rfl) (aj (by kernel_rfl)) (by kernel_rfl) (by kernel_rfl) (by kernel_rfl) ⟨aa6.ok, trivial⟩ trivial ?_ ?_
 · rw [loops]; exact ⟨bnp, axb, trivial⟩
 · intro args K r h
   unfold au at h
   split at h
   · rw [P.akt] at h; exact Eq.trans (by kernel_rfl) h
   · cases h
theorem ok : Proved Tryd.prog GLO.gB 102 spec := dz _ ok0
end rz

end
