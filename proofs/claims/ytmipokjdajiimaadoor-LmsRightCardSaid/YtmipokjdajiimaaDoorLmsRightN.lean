/-
  LmsRight, part 14: an interpreter of my own over abstract values, the pure functions, the walks and the plain law.
-/

import Derived.Test.YtmipokjdajiimaaDoorLmsRightK
import Derived.Test.YtmipokjdajiimaaDoorLmsRightH
import Derived.Test.YtmipokjdajiimaaDoorProg
import Derived.Test.YtmipokjdajiimaaDoorLmsRightJ
import Derived.Test.YtmipokjdajiimaaDoorLmsRightM
import Derived.Test.YtmipokjdajiimaaDoorLmsRightL
import Derived.KernelRfl
import Derived.Test.YtmipokjdajiimaaDoorLmsRightI

section
open Go Go.Abs Go.Proofs
set_option maxRecDepth 100000
set_option maxHeartbeats 0
set_option linter.unusedVariables false

namespace mh
abbrev X3 := P.bio
def S3 : X3 → ASt := fun (l, j, k, a, b, c, d, e, f, g, h, i) => ⟨[(2, .sl (.ints .u8 l)), (3, .ptr 0 0), (4, .ptr 1 0), (6, .ptr 2 0), (8, .ptr 3 0), (14, .arr .u64 8 j), (15, .v (.int .i64 k))], [(0, some ⟨.box 147 [.v (.int .i64 a), .v (.int .i64 b), .arr .i64 3 c, .arr .i64 3 d, .arr .i64 3 e, .arr .i64 3 f, .fn (.func 110) [] []], false⟩), (1, some ⟨.box 123 [.arr .u64 8 g], false⟩), (2, some ⟨.box 123 [.arr .u64 8 h], false⟩), (3, some ⟨.box 123 [.arr .u64 8 i], false⟩)], 4, 50⟩
def V3 : ASt → Option X3
 | ⟨[(2, .sl (.ints .u8 l)), (3, .ptr 0 0), (4, .ptr 1 0), (6, .ptr 2 0), (8, .ptr 3 0), (14, .arr .u64 8 j), (15, .v (.int .i64 k))], [(0, some ⟨.box 147 [.v (.int .i64 a), .v (.int .i64 b), .arr .i64 3 c, .arr .i64 3 d, .arr .i64 3 e, .arr .i64 3 f, .fn (.func 110) [] []], false⟩), (1, some ⟨.box 123 [.arr .u64 8 g], false⟩), (2, some ⟨.box 123 [.arr .u64 8 h], false⟩), (3, some ⟨.box 123 [.arr .u64 8 i], false⟩)], 4, 50⟩ => some (l, j, k, a, b, c, d, e, f, g, h, i)
 | _ => none
theorem avd (st) (x) (h : V3 st = some x) : st = S3 x := by
 unfold V3 at h
 split at h
 · cases h; rfl
 · cases h
abbrev Y3 := P.bm9
abbrev X8 := P.bjv
def S8 : X8 → ASt := fun (k, j, a, b, c, d, e, f, g, h, i) => ⟨[(2, .sl (.ints .u8 k)), (3, .ptr 0 0), (4, .ptr 1 0), (6, .ptr 2 0), (8, .ptr 3 0), (11, .v (.int .i64 j))], [(3, some ⟨.box 123 [.arr .u64 8 a], false⟩), (2, some ⟨.box 123 [.arr .u64 8 b], false⟩), (1, some ⟨.box 123 [.arr .u64 8 c], false⟩), (0, some ⟨.box 147 [.v (.int .i64 d), .v (.int .i64 e), .arr .i64 3 f, .arr .i64 3 g, .arr .i64 3 h, .arr .i64 3 i, .fn (.func 110) [] []], false⟩)], 4, 50⟩
def V8 : ASt → Option X8
 | ⟨[(2, .sl (.ints .u8 k)), (3, .ptr 0 0), (4, .ptr 1 0), (6, .ptr 2 0), (8, .ptr 3 0), (11, .v (.int .i64 j))], [(3, some ⟨.box 123 [.arr .u64 8 a], false⟩), (2, some ⟨.box 123 [.arr .u64 8 b], false⟩), (1, some ⟨.box 123 [.arr .u64 8 c], false⟩), (0, some ⟨.box 147 [.v (.int .i64 d), .v (.int .i64 e), .arr .i64 3 f, .arr .i64 3 g, .arr .i64 3 h, .arr .i64 3 i, .fn (.func 110) [] []], false⟩)], 4, 50⟩ => some (k, j, a, b, c, d, e, f, g, h, i)
 | _ => none
theorem azm (st) (x) (h : V8 st = some x) : st = S8 x := by
 unfold V8 at h
 split at h
 · cases h; rfl
 · cases h
abbrev Y8 := P.bma
abbrev X12 := P.bjo
def S12 : X12 → ASt := fun (e, c, d, a, b) => ⟨[(2, .sl (.ints .u8 e)), (4, .ptr 1 0), (6, .ptr 2 0), (39, .arr .u64 8 c), (40, .v (.int .i64 d))], [(1, some ⟨.box 123 [.arr .u64 8 a], false⟩), (2, some ⟨.box 123 [.arr .u64 8 b], false⟩)], 120, 50⟩
def V12 : ASt → Option X12
 | ⟨[(2, .sl (.ints .u8 e)), (4, .ptr 1 0), (6, .ptr 2 0), (39, .arr .u64 8 c), (40, .v (.int .i64 d))], [(1, some ⟨.box 123 [.arr .u64 8 a], false⟩), (2, some ⟨.box 123 [.arr .u64 8 b], false⟩)], 120, 50⟩ => some (e, c, d, a, b)
 | _ => none
theorem azv (st) (x) (h : V12 st = some x) : st = S12 x := by
 unfold V12 at h
 split at h
 · cases h; rfl
 · cases h
abbrev Y12 := P.blq
def E3 (K : AExit → ASt → Option R) : Y3 → Option R := (fun x => K (.exit 0) (S3 x))
noncomputable def L3 : aat := fun st K => ahy (V3 st) fun x => P.blr x (E3 K)
def E8 (K : AExit → ASt → Option R) : Y8 → Option R := (fun x => K (.exit 2) (S8 x))
noncomputable def L8 : aat := fun st K => ahy (V8 st) fun x => P.bmi x (E8 K)
def E12 (K : AExit → ASt → Option R) : Y12 → Option R := (fun x => K (.exit 4) (S12 x))
noncomputable def L12 : aat := fun st K => ahy (V12 st) fun x => P.bnq x (E12 K)
noncomputable def D : Ctx := ({ P := Tryd.prog, G := [(109, jm.spec), (110, l7.spec)], globs := GLO.gB, hints := [(12, ⟨[2, 4, 6, 39, 40], [], [6, 7], [], some (120, [1, 2]), [], [], []⟩), (8, ⟨[2, 3, 4, 6, 8, 11], [], [6, 7], [(2, .sl (.ints .u8 []))], none, [], [], []⟩), (3, ⟨[2, 3, 4, 6, 8, 14, 15], [], [6, 7], [], none, [], [], []⟩)], loops := [(3, L3), (8, L8), (12, L12)], inl := [] } : Ctx)
theorem an8 (K) (next) (x) : qw D (eu Tryd.f98 3) K next (S3 x) = P.bhw x (fun x => next (S3 x)) (E3 K) := by kernel_rfl
theorem awn : oh D (eu Tryd.f98 3) := jv S3 avd (by kernel_rfl) P.bn9 an8
theorem atc (K) (next) (x) : qw D (eu Tryd.f98 8) K next (S8 x) = P.bja x (fun x => next (S8 x)) (E8 K) := by kernel_rfl
theorem baj : oh D (eu Tryd.f98 8) := jv S8 azm (by kernel_rfl) P.boq atc
theorem avo (K) (next) (x) : qw D (eu Tryd.f98 12) K next (S12 x) = P.bhq x (fun x => next (S12 x)) (E12 K) := by kernel_rfl
theorem az7 : oh D (eu Tryd.f98 12) := jv S12 azv (by kernel_rfl) P.bon avo
theorem loops : bg (Tryd.f98.body.getD .skip) = [eu Tryd.f98 3, eu Tryd.f98 8, eu Tryd.f98 12] := by kernel_rfl
noncomputable def av : Abs.Spec := fun args K => match args with
 | [.agg [.v (.int .i64 f), .v (.int .i64 e), .arr .i64 3 a, .arr .i64 3 b, .arr .i64 3 c, .arr .i64 3 d, .fn (.func 110) [] []], .arr .u64 8 g, .sl (.ints .u8 h)] => P.mh f e a b c d g h (fun i j => K (.tuple [.arr .u64 8 i, .sl (.ints .u8 j)]))
 | _ => none
noncomputable def spec : Abs.Spec := fun args K => av (qb [.any, .any, .sl (.ints .u8 [])] args) K
theorem ok0 : Proved Tryd.prog GLO.gB 98 av := by
 refine cu (D := D) (fn := Tryd.f98) (c := Tryd.f98.body.getD .skip) [.any, .sl (.ints .u8 [])] (by kernel_rfl) (ah (by kernel_rfl)) (by kernel_rfl) (by kernel_rfl) (by kernel_rfl) ⟨jm.ok, l7.ok, trivial⟩ trivial ?_ ?_
 · rw [loops]; exact ⟨awn, baj, az7, trivial⟩
 · intro args K r h
   unfold av at h
   split at h
   · rw [P.adf] at h; exact Eq.trans (by kernel_rfl) h
   · cases h
theorem ok : Proved Tryd.prog GLO.gB 98 spec := dz _ ok0
end mh

namespace l9
noncomputable def D : Ctx := { P := Tryd.prog, G := [], globs := GLO.gB, hints := [], loops := [] }
noncomputable def c : Code := Tryd.f100.body.getD .skip
noncomputable def o0 : Oper := (axu (sq1 c)).getD 0 axf
noncomputable def o1 : Oper := (axu (sq1 (sq1 (sq2 c)))).getD 0 axf
noncomputable def o2 : Oper := (axu (sq1 (sq1 (sq2 c)))).getD 1 axf
noncomputable def X : Code := bl2 (sq2 (sq1 (sq2 c)))
noncomputable def rest : Code := sq2 (sq2 c)
noncomputable def ox : Oper := (axu (sq1 X)).getD 0 axf
theorem bfr (a : List Int) : ab5 D rest ⟨[(0, .sl (.ints .u8 a)), (2, .v (.slice none 0 0))], [], 0, Tryd.f100.ntmps⟩ (bor D [.fr 5 (.ints .u8 a)] Tryd.f100) = br (decide ((0 + a.length) * 1 ≤ 140737488355328)) (some (.fr 5 (.ints .u8 a))) none := by kernel_rfl
noncomputable def av : Abs.Spec := fun args K => match args with
  | [.sl (.ints .u8 a)] => P.l9 a (fun a => K (.fr 5 (.ints .u8 a)))
  | _ => none
theorem bfz : Tryd.f100.body = some (.seq (.region 0 #[o0] false) (.seq (.seq (.region 1 #[o1, o2] false) (.cond (.tmp 4) X .skip)) rest)) := by kernel_rfl
theorem ok0 : Proved Tryd.prog GLO.gB 100 av := by
  refine ⟨⟨Tryd.f100, by kernel_rfl, by kernel_rfl, by kernel_rfl⟩, fun args K r h => ?_⟩
  unfold av at h
  split at h
  · rename_i a
    unfold P.l9 at h
    obtain ⟨hp, hK⟩ := pre_some h
    refine ⟨_, hK, bej (D := D) (fn := Tryd.f100) (t := 23) (e := 5) trivial (ah (by kernel_rfl)) trivial (by kernel_rfl) (by kernel_rfl) bfz ⟨by kernel_rfl, by kernel_rfl, by kernel_rfl⟩ ⟨by kernel_rfl, by kernel_rfl, by kernel_rfl⟩ ⟨by kernel_rfl, by kernel_rfl, by kernel_rfl⟩ (by kernel_rfl) (by decide +kernel) (by kernel_rfl) (by kernel_rfl) ⟨2, ox, by kernel_rfl, by kernel_rfl, by kernel_rfl, by kernel_rfl⟩ (by kernel_rfl) rfl rfl rfl ?_⟩
    rw [bfr, au (by omega)]
  · cases h
noncomputable def spec : Abs.Spec := fun args K => av (qb [.sl (.ints .u8 [])] args) K
theorem ok : Proved Tryd.prog GLO.gB 100 spec := dz _ ok0
end l9

namespace uf
noncomputable def D : Ctx := ({ P := Tryd.prog, G := [(62, gu.spec), (96, mq.spec), (97, aan.spec), (98, mh.spec), (99, aas.spec), (100, l9.spec)], globs := GLO.gB, hints := [], loops := [], inl := [] } : Ctx)
theorem loops : bg (Tryd.f88.body.getD .skip) = [] := by kernel_rfl
noncomputable def av : Abs.Spec := fun args K => match args with
 | [.agg [.v (.int .i64 c), .arr .u64 8 a, .sl (.ints .u8 d), .v (.int .u64 e)], .sl (.ints .u8 i)] => P.uf c a d e i (fun f b g h => K (.agg [.v (.int .i64 f), .arr .u64 8 b, .fr 5 (.ints .u8 g), .v (.int .u64 h)]))
 | _ => none
noncomputable def spec : Abs.Spec := fun args K => av (qb [.agg [.any, .any, .sl (.ints .u8 []), .any], .sl (.ints .u8 [])] args) K
theorem ok0 : Proved Tryd.prog GLO.gB 88 av := by
 refine cu (D := D) (fn := Tryd.f88) (c := Tryd.f88.body.getD .skip) [.agg [.any, .any, .fr 5 (.ints .u8 []), .any]] (by kernel_rfl) (ah (by kernel_rfl)) (by kernel_rfl) (by kernel_rfl) (by kernel_rfl) ⟨gu.ok, mq.ok, aan.ok, mh.ok, aas.ok, l9.ok, trivial⟩ trivial ?_ ?_
 · rw [loops]; exact trivial
 · intro args K r h
   unfold av at h
   split at h
   · rw [P.aps] at h; exact Eq.trans (by kernel_rfl) h
   · cases h
theorem ok : Proved Tryd.prog GLO.gB 88 spec := dz _ ok0
end uf

namespace oq
noncomputable def D : Ctx := ({ P := Tryd.prog, G := [], globs := GLO.gB, hints := [], loops := [], inl := [] } : Ctx)
theorem loops : bg (Tryd.f101.body.getD .skip) = [] := by kernel_rfl
noncomputable def av : Abs.Spec := fun args K => match args with
 | [.v (.int .i64 a)] => P.oq a (fun b => K (.v (.int .i64 b)))
 | _ => none
noncomputable def spec : Abs.Spec := av
theorem ok0 : Proved Tryd.prog GLO.gB 101 av := by
 refine cu (D := D) (fn := Tryd.f101) (c := Tryd.f101.body.getD .skip) [.any] (by kernel_rfl) (ah (by kernel_rfl)) (by kernel_rfl) (by kernel_rfl) (by kernel_rfl) trivial trivial ?_ ?_
 · rw [loops]; exact trivial
 · intro args K r h
   unfold av at h
   split at h
   · rw [P.agm] at h; exact Eq.trans (by kernel_rfl) h
   · cases h
theorem ok : Proved Tryd.prog GLO.gB 101 spec := ok0
end oq

namespace abo
abbrev X10 := P.bjq
def S10 : X10 → ASt := fun (g, d, e, f, a, b, c, h) => ⟨[(7, .own 40), (1, .ptr 0 0), (3, .v (.int .i64 g)), (45, .arr .u64 8 d), (46, .v (.int .i64 e))], [(40, some ⟨.row 5 (.ints .u8 f), false⟩), (0, some ⟨.box 125 [.v (.int .i64 a), .arr .u64 8 b, .own 5, .v (.int .u64 c)], false⟩), (5, some ⟨.row 5 (.ints .u8 h), false⟩)], 41, 62⟩
def V10 : ASt → Option X10
 | ⟨[(7, .own 40), (1, .ptr 0 0), (3, .v (.int .i64 g)), (45, .arr .u64 8 d), (46, .v (.int .i64 e))], [(40, some ⟨.row 5 (.ints .u8 f), false⟩), (0, some ⟨.box 125 [.v (.int .i64 a), .arr .u64 8 b, .own 5, .v (.int .u64 c)], false⟩), (5, some ⟨.row 5 (.ints .u8 h), false⟩)], 41, 62⟩ => some (g, d, e, f, a, b, c, h)
 | _ => none
theorem as2 (st) (x) (h : V10 st = some x) : st = S10 x := by
 unfold V10 at h
 split at h
 · cases h; rfl
 · cases h
abbrev Y10 := P.blw
def E10 (K : AExit → ASt → Option R) : Y10 → Option R := (fun x => K (.exit 0) (S10 x))
noncomputable def L10 : aat := fun st K => ahy (V10 st) fun x => P.bk5 x (E10 K)
noncomputable def D : Ctx := ({ P := Tryd.prog, G := [(38, jg.spec), (88, uf.spec), (101, oq.spec)], globs := GLO.gB, hints := [(10, ⟨[1, 3, 45, 46], [(7, 5, .ints .u8 [])], [2], [], some (40, [0, 5]), [], [], []⟩)], loops := [(10, L10)], inl := [] } : Ctx)
theorem anb (K) (next) (x) : qw D (eu Tryd.f89 10) K next (S10 x) = P.bic x (fun x => next (S10 x)) (E10 K) := by kernel_rfl
theorem asy : oh D (eu Tryd.f89 10) := jv S10 as2 (by kernel_rfl) P.bn2 anb
theorem loops : bg (Tryd.f89.body.getD .skip) = [eu Tryd.f89 10] := by kernel_rfl
noncomputable def av : Abs.Spec := fun args K => match args with
 | [.agg [.v (.int .i64 b), .arr .u64 8 a, .sl (.ints .u8 c), .v (.int .u64 d)]] => P.abo b a c d (fun e => K (.fr 5 (.ints .u8 e)))
 | _ => none
noncomputable def spec : Abs.Spec := fun args K => av (qb [.agg [.any, .any, .sl (.ints .u8 []), .any]] args) K
theorem ok0 : Proved Tryd.prog GLO.gB 89 av := by
 refine apu (D := D) (fn := Tryd.f89) (c := Tryd.f89.body.getD .skip) 5 (.ints .u8 []) (by kernel_rfl) (ah (by kernel_rfl)) (by kernel_rfl) (by kernel_rfl) (by kernel_rfl) ⟨jg.ok, uf.ok, oq.ok, trivial⟩ trivial ?_ ?_
 · rw [loops]; exact ⟨asy, trivial⟩
 · intro args K r h
   unfold av at h
   split at h
   · rw [P.aqt] at h; exact Eq.trans (by kernel_rfl) h
   · cases h
theorem ok : Proved Tryd.prog GLO.gB 89 spec := dz _ ok0
end abo

namespace ab3
noncomputable def D : Ctx := ({ P := Tryd.prog, G := [], globs := GLO.gB, hints := [], loops := [], inl := [] } : Ctx)
theorem loops : bg (Tryd.f95.body.getD .skip) = [] := by kernel_rfl
noncomputable def av : Abs.Spec := fun args K => match args with
 | [.v (.int .i64 a)] => P.ab3 a (fun b c => K (.tuple [.arr .u64 8 b, .v (.bool c)]))
 | _ => none
noncomputable def spec : Abs.Spec := av
theorem ok0 : Proved Tryd.prog GLO.gB 95 av := by
 refine cu (D := D) (fn := Tryd.f95) (c := Tryd.f95.body.getD .skip) [.any, .any] (by kernel_rfl) (ah (by kernel_rfl)) (by kernel_rfl) (by kernel_rfl) (by kernel_rfl) trivial trivial ?_ ?_
 · rw [loops]; exact trivial
 · intro args K r h
   unfold av at h
   split at h
   · rw [P.al5] at h; exact Eq.trans (by kernel_rfl) h
   · cases h
theorem ok : Proved Tryd.prog GLO.gB 95 spec := ok0
end ab3

namespace abj
noncomputable def D : Ctx := ({ P := Tryd.prog, G := [(95, ab3.spec)], globs := GLO.gB, hints := [], loops := [], inl := [] } : Ctx)
theorem loops : bg (Tryd.f87.body.getD .skip) = [] := by kernel_rfl
noncomputable def av : Abs.Spec := fun args K => match args with
 | [.v (.int .i64 e)] => P.abj e (fun b a c d f => K (.tuple [.agg [.v (.int .i64 b), .arr .u64 8 a, .fr 5 (.ints .u8 c), .v (.int .u64 d)], .v (.int .i64 f)]))
 | _ => none
noncomputable def spec : Abs.Spec := av
theorem ok0 : Proved Tryd.prog GLO.gB 87 av := by
 refine cu (D := D) (fn := Tryd.f87) (c := Tryd.f87.body.getD .skip) [.agg [.any, .any, .fr 5 (.ints .u8 []), .any], .any] (by kernel_rfl) (ah (by kernel_rfl)) (by kernel_rfl) (by kernel_rfl) (by kernel_rfl) ⟨ab3.ok, trivial⟩ trivial ?_ ?_
 · rw [loops]; exact trivial
 · intro args K r h
   unfold av at h
   split at h
   · rw [P.aqf] at h; exact Eq.trans (by kernel_rfl) h
   · cases h
theorem ok : Proved Tryd.prog GLO.gB 87 spec := ok0
end abj

namespace gq
noncomputable def D : Ctx := ({ P := Tryd.prog, G := [(37, d9.spec), (38, jg.spec), (87, abj.spec), (88, uf.spec), (89, abo.spec)], globs := GLO.gB, hints := [], loops := [], inl := [] } : Ctx)
theorem loops : bg (Tryd.f86.body.getD .skip) = [] := by kernel_rfl
noncomputable def av : Abs.Spec := fun args K => match args with
 | [.agg [.v (.int .i64 e), .sl (.ints .u8 d), .v (.int .u32 f), .v (.int .i64 a), .v (.int .i64 b), .v (.int .i64 c)], .v (.int .u64 g), .sl (.rows .u8 h)] => P.gq e d f a b c g h (fun i => K (.fr 5 (.ints .u8 i)))
 | _ => none
noncomputable def spec : Abs.Spec := fun args K => av (qb [.agg [.any, .sl (.ints .u8 []), .any, .any, .any, .any], .any, .sl (.rows .u8 [])] args) K
theorem ok0 : Proved Tryd.prog GLO.gB 86 av := by
 refine cu (D := D) (fn := Tryd.f86) (c := Tryd.f86.body.getD .skip) [.fr 5 (.ints .u8 [])] (by kernel_rfl) (ah (by kernel_rfl)) (by kernel_rfl) (by kernel_rfl) (by kernel_rfl) ⟨d9.ok, jg.ok, abj.ok, uf.ok, abo.ok, trivial⟩ trivial ?_ ?_
 · rw [loops]; exact trivial
 · intro args K r h
   unfold av at h
   split at h
   · rw [P.afq] at h; exact Eq.trans (by kernel_rfl) h
   · cases h
theorem ok : Proved Tryd.prog GLO.gB 86 spec := dz _ ok0
end gq

namespace ji
abbrev X2 := P.bh9
def S2 : X2 → ASt := fun (i, j, k, g, h, a, b, c, d, e, f) => ⟨[(1, .v (.int .i64 i)), (2, .v (.int .u32 j)), (4, .sl (.ints .u8 k)), (5, .ptr 0 0), (12, .v (.int .u32 g)), (13, .v (.int .u32 h))], [(0, some ⟨.box 103 [.v (.int .i64 a), .sl (.ints .u8 b), .v (.int .u32 c), .v (.int .i64 d), .v (.int .i64 e), .v (.int .i64 f)], false⟩)], 1, 29⟩
def V2 : ASt → Option X2
 | ⟨[(1, .v (.int .i64 i)), (2, .v (.int .u32 j)), (4, .sl (.ints .u8 k)), (5, .ptr 0 0), (12, .v (.int .u32 g)), (13, .v (.int .u32 h))], [(0, some ⟨.box 103 [.v (.int .i64 a), .sl (.ints .u8 b), .v (.int .u32 c), .v (.int .i64 d), .v (.int .i64 e), .v (.int .i64 f)], false⟩)], 1, 29⟩ => some (i, j, k, g, h, a, b, c, d, e, f)
 | _ => none
theorem bgc (st) (x) (h : V2 st = some x) : st = S2 x := by
 unfold V2 at h
 split at h
 · cases h; rfl
 · cases h
abbrev Y2 := P.bnn
def E2 (K : AExit → ASt → Option R) : Y2 → Option R := (fun x => K (.exit 0) (S2 x))
noncomputable def L2 : aat := fun st K => ahy (V2 st) fun x => P.bm3 x (E2 K)
noncomputable def D : Ctx := ({ P := Tryd.prog, G := [(86, gq.spec)], globs := GLO.gB, hints := [(2, ⟨[1, 2, 4, 5, 12, 13], [], [10], [(4, .sl (.ints .u8 []))], none, [], [], []⟩)], loops := [(2, L2)], inl := [] } : Ctx)
theorem azz (K) (next) (x) : qw D (eu Tryd.f72 2) K next (S2 x) = P.bjc x (fun x => next (S2 x)) (E2 K) := by kernel_rfl
theorem bg1 : oh D (eu Tryd.f72 2) := jv S2 bgc (by kernel_rfl) P.bof azz
theorem loops : bg (Tryd.f72.body.getD .skip) = [eu Tryd.f72 2] := by kernel_rfl
noncomputable def av : Abs.Spec := fun args K => match args with
 | [.agg [.v (.int .i64 e), .sl (.ints .u8 d), .v (.int .u32 f), .v (.int .i64 a), .v (.int .i64 b), .v (.int .i64 c)], .v (.int .i64 g), .v (.int .u32 h), .v (.int .u32 i), .sl (.ints .u8 j)] => P.ji e d f a b c g h i j (fun k => K (.sl (.ints .u8 k)))
 | _ => none
noncomputable def spec : Abs.Spec := fun args K => av (qb [.agg [.any, .sl (.ints .u8 []), .any, .any, .any, .any], .any, .any, .any, .sl (.ints .u8 [])] args) K
theorem ok0 : Proved Tryd.prog GLO.gB 72 av := by
 refine cu (D := D) (fn := Tryd.f72) (c := Tryd.f72.body.getD .skip) [.sl (.ints .u8 [])] (by kernel_rfl) (ah (by kernel_rfl)) (by kernel_rfl) (by kernel_rfl) (by kernel_rfl) ⟨gq.ok, trivial⟩ trivial ?_ ?_
 · rw [loops]; exact ⟨bg1, trivial⟩
 · intro args K r h
   unfold av at h
   split at h
   · rw [P.aek] at h; exact Eq.trans (by kernel_rfl) h
   · cases h
theorem ok : Proved Tryd.prog GLO.gB 72 spec := dz _ ok0
end ji

namespace aaf
noncomputable def D : Ctx := ({ P := Tryd.prog, G := [], globs := GLO.gB, hints := [], loops := [], inl := [] } : Ctx)
theorem loops : bg (Tryd.f111.body.getD .skip) = [] := by kernel_rfl
noncomputable def av : Abs.Spec := fun args K => match args with
 | [.sl (.ints .u8 a), .v (.int .i64 b), .v (.int .i64 c)] => P.aaf a b c (fun d => K (.v (.bool d)))
 | _ => none
noncomputable def spec : Abs.Spec := fun args K => av (qb [.sl (.ints .u8 []), .any, .any] args) K
theorem ok0 : Proved Tryd.prog GLO.gB 111 av := by
 refine cu (D := D) (fn := Tryd.f111) (c := Tryd.f111.body.getD .skip) [.any] (by kernel_rfl) (ah (by kernel_rfl)) (by kernel_rfl) (by kernel_rfl) (by kernel_rfl) trivial trivial ?_ ?_
 · rw [loops]; exact trivial
 · intro args K r h
   unfold av at h
   split at h
   · rw [P.alz] at h; exact Eq.trans (by kernel_rfl) h
   · cases h
theorem ok : Proved Tryd.prog GLO.gB 111 spec := dz _ ok0
end aaf

namespace qd
abbrev X8 := P.bh4
def S8 : X8 → ASt := fun (d, e, f, g, a, b, c, h) => ⟨[(0, .sl (.ints .u8 d)), (1, .v (.int .i64 e)), (7, .own 0), (8, .v (.int .u64 f)), (9, .v (.int .i64 g)), (10, .v (.int .i64 a)), (19, .v (.int .i64 b)), (20, .v (.int .i64 c))], [(0, some ⟨.row 42 (.ints .u32 h), false⟩)], 1, 53⟩
def V8 : ASt → Option X8
 | ⟨[(0, .sl (.ints .u8 d)), (1, .v (.int .i64 e)), (7, .own 0), (8, .v (.int .u64 f)), (9, .v (.int .i64 g)), (10, .v (.int .i64 a)), (19, .v (.int .i64 b)), (20, .v (.int .i64 c))], [(0, some ⟨.row 42 (.ints .u32 h), false⟩)], 1, 53⟩ => some (d, e, f, g, a, b, c, h)
 | _ => none
theorem azm (st) (x) (h : V8 st = some x) : st = S8 x := by
 unfold V8 at h
 split at h
 · cases h; rfl
 · cases h
abbrev Y8 := P.bmx
abbrev X6 := P.bi1
def S6 : X6 → ASt := fun (c, d, e, f, a, b, g) => ⟨[(0, .sl (.ints .u8 c)), (1, .v (.int .i64 d)), (7, .own 0), (8, .v (.int .u64 e)), (9, .v (.int .i64 f)), (19, .v (.int .i64 a)), (20, .v (.int .i64 b))], [(0, some ⟨.row 42 (.ints .u32 g), false⟩)], 1, 53⟩
def V6 : ASt → Option X6
 | ⟨[(0, .sl (.ints .u8 c)), (1, .v (.int .i64 d)), (7, .own 0), (8, .v (.int .u64 e)), (9, .v (.int .i64 f)), (19, .v (.int .i64 a)), (20, .v (.int .i64 b))], [(0, some ⟨.row 42 (.ints .u32 g), false⟩)], 1, 53⟩ => some (c, d, e, f, a, b, g)
 | _ => none
theorem bfm (st) (x) (h : V6 st = some x) : st = S6 x := by
 unfold V6 at h
 split at h
 · cases h; rfl
 · cases h
abbrev Y6 := P.bl8
def E8 (K : AExit → ASt → Option R) : Y8 → Option R := (fun x => K (.exit 2) (S8 x))
noncomputable def L8 : aat := fun st K => ahy (V8 st) fun x => P.bly x (E8 K)
def E6 (K : AExit → ASt → Option R) : Y6 → Option R := (fun x => K (.exit 0) (S6 x))
noncomputable def L6 : aat := fun st K => ahy (V6 st) fun x => P.bmd x (E6 K)
noncomputable def D : Ctx := ({ P := Tryd.prog, G := [(111, aaf.spec)], globs := GLO.gB, hints := [(8, ⟨[0, 1, 7, 8, 9, 10, 19, 20], [], [6], [(0, .sl (.ints .u8 []))], none, [], [], []⟩), (6, ⟨[0, 1, 7, 8, 9, 19, 20], [], [6], [(0, .sl (.ints .u8 []))], none, [], [], []⟩)], loops := [(8, L8), (6, L6)], inl := [] } : Ctx)
theorem atc (K) (next) (x) : qw D (eu Tryd.f102 8) K next (S8 x) = P.bji x (fun x => next (S8 x)) (E8 K) := by kernel_rfl
theorem baj : oh D (eu Tryd.f102 8) := jv S8 azm (by kernel_rfl) P.bn6 atc
theorem bbw (K) (next) (x) : qw D (eu Tryd.f102 6) K next (S6 x) = P.bi8 x (fun x => next (S6 x)) (E6 K) := by kernel_rfl
theorem bfw : oh D (eu Tryd.f102 6) := jv S6 bfm (by kernel_rfl) P.bov bbw
theorem loops : bg (Tryd.f102.body.getD .skip) = [eu Tryd.f102 6, eu Tryd.f102 8] := by kernel_rfl
noncomputable def av : Abs.Spec := fun args K => match args with
 | [.sl (.ints .u8 a), .v (.int .i64 b), .v (.int .i64 c)] => P.qd a b c (fun d => K (.fr 42 (.ints .u32 d)))
 | _ => none
noncomputable def spec : Abs.Spec := fun args K => av (qb [.sl (.ints .u8 []), .any, .any] args) K
theorem ok0 : Proved Tryd.prog GLO.gB 102 av := by
 refine cu (D := D) (fn := Tryd.f102) (c := Tryd.f102.body.getD .skip) [.fr 42 (.ints .u32 [])] (by kernel_rfl) (ah (by kernel_rfl)) (by kernel_rfl) (by kernel_rfl) (by kernel_rfl) ⟨aaf.ok, trivial⟩ trivial ?_ ?_
 · rw [loops]; exact ⟨bfw, baj, trivial⟩
 · intro args K r h
   unfold av at h
   split at h
   · rw [P.ah1] at h; exact Eq.trans (by kernel_rfl) h
   · cases h
theorem ok : Proved Tryd.prog GLO.gB 102 spec := dz _ ok0
end qd

namespace vk
abbrev X9 := P.bik
def S9 : X9 → ASt := fun (f, g, d, e, a, b, c, h) => ⟨[(0, .v (.int .i64 f)), (6, .ptr 0 0), (8, .own 1), (9, .v (.int .u64 g)), (36, .own 1), (37, .v (.int .i64 d)), (38, .v (.int .i64 e))], [(0, some ⟨.box 101 [.v (.int .i64 a), .v (.int .i64 b), .v (.int .i64 c)], false⟩), (1, some ⟨.row 42 (.ints .u32 h), false⟩)], 2, 61⟩
def V9 : ASt → Option X9
 | ⟨[(0, .v (.int .i64 f)), (6, .ptr 0 0), (8, .own 1), (9, .v (.int .u64 g)), (36, .own 1), (37, .v (.int .i64 d)), (38, .v (.int .i64 e))], [(0, some ⟨.box 101 [.v (.int .i64 a), .v (.int .i64 b), .v (.int .i64 c)], false⟩), (1, some ⟨.row 42 (.ints .u32 h), false⟩)], 2, 61⟩ => some (f, g, d, e, a, b, c, h)
 | _ => none
theorem bf0 (st) (x) (h : V9 st = some x) : st = S9 x := by
 unfold V9 at h
 split at h
 · cases h; rfl
 · cases h
abbrev Y9 := P.bmc
def E9 (K : AExit → ASt → Option R) : Y9 → Option R := (fun x => K (.exit 1) (S9 x))
noncomputable def L9 : aat := fun st K => ahy (V9 st) fun x => P.bmw x (E9 K)
noncomputable def D : Ctx := ({ P := Tryd.prog, G := [(38, jg.spec), (74, lu.spec), (102, qd.spec)], globs := GLO.gB, hints := [(9, ⟨[0, 6, 8, 9, 36, 37, 38], [], [4, 5], [], none, [], [], []⟩)], loops := [(9, L9)], inl := [] } : Ctx)
theorem azi (K) (next) (x) : qw D (eu Tryd.f91 9) K next (S9 x) = P.bi2 x (fun x => next (S9 x)) (E9 K) := by kernel_rfl
theorem bgu : oh D (eu Tryd.f91 9) := jv S9 bf0 (by kernel_rfl) P.bn7 azi
theorem loops : bg (Tryd.f91.body.getD .skip) = [eu Tryd.f91 9] := by kernel_rfl
noncomputable def av : Abs.Spec := fun args K => match args with
 | [.v (.int .i64 a), .sl (.ints .u8 b)] => P.vk a b (fun c d => K (.tuple [.fr 42 (.ints .u32 c), .v (.int .i64 d)]))
 | _ => none
noncomputable def spec : Abs.Spec := fun args K => av (qb [.any, .sl (.ints .u8 [])] args) K
theorem ok0 : Proved Tryd.prog GLO.gB 91 av := by
 refine cu (D := D) (fn := Tryd.f91) (c := Tryd.f91.body.getD .skip) [.fr 42 (.ints .u32 []), .any] (by kernel_rfl) (ah (by kernel_rfl)) (by kernel_rfl) (by kernel_rfl) (by kernel_rfl) ⟨jg.ok, lu.ok, qd.ok, trivial⟩ trivial ?_ ?_
 · rw [loops]; exact ⟨bgu, trivial⟩
 · intro args K r h
   unfold av at h
   split at h
   · rw [P.ag9] at h; exact Eq.trans (by kernel_rfl) h
   · cases h
theorem ok : Proved Tryd.prog GLO.gB 91 spec := dz _ ok0
end vk

namespace jh
noncomputable def D : Ctx := ({ P := Tryd.prog, G := [(86, gq.spec), (91, vk.spec)], globs := GLO.gB, hints := [], loops := [], inl := [] } : Ctx)
theorem loops : bg (Tryd.f71.body.getD .skip) = [] := by kernel_rfl
noncomputable def av : Abs.Spec := fun args K => match args with
 | [.agg [.v (.int .i64 e), .sl (.ints .u8 d), .v (.int .u32 f), .v (.int .i64 a), .v (.int .i64 b), .v (.int .i64 c)], .sl (.ints .u8 g), .sl (.ints .u8 h)] => P.jh e d f a b c g h (fun i => K (.fr 42 (.ints .u32 i)))
 | _ => none
noncomputable def spec : Abs.Spec := fun args K => av (qb [.agg [.any, .sl (.ints .u8 []), .any, .any, .any, .any], .sl (.ints .u8 []), .sl (.ints .u8 [])] args) K
theorem ok0 : Proved Tryd.prog GLO.gB 71 av := by
 refine cu (D := D) (fn := Tryd.f71) (c := Tryd.f71.body.getD .skip) [.fr 42 (.ints .u32 [])] (by kernel_rfl) (ah (by kernel_rfl)) (by kernel_rfl) (by kernel_rfl) (by kernel_rfl) ⟨gq.ok, vk.ok, trivial⟩ trivial ?_ ?_
 · rw [loops]; exact trivial
 · intro args K r h
   unfold av at h
   split at h
   · rw [P.acd] at h; exact Eq.trans (by kernel_rfl) h
   · cases h
theorem ok : Proved Tryd.prog GLO.gB 71 spec := dz _ ok0
end jh

namespace ko
noncomputable def D : Ctx := ({ P := Tryd.prog, G := [], globs := GLO.gB, hints := [], loops := [], inl := [] } : Ctx)
theorem loops : bg (Tryd.f85.body.getD .skip) = [] := by kernel_rfl
noncomputable def av : Abs.Spec := fun args K => match args with
 | [.agg [.v (.int .i64 e), .sl (.ints .u8 d), .v (.int .u32 f), .v (.int .i64 a), .v (.int .i64 b), .v (.int .i64 c)]] => P.ko e d f a b c (fun g => K (.v (.int .u32 g)))
 | _ => none
noncomputable def spec : Abs.Spec := fun args K => av (qb [.agg [.any, .sl (.ints .u8 []), .any, .any, .any, .any]] args) K
theorem ok0 : Proved Tryd.prog GLO.gB 85 av := by
 refine cu (D := D) (fn := Tryd.f85) (c := Tryd.f85.body.getD .skip) [.any] (by kernel_rfl) (ah (by kernel_rfl)) (by kernel_rfl) (by kernel_rfl) (by kernel_rfl) trivial trivial ?_ ?_
 · rw [loops]; exact trivial
 · intro args K r h
   unfold av at h
   split at h
   · rw [P.ad8] at h; exact Eq.trans (by kernel_rfl) h
   · cases h
theorem ok : Proved Tryd.prog GLO.gB 85 spec := dz _ ok0
end ko

end
