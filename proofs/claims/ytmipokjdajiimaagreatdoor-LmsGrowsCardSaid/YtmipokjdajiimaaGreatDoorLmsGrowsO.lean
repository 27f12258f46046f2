/-
  LmsGrows, part 15: an interpreter of my own over abstract values, the pure functions, the walks and the plain law.
-/

import Derived.Test.YtmipokjdajiimaaGreatDoorLmsGrowsK
import Derived.Test.YtmipokjdajiimaaGreatDoorLmsGrowsH
import Derived.Test.YtmipokjdajiimaaGreatDoorProg
import Derived.Test.YtmipokjdajiimaaGreatDoorLmsGrowsJ
import Derived.Test.YtmipokjdajiimaaGreatDoorLmsGrowsN
import Derived.Test.YtmipokjdajiimaaGreatDoorLmsGrowsM
import Derived.KernelRfl
import Derived.Test.YtmipokjdajiimaaGreatDoorLmsGrowsI

section
open Go Go.Abs Go.Proofs
set_option maxRecDepth 100000
set_option maxHeartbeats 0
set_option linter.unusedVariables false

namespace ny
abbrev X3 := P.bpc
def S3 : X3 → ASt := fun (l, j, k, a, b, c, d, e, f, g, h, i) => ⟨[(2, .sl (.ints .u8 l)), (3, .ptr 0 0), (4, .ptr 1 0), (6, .ptr 2 0), (8, .ptr 3 0), (14, .arr .u64 8 j), (15, .v (.int .i64 k))], [(0, some ⟨.box 151 [.v (.int .i64 a), .v (.int .i64 b), .arr .i64 3 c, .arr .i64 3 d, .arr .i64 3 e, .arr .i64 3 f, .fn (.func 115) [] []], false⟩), (1, some ⟨.box 125 [.arr .u64 8 g], false⟩), (2, some ⟨.box 125 [.arr .u64 8 h], false⟩), (3, some ⟨.box 125 [.arr .u64 8 i], false⟩)], 4, 50⟩
def V3 : ASt → Option X3
 | ⟨[(2, .sl (.ints .u8 l)), (3, .ptr 0 0), (4, .ptr 1 0), (6, .ptr 2 0), (8, .ptr 3 0), (14, .arr .u64 8 j), (15, .v (.int .i64 k))], [(0, some ⟨.box 151 [.v (.int .i64 a), .v (.int .i64 b), .arr .i64 3 c, .arr .i64 3 d, .arr .i64 3 e, .arr .i64 3 f, .fn (.func 115) [] []], false⟩), (1, some ⟨.box 125 [.arr .u64 8 g], false⟩), (2, some ⟨.box 125 [.arr .u64 8 h], false⟩), (3, some ⟨.box 125 [.arr .u64 8 i], false⟩)], 4, 50⟩ => some (l, j, k, a, b, c, d, e, f, g, h, i)
 | _ => none
theorem asr (st) (x) (h : V3 st = some x) : st = S3 x := by
 unfold V3 at h
 split at h
 · cases h; rfl
 · cases h
abbrev Y3 := P.bxy
abbrev X8 := P.bp7
def S8 : X8 → ASt := fun (k, j, a, b, c, d, e, f, g, h, i) => ⟨[(2, .sl (.ints .u8 k)), (3, .ptr 0 0), (4, .ptr 1 0), (6, .ptr 2 0), (8, .ptr 3 0), (11, .v (.int .i64 j))], [(3, some ⟨.box 125 [.arr .u64 8 a], false⟩), (2, some ⟨.box 125 [.arr .u64 8 b], false⟩), (1, some ⟨.box 125 [.arr .u64 8 c], false⟩), (0, some ⟨.box 151 [.v (.int .i64 d), .v (.int .i64 e), .arr .i64 3 f, .arr .i64 3 g, .arr .i64 3 h, .arr .i64 3 i, .fn (.func 115) [] []], false⟩)], 4, 50⟩
def V8 : ASt → Option X8
 | ⟨[(2, .sl (.ints .u8 k)), (3, .ptr 0 0), (4, .ptr 1 0), (6, .ptr 2 0), (8, .ptr 3 0), (11, .v (.int .i64 j))], [(3, some ⟨.box 125 [.arr .u64 8 a], false⟩), (2, some ⟨.box 125 [.arr .u64 8 b], false⟩), (1, some ⟨.box 125 [.arr .u64 8 c], false⟩), (0, some ⟨.box 151 [.v (.int .i64 d), .v (.int .i64 e), .arr .i64 3 f, .arr .i64 3 g, .arr .i64 3 h, .arr .i64 3 i, .fn (.func 115) [] []], false⟩)], 4, 50⟩ => some (k, j, a, b, c, d, e, f, g, h, i)
 | _ => none
theorem bby (st) (x) (h : V8 st = some x) : st = S8 x := by
 unfold V8 at h
 split at h
 · cases h; rfl
 · cases h
abbrev Y8 := P.bx8
abbrev X12 := P.bp1
def S12 : X12 → ASt := fun (e, c, d, a, b) => ⟨[(2, .sl (.ints .u8 e)), (4, .ptr 1 0), (6, .ptr 2 0), (39, .arr .u64 8 c), (40, .v (.int .i64 d))], [(1, some ⟨.box 125 [.arr .u64 8 a], false⟩), (2, some ⟨.box 125 [.arr .u64 8 b], false⟩)], 120, 50⟩
def V12 : ASt → Option X12
 | ⟨[(2, .sl (.ints .u8 e)), (4, .ptr 1 0), (6, .ptr 2 0), (39, .arr .u64 8 c), (40, .v (.int .i64 d))], [(1, some ⟨.box 125 [.arr .u64 8 a], false⟩), (2, some ⟨.box 125 [.arr .u64 8 b], false⟩)], 120, 50⟩ => some (e, c, d, a, b)
 | _ => none
theorem bhy (st) (x) (h : V12 st = some x) : st = S12 x := by
 unfold V12 at h
 split at h
 · cases h; rfl
 · cases h
abbrev Y12 := P.bwe
def E3 (K : AExit → ASt → Option R) : Y3 → Option R := (fun x => K (.exit 0) (S3 x))
noncomputable def L3 : ru := fun st K => ae3 (V3 st) fun x => P.byv x (E3 K)
def E8 (K : AExit → ASt → Option R) : Y8 → Option R := (fun x => K (.exit 2) (S8 x))
noncomputable def L8 : ru := fun st K => ae3 (V8 st) fun x => P.byw x (E8 K)
def E12 (K : AExit → ASt → Option R) : Y12 → Option R := (fun x => K (.exit 4) (S12 x))
noncomputable def L12 : ru := fun st K => ae3 (V12 st) fun x => P.bw1 x (E12 K)
noncomputable def D : Ctx := ({ P := Tryz.prog, G := [(114, jo.spec), (115, mo.spec)], globs := GLO.gB, hints := [(12, ⟨[2, 4, 6, 39, 40], [], [6, 7], [], some (120, [1, 2]), [], [], []⟩), (8, ⟨[2, 3, 4, 6, 8, 11], [], [6, 7], [(2, .sl (.ints .u8 []))], none, [], [], []⟩), (3, ⟨[2, 3, 4, 6, 8, 14, 15], [], [6, 7], [], none, [], [], []⟩)], loops := [(3, L3), (8, L8), (12, L12)], inl := [] } : Ctx)
theorem ajx (K) (next) (x) : l8 D (dx Tryz.f104 3) K next (S3 x) = P.bsk x (fun x => next (S3 x)) (E3 K) := by kernel_rfl
theorem asa : j5 D (dx Tryz.f104 3) := fq S3 asr (by kernel_rfl) P.by3 ajx
theorem aur (K) (next) (x) : l8 D (dx Tryz.f104 8) K next (S8 x) = P.brq x (fun x => next (S8 x)) (E8 K) := by kernel_rfl
theorem bc5 : j5 D (dx Tryz.f104 8) := fq S8 bby (by kernel_rfl) P.bzk aur
theorem bbs (K) (next) (x) : l8 D (dx Tryz.f104 12) K next (S12 x) = P.bpj x (fun x => next (S12 x)) (E12 K) := by kernel_rfl
theorem bh2 : j5 D (dx Tryz.f104 12) := fq S12 bhy (by kernel_rfl) P.bzp bbs
theorem loops : bg (Tryz.f104.body.getD .skip) = [dx Tryz.f104 3, dx Tryz.f104 8, dx Tryz.f104 12] := by kernel_rfl
noncomputable def aj : Abs.Spec := fun args K => match args with
 | [.agg [.v (.int .i64 f), .v (.int .i64 e), .arr .i64 3 a, .arr .i64 3 b, .arr .i64 3 c, .arr .i64 3 d, .fn (.func 115) [] []], .arr .u64 8 g, .sl (.ints .u8 h)] => P.ny f e a b c d g h (fun i j => K (.tuple [.arr .u64 8 i, .sl (.ints .u8 j)]))
 | _ => none
noncomputable def spec : Abs.Spec := fun args K => aj (l7 [.any, .any, .sl (.ints .u8 [])] args) K
theorem ok0 : Proved Tryz.prog GLO.gB 104 aj := by
 refine bf (D := D) (fn := Tryz.f104) (c := Tryz.f104.body.getD .skip) [.any, .sl (.ints .u8 [])] (by kernel_rfl) (ah (by kernel_rfl)) (by kernel_rfl) (by kernel_rfl) (by kernel_rfl) ⟨jo.ok, mo.ok, trivial⟩ trivial ?_ ?_
 · rw [loops]; exact ⟨asa, bc5, bh2, trivial⟩
 · intro args K r h
   unfold aj at h
   split at h
   · rw [P.aee] at h; exact Eq.trans (by kernel_rfl) h
   · cases h
theorem ok : Proved Tryz.prog GLO.gB 104 spec := bq _ ok0
end ny

namespace ng
noncomputable def D : Ctx := { P := Tryz.prog, G := [], globs := GLO.gB, hints := [], loops := [] }
noncomputable def c : Code := Tryz.f106.body.getD .skip
noncomputable def o0 : Oper := (bdp (sq1 c)).getD 0 bdn
noncomputable def o1 : Oper := (bdp (sq1 (sq1 (sq2 c)))).getD 0 bdn
noncomputable def o2 : Oper := (bdp (sq1 (sq1 (sq2 c)))).getD 1 bdn
noncomputable def X : Code := bv3 (sq2 (sq1 (sq2 c)))
noncomputable def rest : Code := sq2 (sq2 c)
noncomputable def ox : Oper := (bdp (sq1 X)).getD 0 bdn
theorem bm1 (a : List Int) : ada D rest ⟨[(0, .sl (.ints .u8 a)), (2, .v (.slice none 0 0))], [], 0, Tryz.f106.ntmps⟩ (bzt D [.fr 5 (.ints .u8 a)] Tryz.f106) = br (decide ((0 + a.length) * 1 ≤ 140737488355328)) (some (.fr 5 (.ints .u8 a))) none := by kernel_rfl
noncomputable def aj : Abs.Spec := fun args K => match args with
  | [.sl (.ints .u8 a)] => P.ng a (fun a => K (.fr 5 (.ints .u8 a)))
  | _ => none
theorem boj : Tryz.f106.body = some (.seq (.region 0 #[o0] false) (.seq (.seq (.region 1 #[o1, o2] false) (.cond (.tmp 4) X .skip)) rest)) := by kernel_rfl
theorem ok0 : Proved Tryz.prog GLO.gB 106 aj := by
  refine ⟨⟨Tryz.f106, by kernel_rfl, by kernel_rfl, by kernel_rfl⟩, fun args K r h => ?_⟩
  unfold aj at h
  split at h
  · rename_i a
    unfold P.ng at h
    obtain ⟨hp, hK⟩ := pre_some h
    refine ⟨_, hK, bkm (D := D) (fn := Tryz.f106) (t := 23) (e := 5) trivial (ah (by kernel_rfl)) trivial (by kernel_rfl) (by kernel_rfl) boj ⟨by kernel_rfl, by kernel_rfl, by kernel_rfl⟩ ⟨by kernel_rfl, by kernel_rfl, by kernel_rfl⟩ ⟨by kernel_rfl, by kernel_rfl, by kernel_rfl⟩ (by kernel_rfl) (by decide +kernel) (by kernel_rfl) (by kernel_rfl) ⟨2, ox, by kernel_rfl, by kernel_rfl, by kernel_rfl, by kernel_rfl⟩ (by kernel_rfl) rfl rfl rfl ?_⟩
    rw [bm1, ak (by omega)]
  · cases h
noncomputable def spec : Abs.Spec := fun args K => aj (l7 [.sl (.ints .u8 [])] args) K
theorem ok : Proved Tryz.prog GLO.gB 106 spec := bq _ ok0
end ng

namespace vw
noncomputable def D : Ctx := ({ P := Tryz.prog, G := [(56, ig.spec), (102, nk.spec), (103, abg.spec), (104, ny.spec), (105, abd.spec), (106, ng.spec)], globs := GLO.gB, hints := [], loops := [], inl := [] } : Ctx)
theorem loops : bg (Tryz.f92.body.getD .skip) = [] := by kernel_rfl
noncomputable def aj : Abs.Spec := fun args K => match args with
 | [.agg [.v (.int .i64 c), .arr .u64 8 a, .sl (.ints .u8 d), .v (.int .u64 e)], .sl (.ints .u8 i)] => P.vw c a d e i (fun f b g h => K (.agg [.v (.int .i64 f), .arr .u64 8 b, .fr 5 (.ints .u8 g), .v (.int .u64 h)]))
 | _ => none
noncomputable def spec : Abs.Spec := fun args K => aj (l7 [.agg [.any, .any, .sl (.ints .u8 []), .any], .sl (.ints .u8 [])] args) K
theorem ok0 : Proved Tryz.prog GLO.gB 92 aj := by
 refine bf (D := D) (fn := Tryz.f92) (c := Tryz.f92.body.getD .skip) [.agg [.any, .any, .fr 5 (.ints .u8 []), .any]] (by kernel_rfl) (ah (by kernel_rfl)) (by kernel_rfl) (by kernel_rfl) (by kernel_rfl) ⟨ig.ok, nk.ok, abg.ok, ny.ok, abd.ok, ng.ok, trivial⟩ trivial ?_ ?_
 · rw [loops]; exact trivial
 · intro args K r h
   unfold aj at h
   split at h
   · rw [P.aw1] at h; exact Eq.trans (by kernel_rfl) h
   · cases h
theorem ok : Proved Tryz.prog GLO.gB 92 spec := bq _ ok0
end vw

namespace p9
noncomputable def D : Ctx := ({ P := Tryz.prog, G := [], globs := GLO.gB, hints := [], loops := [], inl := [] } : Ctx)
theorem loops : bg (Tryz.f107.body.getD .skip) = [] := by kernel_rfl
noncomputable def aj : Abs.Spec := fun args K => match args with
 | [.v (.int .i64 a)] => P.p9 a (fun b => K (.v (.int .i64 b)))
 | _ => none
noncomputable def spec : Abs.Spec := aj
theorem ok0 : Proved Tryz.prog GLO.gB 107 aj := by
 refine bf (D := D) (fn := Tryz.f107) (c := Tryz.f107.body.getD .skip) [.any] (by kernel_rfl) (ah (by kernel_rfl)) (by kernel_rfl) (by kernel_rfl) (by kernel_rfl) trivial trivial ?_ ?_
 · rw [loops]; exact trivial
 · intro args K r h
   unfold aj at h
   split at h
   · rw [P.ai2] at h; exact Eq.trans (by kernel_rfl) h
   · cases h
theorem ok : Proved Tryz.prog GLO.gB 107 spec := ok0
end p9

namespace ach
abbrev X10 := P.bqx
def S10 : X10 → ASt := fun (g, d, e, f, a, b, c, h) => ⟨[(7, .own 40), (1, .ptr 0 0), (3, .v (.int .i64 g)), (45, .arr .u64 8 d), (46, .v (.int .i64 e))], [(40, some ⟨.row 5 (.ints .u8 f), false⟩), (0, some ⟨.box 127 [.v (.int .i64 a), .arr .u64 8 b, .own 5, .v (.int .u64 c)], false⟩), (5, some ⟨.row 5 (.ints .u8 h), false⟩)], 41, 62⟩
def V10 : ASt → Option X10
 | ⟨[(7, .own 40), (1, .ptr 0 0), (3, .v (.int .i64 g)), (45, .arr .u64 8 d), (46, .v (.int .i64 e))], [(40, some ⟨.row 5 (.ints .u8 f), false⟩), (0, some ⟨.box 127 [.v (.int .i64 a), .arr .u64 8 b, .own 5, .v (.int .u64 c)], false⟩), (5, some ⟨.row 5 (.ints .u8 h), false⟩)], 41, 62⟩ => some (g, d, e, f, a, b, c, h)
 | _ => none
theorem at7 (st) (x) (h : V10 st = some x) : st = S10 x := by
 unfold V10 at h
 split at h
 · cases h; rfl
 · cases h
abbrev Y10 := P.buh
def E10 (K : AExit → ASt → Option R) : Y10 → Option R := (fun x => K (.exit 0) (S10 x))
noncomputable def L10 : ru := fun st K => ae3 (V10 st) fun x => P.bxi x (E10 K)
noncomputable def D : Ctx := ({ P := Tryz.prog, G := [(30, jl.spec), (92, vw.spec), (107, p9.spec)], globs := GLO.gB, hints := [(10, ⟨[1, 3, 45, 46], [(7, 5, .ints .u8 [])], [2], [], some (40, [0, 5]), [], [], []⟩)], loops := [(10, L10)], inl := [] } : Ctx)
theorem alk (K) (next) (x) : l8 D (dx Tryz.f93 10) K next (S10 x) = P.bpi x (fun x => next (S10 x)) (E10 K) := by kernel_rfl
theorem atq : j5 D (dx Tryz.f93 10) := fq S10 at7 (by kernel_rfl) P.bzh alk
theorem loops : bg (Tryz.f93.body.getD .skip) = [dx Tryz.f93 10] := by kernel_rfl
noncomputable def aj : Abs.Spec := fun args K => match args with
 | [.agg [.v (.int .i64 b), .arr .u64 8 a, .sl (.ints .u8 c), .v (.int .u64 d)]] => P.ach b a c d (fun e => K (.fr 5 (.ints .u8 e)))
 | _ => none
noncomputable def spec : Abs.Spec := fun args K => aj (l7 [.agg [.any, .any, .sl (.ints .u8 []), .any]] args) K
theorem ok0 : Proved Tryz.prog GLO.gB 93 aj := by
 refine apu (D := D) (fn := Tryz.f93) (c := Tryz.f93.body.getD .skip) 5 (.ints .u8 []) (by kernel_rfl) (ah (by kernel_rfl)) (by kernel_rfl) (by kernel_rfl) (by kernel_rfl) ⟨jl.ok, vw.ok, p9.ok, trivial⟩ trivial ?_ ?_
 · rw [loops]; exact ⟨atq, trivial⟩
 · intro args K r h
   unfold aj at h
   split at h
   · rw [P.aws] at h; exact Eq.trans (by kernel_rfl) h
   · cases h
theorem ok : Proved Tryz.prog GLO.gB 93 spec := bq _ ok0
end ach

namespace ac3
noncomputable def D : Ctx := ({ P := Tryz.prog, G := [], globs := GLO.gB, hints := [], loops := [], inl := [] } : Ctx)
theorem loops : bg (Tryz.f101.body.getD .skip) = [] := by kernel_rfl
noncomputable def aj : Abs.Spec := fun args K => match args with
 | [.v (.int .i64 a)] => P.ac3 a (fun b c => K (.tuple [.arr .u64 8 b, .v (.bool c)]))
 | _ => none
noncomputable def spec : Abs.Spec := aj
theorem ok0 : Proved Tryz.prog GLO.gB 101 aj := by
 refine bf (D := D) (fn := Tryz.f101) (c := Tryz.f101.body.getD .skip) [.any, .any] (by kernel_rfl) (ah (by kernel_rfl)) (by kernel_rfl) (by kernel_rfl) (by kernel_rfl) trivial trivial ?_ ?_
 · rw [loops]; exact trivial
 · intro args K r h
   unfold aj at h
   split at h
   · rw [P.ap2] at h; exact Eq.trans (by kernel_rfl) h
   · cases h
theorem ok : Proved Tryz.prog GLO.gB 101 spec := ok0
end ac3

namespace acd
noncomputable def D : Ctx := ({ P := Tryz.prog, G := [(101, ac3.spec)], globs := GLO.gB, hints := [], loops := [], inl := [] } : Ctx)
theorem loops : bg (Tryz.f91.body.getD .skip) = [] := by kernel_rfl
noncomputable def aj : Abs.Spec := fun args K => match args with
 | [.v (.int .i64 e)] => P.acd e (fun b a c d f => K (.tuple [.agg [.v (.int .i64 b), .arr .u64 8 a, .fr 5 (.ints .u8 c), .v (.int .u64 d)], .v (.int .i64 f)]))
 | _ => none
noncomputable def spec : Abs.Spec := aj
theorem ok0 : Proved Tryz.prog GLO.gB 91 aj := by
 refine bf (D := D) (fn := Tryz.f91) (c := Tryz.f91.body.getD .skip) [.agg [.any, .any, .fr 5 (.ints .u8 []), .any], .any] (by kernel_rfl) (ah (by kernel_rfl)) (by kernel_rfl) (by kernel_rfl) (by kernel_rfl) ⟨ac3.ok, trivial⟩ trivial ?_ ?_
 · rw [loops]; exact trivial
 · intro args K r h
   unfold aj at h
   split at h
   · rw [P.awz] at h; exact Eq.trans (by kernel_rfl) h
   · cases h
theorem ok : Proved Tryz.prog GLO.gB 91 spec := ok0
end acd

namespace gy
noncomputable def D : Ctx := ({ P := Tryz.prog, G := [(29, fu.spec), (30, jl.spec), (91, acd.spec), (92, vw.spec), (93, ach.spec)], globs := GLO.gB, hints := [], loops := [], inl := [] } : Ctx)
theorem loops : bg (Tryz.f90.body.getD .skip) = [] := by kernel_rfl
noncomputable def aj : Abs.Spec := fun args K => match args with
 | [.agg [.v (.int .i64 e), .sl (.ints .u8 d), .v (.int .u32 f), .v (.int .i64 a), .v (.int .i64 b), .v (.int .i64 c)], .v (.int .u64 g), .sl (.rows .u8 h)] => P.gy e d f a b c g h (fun i => K (.fr 5 (.ints .u8 i)))
 | _ => none
noncomputable def spec : Abs.Spec := fun args K => aj (l7 [.agg [.any, .sl (.ints .u8 []), .any, .any, .any, .any], .any, .sl (.rows .u8 [])] args) K
theorem ok0 : Proved Tryz.prog GLO.gB 90 aj := by
 refine bf (D := D) (fn := Tryz.f90) (c := Tryz.f90.body.getD .skip) [.fr 5 (.ints .u8 [])] (by kernel_rfl) (ah (by kernel_rfl)) (by kernel_rfl) (by kernel_rfl) (by kernel_rfl) ⟨fu.ok, jl.ok, acd.ok, vw.ok, ach.ok, trivial⟩ trivial ?_ ?_
 · rw [loops]; exact trivial
 · intro args K r h
   unfold aj at h
   split at h
   · rw [P.ahs] at h; exact Eq.trans (by kernel_rfl) h
   · cases h
theorem ok : Proved Tryz.prog GLO.gB 90 spec := bq _ ok0
end gy

namespace jk
abbrev X2 := P.bsg
def S2 : X2 → ASt := fun (i, j, k, g, h, a, b, c, d, e, f) => ⟨[(1, .v (.int .i64 i)), (2, .v (.int .u32 j)), (4, .sl (.ints .u8 k)), (5, .ptr 0 0), (12, .v (.int .u32 g)), (13, .v (.int .u32 h))], [(0, some ⟨.box 106 [.v (.int .i64 a), .sl (.ints .u8 b), .v (.int .u32 c), .v (.int .i64 d), .v (.int .i64 e), .v (.int .i64 f)], false⟩)], 1, 29⟩
def V2 : ASt → Option X2
 | ⟨[(1, .v (.int .i64 i)), (2, .v (.int .u32 j)), (4, .sl (.ints .u8 k)), (5, .ptr 0 0), (12, .v (.int .u32 g)), (13, .v (.int .u32 h))], [(0, some ⟨.box 106 [.v (.int .i64 a), .sl (.ints .u8 b), .v (.int .u32 c), .v (.int .i64 d), .v (.int .i64 e), .v (.int .i64 f)], false⟩)], 1, 29⟩ => some (i, j, k, g, h, a, b, c, d, e, f)
 | _ => none
theorem bjc (st) (x) (h : V2 st = some x) : st = S2 x := by
 unfold V2 at h
 split at h
 · cases h; rfl
 · cases h
abbrev Y2 := P.bt2
def E2 (K : AExit → ASt → Option R) : Y2 → Option R := (fun x => K (.exit 0) (S2 x))
noncomputable def L2 : ru := fun st K => ae3 (V2 st) fun x => P.bu7 x (E2 K)
noncomputable def D : Ctx := ({ P := Tryz.prog, G := [(90, gy.spec)], globs := GLO.gB, hints := [(2, ⟨[1, 2, 4, 5, 12, 13], [], [10], [(4, .sl (.ints .u8 []))], none, [], [], []⟩)], loops := [(2, L2)], inl := [] } : Ctx)
theorem ay5 (K) (next) (x) : l8 D (dx Tryz.f77 2) K next (S2 x) = P.bq3 x (fun x => next (S2 x)) (E2 K) := by kernel_rfl
theorem bg1 : j5 D (dx Tryz.f77 2) := fq S2 bjc (by kernel_rfl) P.bzv ay5
theorem loops : bg (Tryz.f77.body.getD .skip) = [dx Tryz.f77 2] := by kernel_rfl
noncomputable def aj : Abs.Spec := fun args K => match args with
 | [.agg [.v (.int .i64 e), .sl (.ints .u8 d), .v (.int .u32 f), .v (.int .i64 a), .v (.int .i64 b), .v (.int .i64 c)], .v (.int .i64 g), .v (.int .u32 h), .v (.int .u32 i), .sl (.ints .u8 j)] => P.jk e d f a b c g h i j (fun k => K (.sl (.ints .u8 k)))
 | _ => none
noncomputable def spec : Abs.Spec := fun args K => aj (l7 [.agg [.any, .sl (.ints .u8 []), .any, .any, .any, .any], .any, .any, .any, .sl (.ints .u8 [])] args) K
theorem ok0 : Proved Tryz.prog GLO.gB 77 aj := by
 refine bf (D := D) (fn := Tryz.f77) (c := Tryz.f77.body.getD .skip) [.sl (.ints .u8 [])] (by kernel_rfl) (ah (by kernel_rfl)) (by kernel_rfl) (by kernel_rfl) (by kernel_rfl) ⟨gy.ok, trivial⟩ trivial ?_ ?_
 · rw [loops]; exact ⟨bg1, trivial⟩
 · intro args K r h
   unfold aj at h
   split at h
   · rw [P.afx] at h; exact Eq.trans (by kernel_rfl) h
   · cases h
theorem ok : Proved Tryz.prog GLO.gB 77 spec := bq _ ok0
end jk

namespace abe
noncomputable def D : Ctx := ({ P := Tryz.prog, G := [], globs := GLO.gB, hints := [], loops := [], inl := [] } : Ctx)
theorem loops : bg (Tryz.f116.body.getD .skip) = [] := by kernel_rfl
noncomputable def aj : Abs.Spec := fun args K => match args with
 | [.sl (.ints .u8 a), .v (.int .i64 b), .v (.int .i64 c)] => P.abe a b c (fun d => K (.v (.bool d)))
 | _ => none
noncomputable def spec : Abs.Spec := fun args K => aj (l7 [.sl (.ints .u8 []), .any, .any] args) K
theorem ok0 : Proved Tryz.prog GLO.gB 116 aj := by
 refine bf (D := D) (fn := Tryz.f116) (c := Tryz.f116.body.getD .skip) [.any] (by kernel_rfl) (ah (by kernel_rfl)) (by kernel_rfl) (by kernel_rfl) (by kernel_rfl) trivial trivial ?_ ?_
 · rw [loops]; exact trivial
 · intro args K r h
   unfold aj at h
   split at h
   · rw [P.ap9] at h; exact Eq.trans (by kernel_rfl) h
   · cases h
theorem ok : Proved Tryz.prog GLO.gB 116 spec := bq _ ok0
end abe

namespace qx
abbrev X8 := P.brb
def S8 : X8 → ASt := fun (d, e, f, g, a, b, c, h) => ⟨[(0, .sl (.ints .u8 d)), (1, .v (.int .i64 e)), (7, .own 0), (8, .v (.int .u64 f)), (9, .v (.int .i64 g)), (10, .v (.int .i64 a)), (19, .v (.int .i64 b)), (20, .v (.int .i64 c))], [(0, some ⟨.row 41 (.ints .u32 h), false⟩)], 1, 53⟩
def V8 : ASt → Option X8
 | ⟨[(0, .sl (.ints .u8 d)), (1, .v (.int .i64 e)), (7, .own 0), (8, .v (.int .u64 f)), (9, .v (.int .i64 g)), (10, .v (.int .i64 a)), (19, .v (.int .i64 b)), (20, .v (.int .i64 c))], [(0, some ⟨.row 41 (.ints .u32 h), false⟩)], 1, 53⟩ => some (d, e, f, g, a, b, c, h)
 | _ => none
theorem bby (st) (x) (h : V8 st = some x) : st = S8 x := by
 unfold V8 at h
 split at h
 · cases h; rfl
 · cases h
abbrev Y8 := P.bwv
abbrev X6 := P.bse
def S6 : X6 → ASt := fun (c, d, e, f, a, b, g) => ⟨[(0, .sl (.ints .u8 c)), (1, .v (.int .i64 d)), (7, .own 0), (8, .v (.int .u64 e)), (9, .v (.int .i64 f)), (19, .v (.int .i64 a)), (20, .v (.int .i64 b))], [(0, some ⟨.row 41 (.ints .u32 g), false⟩)], 1, 53⟩
def V6 : ASt → Option X6
 | ⟨[(0, .sl (.ints .u8 c)), (1, .v (.int .i64 d)), (7, .own 0), (8, .v (.int .u64 e)), (9, .v (.int .i64 f)), (19, .v (.int .i64 a)), (20, .v (.int .i64 b))], [(0, some ⟨.row 41 (.ints .u32 g), false⟩)], 1, 53⟩ => some (c, d, e, f, a, b, g)
 | _ => none
theorem bi8 (st) (x) (h : V6 st = some x) : st = S6 x := by
 unfold V6 at h
 split at h
 · cases h; rfl
 · cases h
abbrev Y6 := P.bwz
def E8 (K : AExit → ASt → Option R) : Y8 → Option R := (fun x => K (.exit 2) (S8 x))
noncomputable def L8 : ru := fun st K => ae3 (V8 st) fun x => P.byu x (E8 K)
def E6 (K : AExit → ASt → Option R) : Y6 → Option R := (fun x => K (.exit 0) (S6 x))
noncomputable def L6 : ru := fun st K => ae3 (V6 st) fun x => P.byh x (E6 K)
noncomputable def D : Ctx := ({ P := Tryz.prog, G := [(116, abe.spec)], globs := GLO.gB, hints := [(8, ⟨[0, 1, 7, 8, 9, 10, 19, 20], [], [6], [(0, .sl (.ints .u8 []))], none, [], [], []⟩), (6, ⟨[0, 1, 7, 8, 9, 19, 20], [], [6], [(0, .sl (.ints .u8 []))], none, [], [], []⟩)], loops := [(8, L8), (6, L6)], inl := [] } : Ctx)
theorem aur (K) (next) (x) : l8 D (dx Tryz.f108 8) K next (S8 x) = P.br2 x (fun x => next (S8 x)) (E8 K) := by kernel_rfl
theorem bc5 : j5 D (dx Tryz.f108 8) := fq S8 bby (by kernel_rfl) P.bz7 aur
theorem bbk (K) (next) (x) : l8 D (dx Tryz.f108 6) K next (S6 x) = P.bpk x (fun x => next (S6 x)) (E6 K) := by kernel_rfl
theorem bhs : j5 D (dx Tryz.f108 6) := fq S6 bi8 (by kernel_rfl) P.by5 bbk
theorem loops : bg (Tryz.f108.body.getD .skip) = [dx Tryz.f108 6, dx Tryz.f108 8] := by kernel_rfl
noncomputable def aj : Abs.Spec := fun args K => match args with
 | [.sl (.ints .u8 a), .v (.int .i64 b), .v (.int .i64 c)] => P.qx a b c (fun d => K (.fr 41 (.ints .u32 d)))
 | _ => none
noncomputable def spec : Abs.Spec := fun args K => aj (l7 [.sl (.ints .u8 []), .any, .any] args) K
theorem ok0 : Proved Tryz.prog GLO.gB 108 aj := by
 refine bf (D := D) (fn := Tryz.f108) (c := Tryz.f108.body.getD .skip) [.fr 41 (.ints .u32 [])] (by kernel_rfl) (ah (by kernel_rfl)) (by kernel_rfl) (by kernel_rfl) (by kernel_rfl) ⟨abe.ok, trivial⟩ trivial ?_ ?_
 · rw [loops]; exact ⟨bhs, bc5, trivial⟩
 · intro args K r h
   unfold aj at h
   split at h
   · rw [P.ak6] at h; exact Eq.trans (by kernel_rfl) h
   · cases h
theorem ok : Proved Tryz.prog GLO.gB 108 spec := bq _ ok0
end qx

namespace yu
abbrev X9 := P.bpx
def S9 : X9 → ASt := fun (f, g, d, e, a, b, c, h) => ⟨[(0, .v (.int .i64 f)), (6, .ptr 0 0), (8, .own 1), (9, .v (.int .u64 g)), (36, .own 1), (37, .v (.int .i64 d)), (38, .v (.int .i64 e))], [(0, some ⟨.box 104 [.v (.int .i64 a), .v (.int .i64 b), .v (.int .i64 c)], false⟩), (1, some ⟨.row 41 (.ints .u32 h), false⟩)], 2, 61⟩
def V9 : ASt → Option X9
 | ⟨[(0, .v (.int .i64 f)), (6, .ptr 0 0), (8, .own 1), (9, .v (.int .u64 g)), (36, .own 1), (37, .v (.int .i64 d)), (38, .v (.int .i64 e))], [(0, some ⟨.box 104 [.v (.int .i64 a), .v (.int .i64 b), .v (.int .i64 c)], false⟩), (1, some ⟨.row 41 (.ints .u32 h), false⟩)], 2, 61⟩ => some (f, g, d, e, a, b, c, h)
 | _ => none
theorem axz (st) (x) (h : V9 st = some x) : st = S9 x := by
 unfold V9 at h
 split at h
 · cases h; rfl
 · cases h
abbrev Y9 := P.bxv
def E9 (K : AExit → ASt → Option R) : Y9 → Option R := (fun x => K (.exit 1) (S9 x))
noncomputable def L9 : ru := fun st K => ae3 (V9 st) fun x => P.bu6 x (E9 K)
noncomputable def D : Ctx := ({ P := Tryz.prog, G := [(30, jl.spec), (84, mg.spec), (108, qx.spec)], globs := GLO.gB, hints := [(9, ⟨[0, 6, 8, 9, 36, 37, 38], [], [4, 5], [], none, [], [], []⟩)], loops := [(9, L9)], inl := [] } : Ctx)
theorem aon (K) (next) (x) : l8 D (dx Tryz.f96 9) K next (S9 x) = P.bqc x (fun x => next (S9 x)) (E9 K) := by kernel_rfl
theorem aw4 : j5 D (dx Tryz.f96 9) := fq S9 axz (by kernel_rfl) P.bzx aon
theorem loops : bg (Tryz.f96.body.getD .skip) = [dx Tryz.f96 9] := by kernel_rfl
noncomputable def aj : Abs.Spec := fun args K => match args with
 | [.v (.int .i64 a), .sl (.ints .u8 b)] => P.yu a b (fun c d => K (.tuple [.fr 41 (.ints .u32 c), .v (.int .i64 d)]))
 | _ => none
noncomputable def spec : Abs.Spec := fun args K => aj (l7 [.any, .sl (.ints .u8 [])] args) K
theorem ok0 : Proved Tryz.prog GLO.gB 96 aj := by
 refine bf (D := D) (fn := Tryz.f96) (c := Tryz.f96.body.getD .skip) [.fr 41 (.ints .u32 []), .any] (by kernel_rfl) (ah (by kernel_rfl)) (by kernel_rfl) (by kernel_rfl) (by kernel_rfl) ⟨jl.ok, mg.ok, qx.ok, trivial⟩ trivial ?_ ?_
 · rw [loops]; exact ⟨aw4, trivial⟩
 · intro args K r h
   unfold aj at h
   split at h
   · rw [P.ajp] at h; exact Eq.trans (by kernel_rfl) h
   · cases h
theorem ok : Proved Tryz.prog GLO.gB 96 spec := bq _ ok0
end yu

namespace ji
noncomputable def D : Ctx := ({ P := Tryz.prog, G := [(90, gy.spec), (96, yu.spec)], globs := GLO.gB, hints := [], loops := [], inl := [] } : Ctx)
theorem loops : bg (Tryz.f76.body.getD .skip) = [] := by kernel_rfl
noncomputable def aj : Abs.Spec := fun args K => match args with
 | [.agg [.v (.int .i64 e), .sl (.ints .u8 d), .v (.int .u32 f), .v (.int .i64 a), .v (.int .i64 b), .v (.int .i64 c)], .sl (.ints .u8 g), .sl (.ints .u8 h)] => P.ji e d f a b c g h (fun i => K (.fr 41 (.ints .u32 i)))
 | _ => none
noncomputable def spec : Abs.Spec := fun args K => aj (l7 [.agg [.any, .sl (.ints .u8 []), .any, .any, .any, .any], .sl (.ints .u8 []), .sl (.ints .u8 [])] args) K
theorem ok0 : Proved Tryz.prog GLO.gB 76 aj := by
 refine bf (D := D) (fn := Tryz.f76) (c := Tryz.f76.body.getD .skip) [.fr 41 (.ints .u32 [])] (by kernel_rfl) (ah (by kernel_rfl)) (by kernel_rfl) (by kernel_rfl) (by kernel_rfl) ⟨gy.ok, yu.ok, trivial⟩ trivial ?_ ?_
 · rw [loops]; exact trivial
 · intro args K r h
   unfold aj at h
   split at h
   · rw [P.adl] at h; exact Eq.trans (by kernel_rfl) h
   · cases h
theorem ok : Proved Tryz.prog GLO.gB 76 spec := bq _ ok0
end ji

namespace l5
noncomputable def D : Ctx := ({ P := Tryz.prog, G := [], globs := GLO.gB, hints := [], loops := [], inl := [] } : Ctx)
theorem loops : bg (Tryz.f89.body.getD .skip) = [] := by kernel_rfl
noncomputable def aj : Abs.Spec := fun args K => match args with
 | [.agg [.v (.int .i64 e), .sl (.ints .u8 d), .v (.int .u32 f), .v (.int .i64 a), .v (.int .i64 b), .v (.int .i64 c)]] => P.l5 e d f a b c (fun g => K (.v (.int .u32 g)))
 | _ => none
noncomputable def spec : Abs.Spec := fun args K => aj (l7 [.agg [.any, .sl (.ints .u8 []), .any, .any, .any, .any]] args) K
theorem ok0 : Proved Tryz.prog GLO.gB 89 aj := by
 refine bf (D := D) (fn := Tryz.f89) (c := Tryz.f89.body.getD .skip) [.any] (by kernel_rfl) (ah (by kernel_rfl)) (by kernel_rfl) (by kernel_rfl) (by kernel_rfl) trivial trivial ?_ ?_
 · rw [loops]; exact trivial
 · intro args K r h
   unfold aj at h
   split at h
   · rw [P.afw] at h; exact Eq.trans (by kernel_rfl) h
   · cases h
theorem ok : Proved Tryz.prog GLO.gB 89 spec := bq _ ok0
end l5

end
