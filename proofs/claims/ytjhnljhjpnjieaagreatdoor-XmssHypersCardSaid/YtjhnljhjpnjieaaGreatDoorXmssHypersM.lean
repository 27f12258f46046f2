/-
  XmssHypers, part 13: an interpreter of my own over abstract values, the pure functions, the walks and the plain law.
-/

import Derived.Test.YtjhnljhjpnjieaaGreatDoorXmssHypersH
import Derived.Test.YtjhnljhjpnjieaaGreatDoorXmssHypersG
import Derived.Test.YtjhnljhjpnjieaaGreatDoorXmssHypersL
import Derived.Test.YtjhnljhjpnjieaaGreatDoorProg
import Derived.KernelRfl
import Derived.Test.YtjhnljhjpnjieaaGreatDoorXmssHypersK

section
open Go Go.Abs Go.Proofs
set_option maxRecDepth 100000
set_option maxHeartbeats 0
set_option linter.unusedVariables false

namespace qb
noncomputable def D : Ctx := ({ P := Tryz.prog, G := [], globs := GLO.gx, hints := [], loops := [], inl := [] } : Ctx)
theorem loops : d9 (Tryz.f130.body.getD .skip) = [] := by kernel_rfl
noncomputable def bn : Abs.Spec := fun args K => match args with
 | [.v (.slice none 0 0), .v (.int .i64 a)] => P.qb a (fun b => K (.fr 5 (.ints .u8 b)))
 | _ => none
noncomputable def spec : Abs.Spec := bn
theorem ok0 : Proved Tryz.prog GLO.gx 130 bn := by
 refine aup (D := D) (fn := Tryz.f130) (c := Tryz.f130.body.getD .skip) 5 (.ints .u8 []) (by kernel_rfl) (bf (by kernel_rfl)) (by kernel_rfl) (by kernel_rfl) (by kernel_rfl) trivial trivial ?_ ?_
 · rw [loops]; exact trivial
 · intro args K r h
   unfold bn at h
   split at h
   · rw [P.aiz] at h; exact Eq.trans (by kernel_rfl) h
   · cases h
theorem ok : Proved Tryz.prog GLO.gx 130 spec := ok0
end qb

namespace jq
abbrev X3 := P.zt4
def S3 : X3 → ASt := fun (c, d, e, a, b) => ⟨[(0, .sl (.rows .u8 c)), (3, .v (.int .i64 d)), (9, .sl (.rows .u8 e)), (10, .v (.int .i64 a)), (11, .v (.int .i64 b))], [], 0, 36⟩
def V3 : ASt → Option X3
 | ⟨[(0, .sl (.rows .u8 c)), (3, .v (.int .i64 d)), (9, .sl (.rows .u8 e)), (10, .v (.int .i64 a)), (11, .v (.int .i64 b))], [], 0, 36⟩ => some (c, d, e, a, b)
 | _ => none
theorem aq4 (st) (x) (h : V3 st = some x) : st = S3 x := by
 unfold V3 at h
 split at h
 · cases h; rfl
 · cases h
abbrev Y3 := P.zy4
abbrev X11 := P.zt5
def S11 : X11 → ASt := fun (a, b, c, d) => ⟨[(6, .own 1), (25, .sl (.rows .u8 a)), (26, .v (.int .i64 b)), (27, .v (.int .i64 c))], [(1, some ⟨.row 5 (.ints .u8 d), false⟩), (0, none)], 2, 36⟩
def V11 : ASt → Option X11
 | ⟨[(6, .own 1), (25, .sl (.rows .u8 a)), (26, .v (.int .i64 b)), (27, .v (.int .i64 c))], [(1, some ⟨.row 5 (.ints .u8 d), false⟩), (0, none)], 2, 36⟩ => some (a, b, c, d)
 | _ => none
theorem bnk (st) (x) (h : V11 st = some x) : st = S11 x := by
 unfold V11 at h
 split at h
 · cases h; rfl
 · cases h
abbrev Y11 := P.zy5
def E3 (K : AExit → ASt → Option R) : Y3 → Option R := (fun x => K (.exit 0) (S3 x))
noncomputable def L3 : oz := fun st K => abx (V3 st) fun x => P.zm4 x (E3 K)
def E11 (K : AExit → ASt → Option R) : Y11 → Option R := (fun x => K (.exit 2) (S11 x))
noncomputable def L11 : oz := fun st K => abx (V11 st) fun x => P.zm5 x (E11 K)
noncomputable def D : Ctx := ({ P := Tryz.prog, G := [(130, qb.spec)], globs := GLO.gx, hints := [(11, ⟨[25, 26, 27], [(6, 5, .ints .u8 [])], [2], [], none, [], []⟩), (3, ⟨[0, 3, 9, 10, 11], [], [2], [], none, [], []⟩)], loops := [(3, L3), (11, L11)], inl := [] } : Ctx)
theorem ais (K) (next) (x) : jo D (dz Tryz.f113 3) K next (S3 x) = P.zs4 x (fun x => next (S3 x)) (E3 K) := by kernel_rfl
theorem aqb : jl D (dz Tryz.f113 3) := gq S3 aq4 (by kernel_rfl) P.ze4 ais
theorem bij (K) (next) (x) : jo D (dz Tryz.f113 11) K next (S11 x) = P.zs5 x (fun x => next (S11 x)) (E11 K) := by kernel_rfl
theorem bn4 : jl D (dz Tryz.f113 11) := gq S11 bnk (by kernel_rfl) P.ze5 bij
theorem loops : d9 (Tryz.f113.body.getD .skip) = [dz Tryz.f113 3, dz Tryz.f113 11] := by kernel_rfl
noncomputable def bn : Abs.Spec := fun args K => match args with
 | [.sl (.rows .u8 a)] => P.jq a (fun b => K (.fr 5 (.ints .u8 b)))
 | _ => none
noncomputable def spec : Abs.Spec := fun args K => bn (og [.sl (.rows .u8 [])] args) K
theorem ok0 : Proved Tryz.prog GLO.gx 113 bn := by
 refine dh (D := D) (fn := Tryz.f113) (c := Tryz.f113.body.getD .skip) [.fr 5 (.ints .u8 [])] (by kernel_rfl) (bf (by kernel_rfl)) (by kernel_rfl) (by kernel_rfl) (by kernel_rfl) ⟨qb.ok, trivial⟩ trivial ?_ ?_
 · rw [loops]; exact ⟨aqb, bn4, trivial⟩
 · intro args K r h
   unfold bn at h
   split at h
   · rw [P.agz] at h; exact Eq.trans (by kernel_rfl) h
   · cases h
theorem ok : Proved Tryz.prog GLO.gx 113 spec := eu _ ok0
end jq

namespace l5
noncomputable def D : Ctx := ({ P := Tryz.prog, G := [(113, jq.spec)], globs := GLO.gx, hints := [], loops := [], inl := [] } : Ctx)
theorem loops : d9 (Tryz.f94.body.getD .skip) = [] := by kernel_rfl
noncomputable def bn : Abs.Spec := fun args K => match args with
 | [.sl (.rows .u8 a)] => P.l5 a (fun b => K (.fr 5 (.ints .u8 b)))
 | _ => none
noncomputable def spec : Abs.Spec := fun args K => bn (og [.sl (.rows .u8 [])] args) K
theorem ok0 : Proved Tryz.prog GLO.gx 94 bn := by
 refine dh (D := D) (fn := Tryz.f94) (c := Tryz.f94.body.getD .skip) [.fr 5 (.ints .u8 [])] (by kernel_rfl) (bf (by kernel_rfl)) (by kernel_rfl) (by kernel_rfl) (by kernel_rfl) ⟨jq.ok, trivial⟩ trivial ?_ ?_
 · rw [loops]; exact trivial
 · intro args K r h
   unfold bn at h
   split at h
   · rw [P.av5] at h; exact Eq.trans (by kernel_rfl) h
   · cases h
theorem ok : Proved Tryz.prog GLO.gx 94 spec := eu _ ok0
end l5

namespace ig
noncomputable def D : Ctx := ({ P := Tryz.prog, G := [(94, l5.spec), (108, yg.spec)], globs := GLO.gx, hints := [], loops := [], inl := [] } : Ctx)
theorem loops : d9 (Tryz.f80.body.getD .skip) = [] := by kernel_rfl
noncomputable def bn : Abs.Spec := fun args K => match args with
 | [.arr .u8 32 a, .v (.int .i64 b), .v (.int .u64 c)] => P.ig a b c (fun d => K (.arr .u8 32 d))
 | _ => none
noncomputable def spec : Abs.Spec := bn
theorem ok0 : Proved Tryz.prog GLO.gx 80 bn := by
 refine dh (D := D) (fn := Tryz.f80) (c := Tryz.f80.body.getD .skip) [.any] (by kernel_rfl) (bf (by kernel_rfl)) (by kernel_rfl) (by kernel_rfl) (by kernel_rfl) ⟨l5.ok, yg.ok, trivial⟩ trivial ?_ ?_
 · rw [loops]; exact trivial
 · intro args K r h
   unfold bn at h
   split at h
   · rw [P.azx] at h; exact Eq.trans (by kernel_rfl) h
   · cases h
theorem ok : Proved Tryz.prog GLO.gx 80 spec := ok0
end ig

namespace pq
noncomputable def D : Ctx := ({ P := Tryz.prog, G := [], globs := GLO.gx, hints := [], loops := [], inl := [] } : Ctx)
theorem loops : d9 (Tryz.f156.body.getD .skip) = [] := by kernel_rfl
noncomputable def bn : Abs.Spec := fun args K => match args with
 | [.v (.int .i64 a)] => P.pq a (fun b => K (.v (.int .u64 b)))
 | _ => none
noncomputable def spec : Abs.Spec := bn
theorem ok0 : Proved Tryz.prog GLO.gx 156 bn := by
 refine dh (D := D) (fn := Tryz.f156) (c := Tryz.f156.body.getD .skip) [.any] (by kernel_rfl) (bf (by kernel_rfl)) (by kernel_rfl) (by kernel_rfl) (by kernel_rfl) trivial trivial ?_ ?_
 · rw [loops]; exact trivial
 · intro args K r h
   unfold bn at h
   split at h
   · rw [P.apk] at h; exact Eq.trans (by kernel_rfl) h
   · cases h
theorem ok : Proved Tryz.prog GLO.gx 156 spec := ok0
end pq

namespace acv
noncomputable def D : Ctx := ({ P := Tryz.prog, G := [(156, pq.spec)], globs := GLO.gx, hints := [], loops := [], inl := [] } : Ctx)
theorem loops : d9 (Tryz.f147.body.getD .skip) = [] := by kernel_rfl
noncomputable def bn : Abs.Spec := fun args K => match args with
 | [] => P.acv (fun f e a b c d => K (.agg [.v (.int .i64 f), .v (.int .i64 e), .arr .i64 3 a, .arr .i64 3 b, .arr .i64 3 c, .arr .i64 3 d, .fn (.func 156) [] []]))
 | _ => none
noncomputable def spec : Abs.Spec := bn
theorem ok0 : Proved Tryz.prog GLO.gx 147 bn := by
 refine dh (D := D) (fn := Tryz.f147) (c := Tryz.f147.body.getD .skip) [.any] (by kernel_rfl) (bf (by kernel_rfl)) (by kernel_rfl) (by kernel_rfl) (by kernel_rfl) ⟨pq.ok, trivial⟩ trivial ?_ ?_
 · rw [loops]; exact trivial
 · intro args K r h
   unfold bn at h
   split at h
   · rw [P.av1] at h; exact Eq.trans (by kernel_rfl) h
   · cases h
theorem ok : Proved Tryz.prog GLO.gx 147 spec := ok0
end acv

namespace o8
noncomputable def D : Ctx := ({ P := Tryz.prog, G := [], globs := GLO.gx, hints := [], loops := [], inl := [] } : Ctx)
theorem loops : d9 (Tryz.f154.body.getD .skip) = [] := by kernel_rfl
noncomputable def bn : Abs.Spec := fun args K => match args with
 | [.v (.int .i64 a)] => P.o8 a (fun b => K (.v (.int .u32 b)))
 | _ => none
noncomputable def spec : Abs.Spec := bn
theorem ok0 : Proved Tryz.prog GLO.gx 154 bn := by
 refine dh (D := D) (fn := Tryz.f154) (c := Tryz.f154.body.getD .skip) [.any] (by kernel_rfl) (bf (by kernel_rfl)) (by kernel_rfl) (by kernel_rfl) (by kernel_rfl) trivial trivial ?_ ?_
 · rw [loops]; exact trivial
 · intro args K r h
   unfold bn at h
   split at h
   · rw [P.apq] at h; exact Eq.trans (by kernel_rfl) h
   · cases h
theorem ok : Proved Tryz.prog GLO.gx 154 spec := ok0
end o8

namespace acs
noncomputable def D : Ctx := ({ P := Tryz.prog, G := [(154, o8.spec)], globs := GLO.gx, hints := [], loops := [], inl := [] } : Ctx)
theorem loops : d9 (Tryz.f145.body.getD .skip) = [] := by kernel_rfl
noncomputable def bn : Abs.Spec := fun args K => match args with
 | [] => P.acs (fun f e a b c d => K (.agg [.v (.int .i64 f), .v (.int .i64 e), .arr .i64 3 a, .arr .i64 3 b, .arr .i64 3 c, .arr .i64 3 d, .fn (.func 154) [] []]))
 | _ => none
noncomputable def spec : Abs.Spec := bn
theorem ok0 : Proved Tryz.prog GLO.gx 145 bn := by
 refine dh (D := D) (fn := Tryz.f145) (c := Tryz.f145.body.getD .skip) [.any] (by kernel_rfl) (bf (by kernel_rfl)) (by kernel_rfl) (by kernel_rfl) (by kernel_rfl) ⟨o8.ok, trivial⟩ trivial ?_ ?_
 · rw [loops]; exact trivial
 · intro args K r h
   unfold bn at h
   split at h
   · rw [P.awf] at h; exact Eq.trans (by kernel_rfl) h
   · cases h
theorem ok : Proved Tryz.prog GLO.gx 145 spec := ok0
end acs

namespace zf
abbrev X3 := P.byr
def S3 : X3 → ASt := fun (a, b, c, d) => ⟨[(3, .v (.int .u64 a)), (6, .sl (.ints .u8 b)), (7, .v (.int .i64 c)), (8, .v (.int .i64 d))], [], 0, 19⟩
def V3 : ASt → Option X3
 | ⟨[(3, .v (.int .u64 a)), (6, .sl (.ints .u8 b)), (7, .v (.int .i64 c)), (8, .v (.int .i64 d))], [], 0, 19⟩ => some (a, b, c, d)
 | _ => none
theorem aq4 (st) (x) (h : V3 st = some x) : st = S3 x := by
 unfold V3 at h
 split at h
 · cases h; rfl
 · cases h
abbrev Y3 := P.b9f
def E3 (K : AExit → ASt → Option R) : Y3 → Option R := (fun x => K (.exit 0) (S3 x))
noncomputable def L3 : oz := fun st K => abx (V3 st) fun x => P.b6v x (E3 K)
noncomputable def D : Ctx := ({ P := Tryz.prog, G := [], globs := GLO.gx, hints := [(3, ⟨[3, 6, 7, 8], [], [2], [], none, [], []⟩)], loops := [(3, L3)], inl := [] } : Ctx)
theorem ais (K) (next) (x) : jo D (dz Tryz.f106 3) K next (S3 x) = P.bvt x (fun x => next (S3 x)) (E3 K) := by kernel_rfl
theorem aqb : jl D (dz Tryz.f106 3) := gq S3 aq4 (by kernel_rfl) P.ccz ais
theorem loops : d9 (Tryz.f106.body.getD .skip) = [dz Tryz.f106 3] := by kernel_rfl
noncomputable def bn : Abs.Spec := fun args K => match args with
 | [.sl (.ints .u8 a)] => P.zf a (fun b => K (.v (.int .u64 b)))
 | _ => none
noncomputable def spec : Abs.Spec := fun args K => bn (og [.sl (.ints .u8 [])] args) K
theorem ok0 : Proved Tryz.prog GLO.gx 106 bn := by
 refine dh (D := D) (fn := Tryz.f106) (c := Tryz.f106.body.getD .skip) [.any] (by kernel_rfl) (bf (by kernel_rfl)) (by kernel_rfl) (by kernel_rfl) (by kernel_rfl) trivial trivial ?_ ?_
 · rw [loops]; exact ⟨aqb, trivial⟩
 · intro args K r h
   unfold bn at h
   split at h
   · rw [P.ayv] at h; exact Eq.trans (by kernel_rfl) h
   · cases h
theorem ok : Proved Tryz.prog GLO.gx 106 spec := eu _ ok0
end zf

namespace dw
noncomputable def D : Ctx := ({ P := Tryz.prog, G := [(154, o8.spec)], globs := GLO.gx, hints := [], loops := [], inl := [] } : Ctx)
theorem loops : d9 (Tryz.f163.body.getD .skip) = [] := by kernel_rfl
noncomputable def bn : Abs.Spec := fun args K => match args with
 | [.agg [.v (.int .i64 f), .v (.int .i64 e), .arr .i64 3 a, .arr .i64 3 b, .arr .i64 3 c, .arr .i64 3 d, .fn (.func 154) [] []], .v (.int .u32 g), .v (.int .i64 h)] => P.dw f e a b c d g h (fun i => K (.v (.int .u32 i)))
 | _ => none
noncomputable def spec : Abs.Spec := bn
theorem ok0 : Proved Tryz.prog GLO.gx 163 bn := by
 refine dh (D := D) (fn := Tryz.f163) (c := Tryz.f163.body.getD .skip) [.any] (by kernel_rfl) (bf (by kernel_rfl)) (by kernel_rfl) (by kernel_rfl) (by kernel_rfl) ⟨o8.ok, trivial⟩ trivial ?_ ?_
 · rw [loops]; exact trivial
 · intro args K r h
   unfold bn at h
   split at h
   · rw [P.ach] at h; exact Eq.trans (by kernel_rfl) h
   · cases h
theorem ok : Proved Tryz.prog GLO.gx 163 spec := ok0
end dw

namespace j6
noncomputable def D : Ctx := ({ P := Tryz.prog, G := [(154, o8.spec), (163, dw.spec)], globs := GLO.gx, hints := [], loops := [], inl := [] } : Ctx)
theorem loops : d9 (Tryz.f159.body.getD .skip) = [] := by kernel_rfl
noncomputable def bn : Abs.Spec := fun args K => match args with
 | [.agg [.v (.int .i64 f), .v (.int .i64 e), .arr .i64 3 a, .arr .i64 3 b, .arr .i64 3 c, .arr .i64 3 d, .fn (.func 154) [] []], .v (.int .u32 g), .v (.int .i64 h)] => P.j6 f e a b c d g h (fun i => K (.v (.int .u32 i)))
 | _ => none
noncomputable def spec : Abs.Spec := bn
theorem ok0 : Proved Tryz.prog GLO.gx 159 bn := by
 refine dh (D := D) (fn := Tryz.f159) (c := Tryz.f159.body.getD .skip) [.any] (by kernel_rfl) (bf (by kernel_rfl)) (by kernel_rfl) (by kernel_rfl) (by kernel_rfl) ⟨o8.ok, dw.ok, trivial⟩ trivial ?_ ?_
 · rw [loops]; exact trivial
 · intro args K r h
   unfold bn at h
   split at h
   · rw [P.aa1] at h; exact Eq.trans (by kernel_rfl) h
   · cases h
theorem ok : Proved Tryz.prog GLO.gx 159 spec := ok0
end j6

namespace l6
noncomputable def D : Ctx := ({ P := Tryz.prog, G := [(154, o8.spec), (163, dw.spec)], globs := GLO.gx, hints := [], loops := [], inl := [] } : Ctx)
theorem loops : d9 (Tryz.f160.body.getD .skip) = [] := by kernel_rfl
noncomputable def bn : Abs.Spec := fun args K => match args with
 | [.agg [.v (.int .i64 f), .v (.int .i64 e), .arr .i64 3 a, .arr .i64 3 b, .arr .i64 3 c, .arr .i64 3 d, .fn (.func 154) [] []], .v (.int .u32 g), .v (.int .i64 h)] => P.l6 f e a b c d g h (fun i => K (.v (.int .u32 i)))
 | _ => none
noncomputable def spec : Abs.Spec := bn
theorem ok0 : Proved Tryz.prog GLO.gx 160 bn := by
 refine dh (D := D) (fn := Tryz.f160) (c := Tryz.f160.body.getD .skip) [.any] (by kernel_rfl) (bf (by kernel_rfl)) (by kernel_rfl) (by kernel_rfl) (by kernel_rfl) ⟨o8.ok, dw.ok, trivial⟩ trivial ?_ ?_
 · rw [loops]; exact trivial
 · intro args K r h
   unfold bn at h
   split at h
   · rw [P.abh] at h; exact Eq.trans (by kernel_rfl) h
   · cases h
theorem ok : Proved Tryz.prog GLO.gx 160 spec := ok0
end l6

namespace mo
abbrev X4 := P.bzg
def S4 : X4 → ASt := fun (k, l, j, a, b, c, d, e, f, g, h, i) => ⟨[(2, .sl (.ints .u8 k)), (3, .ptr 0 0), (4, .ptr 1 0), (6, .ptr 2 0), (7, .ptr 3 0), (8, .v (.int .i64 l)), (19, .v (.int .i64 j))], [(0, some ⟨.box 159 [.v (.int .i64 a), .v (.int .i64 b), .arr .i64 3 c, .arr .i64 3 d, .arr .i64 3 e, .arr .i64 3 f, .fn (.func 154) [] []], false⟩), (1, some ⟨.box 173 [.arr .u32 8 g], false⟩), (2, some ⟨.box 173 [.arr .u32 8 h], false⟩), (3, some ⟨.box 178 [.arr .u32 16 i], false⟩)], 4, 143⟩
def V4 : ASt → Option X4
 | ⟨[(2, .sl (.ints .u8 k)), (3, .ptr 0 0), (4, .ptr 1 0), (6, .ptr 2 0), (7, .ptr 3 0), (8, .v (.int .i64 l)), (19, .v (.int .i64 j))], [(0, some ⟨.box 159 [.v (.int .i64 a), .v (.int .i64 b), .arr .i64 3 c, .arr .i64 3 d, .arr .i64 3 e, .arr .i64 3 f, .fn (.func 154) [] []], false⟩), (1, some ⟨.box 173 [.arr .u32 8 g], false⟩), (2, some ⟨.box 173 [.arr .u32 8 h], false⟩), (3, some ⟨.box 178 [.arr .u32 16 i], false⟩)], 4, 143⟩ => some (k, l, j, a, b, c, d, e, f, g, h, i)
 | _ => none
theorem atw (st) (x) (h : V4 st = some x) : st = S4 x := by
 unfold V4 at h
 split at h
 · cases h; rfl
 · cases h
abbrev Y4 := P.b4m
abbrev X10 := P.bxv
def S10 : X10 → ASt := fun (k, l, a, b, c, d, e, f, g, h, i, j) => ⟨[(3, .ptr 0 0), (4, .ptr 1 0), (6, .ptr 2 0), (7, .ptr 3 0), (10, .ptr 4 0), (38, .v (.int .i64 k)), (39, .v (.int .i64 l))], [(3, some ⟨.box 178 [.arr .u32 16 a], false⟩), (2, some ⟨.box 173 [.arr .u32 8 b], false⟩), (1, some ⟨.box 173 [.arr .u32 8 c], false⟩), (0, some ⟨.box 159 [.v (.int .i64 d), .v (.int .i64 e), .arr .i64 3 f, .arr .i64 3 g, .arr .i64 3 h, .arr .i64 3 i, .fn (.func 154) [] []], false⟩), (4, some ⟨.box 173 [.arr .u32 8 j], false⟩)], 5, 143⟩
def V10 : ASt → Option X10
 | ⟨[(3, .ptr 0 0), (4, .ptr 1 0), (6, .ptr 2 0), (7, .ptr 3 0), (10, .ptr 4 0), (38, .v (.int .i64 k)), (39, .v (.int .i64 l))], [(3, some ⟨.box 178 [.arr .u32 16 a], false⟩), (2, some ⟨.box 173 [.arr .u32 8 b], false⟩), (1, some ⟨.box 173 [.arr .u32 8 c], false⟩), (0, some ⟨.box 159 [.v (.int .i64 d), .v (.int .i64 e), .arr .i64 3 f, .arr .i64 3 g, .arr .i64 3 h, .arr .i64 3 i, .fn (.func 154) [] []], false⟩), (4, some ⟨.box 173 [.arr .u32 8 j], false⟩)], 5, 143⟩ => some (k, l, a, b, c, d, e, f, g, h, i, j)
 | _ => none
theorem bf5 (st) (x) (h : V10 st = some x) : st = S10 x := by
 unfold V10 at h
 split at h
 · cases h; rfl
 · cases h
abbrev Y10 := P.b8v
abbrev X21 := P.bxf
def S21 : X21 → ASt := fun (a, b, c, d) => ⟨[(4, .ptr 1 0), (6, .ptr 2 0), (10, .ptr 4 0), (130, .v (.int .i64 a))], [(1, some ⟨.box 173 [.arr .u32 8 b], false⟩), (2, some ⟨.box 173 [.arr .u32 8 c], false⟩), (4, some ⟨.box 173 [.arr .u32 8 d], false⟩)], 120, 143⟩
def V21 : ASt → Option X21
 | ⟨[(4, .ptr 1 0), (6, .ptr 2 0), (10, .ptr 4 0), (130, .v (.int .i64 a))], [(1, some ⟨.box 173 [.arr .u32 8 b], false⟩), (2, some ⟨.box 173 [.arr .u32 8 c], false⟩), (4, some ⟨.box 173 [.arr .u32 8 d], false⟩)], 120, 143⟩ => some (a, b, c, d)
 | _ => none
theorem bm0 (st) (x) (h : V21 st = some x) : st = S21 x := by
 unfold V21 at h
 split at h
 · cases h; rfl
 · cases h
abbrev Y21 := P.b91
def E4 (K : AExit → ASt → Option R) : Y4 → Option R := (fun x => K (.exit 0) (S4 x))
noncomputable def L4 : oz := fun st K => abx (V4 st) fun x => P.cby x (E4 K)
def E10 (K : AExit → ASt → Option R) : Y10 → Option R := (fun x => K (.exit 2) (S10 x))
noncomputable def L10 : oz := fun st K => abx (V10 st) fun x => P.b92 x (E10 K)
def E21 (K : AExit → ASt → Option R) : Y21 → Option R := (fun x => K (.exit 4) (S21 x))
noncomputable def L21 : oz := fun st K => abx (V21 st) fun x => P.b43 x (E21 K)
noncomputable def D : Ctx := ({ P := Tryz.prog, G := [(106, zf.spec), (154, o8.spec), (159, j6.spec), (160, l6.spec)], globs := GLO.gx, hints := [(21, ⟨[4, 6, 10, 130], [], [6], [], some (120, [1, 2, 4]), [], []⟩), (10, ⟨[3, 4, 6, 7, 10, 38, 39], [], [6], [], none, [], []⟩), (4, ⟨[2, 3, 4, 6, 7, 8, 19], [], [6], [], none, [], []⟩)], loops := [(4, L4), (10, L10), (21, L21)], inl := [] } : Ctx)
theorem aks (K) (next) (x) : jo D (dz Tryz.f153 4) K next (S4 x) = P.bvm x (fun x => next (S4 x)) (E4 K) := by kernel_rfl
theorem aun : jl D (dz Tryz.f153 4) := gq S4 atw (by kernel_rfl) P.cd8 aks
theorem ax8 (K) (next) (x) : jo D (dz Tryz.f153 10) K next (S10 x) = P.by5 x (fun x => next (S10 x)) (E10 K) := by kernel_rfl
theorem bfw : jl D (dz Tryz.f153 10) := gq S10 bf5 (by kernel_rfl) P.cc9 ax8
theorem bh0 (K) (next) (x) : jo D (dz Tryz.f153 21) K next (S21 x) = P.bwr x (fun x => next (S21 x)) (E21 K) := by kernel_rfl
theorem bnp : jl D (dz Tryz.f153 21) := gq S21 bm0 (by kernel_rfl) P.ccp bh0
theorem loops : d9 (Tryz.f153.body.getD .skip) = [dz Tryz.f153 4, dz Tryz.f153 10, dz Tryz.f153 21] := by kernel_rfl
noncomputable def bn : Abs.Spec := fun args K => match args with
 | [.agg [.v (.int .i64 f), .v (.int .i64 e), .arr .i64 3 a, .arr .i64 3 b, .arr .i64 3 c, .arr .i64 3 d, .fn (.func 154) [] []], .arr .u32 8 g, .sl (.ints .u8 h)] => P.mo f e a b c d g h (fun i => K (.arr .u32 8 i))
 | _ => none
noncomputable def spec : Abs.Spec := fun args K => bn (og [.any, .any, .sl (.ints .u8 [])] args) K
theorem ok0 : Proved Tryz.prog GLO.gx 153 bn := by
 refine dh (D := D) (fn := Tryz.f153) (c := Tryz.f153.body.getD .skip) [.any] (by kernel_rfl) (bf (by kernel_rfl)) (by kernel_rfl) (by kernel_rfl) (by kernel_rfl) ⟨zf.ok, o8.ok, j6.ok, l6.ok, trivial⟩ trivial ?_ ?_
 · rw [loops]; exact ⟨aun, bfw, bnp, trivial⟩
 · intro args K r h
   unfold bn at h
   split at h
   · rw [P.ady] at h; exact Eq.trans (by kernel_rfl) h
   · cases h
theorem ok : Proved Tryz.prog GLO.gx 153 spec := eu _ ok0
end mo

namespace qj
abbrev X3 := P.bz5
def S3 : X3 → ASt := fun (l, j, k, a, b, c, d, e, f, g, h, i) => ⟨[(2, .sl (.ints .u8 l)), (3, .ptr 0 0), (4, .ptr 1 0), (6, .ptr 2 0), (8, .ptr 3 0), (14, .arr .u64 8 j), (15, .v (.int .i64 k))], [(0, some ⟨.box 159 [.v (.int .i64 a), .v (.int .i64 b), .arr .i64 3 c, .arr .i64 3 d, .arr .i64 3 e, .arr .i64 3 f, .fn (.func 154) [] []], false⟩), (1, some ⟨.box 115 [.arr .u64 8 g], false⟩), (2, some ⟨.box 115 [.arr .u64 8 h], false⟩), (3, some ⟨.box 173 [.arr .u32 8 i], false⟩)], 4, 52⟩
def V3 : ASt → Option X3
 | ⟨[(2, .sl (.ints .u8 l)), (3, .ptr 0 0), (4, .ptr 1 0), (6, .ptr 2 0), (8, .ptr 3 0), (14, .arr .u64 8 j), (15, .v (.int .i64 k))], [(0, some ⟨.box 159 [.v (.int .i64 a), .v (.int .i64 b), .arr .i64 3 c, .arr .i64 3 d, .arr .i64 3 e, .arr .i64 3 f, .fn (.func 154) [] []], false⟩), (1, some ⟨.box 115 [.arr .u64 8 g], false⟩), (2, some ⟨.box 115 [.arr .u64 8 h], false⟩), (3, some ⟨.box 173 [.arr .u32 8 i], false⟩)], 4, 52⟩ => some (l, j, k, a, b, c, d, e, f, g, h, i)
 | _ => none
theorem aq4 (st) (x) (h : V3 st = some x) : st = S3 x := by
 unfold V3 at h
 split at h
 · cases h; rfl
 · cases h
abbrev Y3 := P.b7e
abbrev X8 := P.bxe
def S8 : X8 → ASt := fun (k, j, a, b, c, d, e, f, g, h, i) => ⟨[(2, .sl (.ints .u8 k)), (3, .ptr 0 0), (4, .ptr 1 0), (6, .ptr 2 0), (8, .ptr 3 0), (11, .v (.int .i64 j))], [(3, some ⟨.box 173 [.arr .u32 8 a], false⟩), (2, some ⟨.box 115 [.arr .u64 8 b], false⟩), (1, some ⟨.box 115 [.arr .u64 8 c], false⟩), (0, some ⟨.box 159 [.v (.int .i64 d), .v (.int .i64 e), .arr .i64 3 f, .arr .i64 3 g, .arr .i64 3 h, .arr .i64 3 i, .fn (.func 154) [] []], false⟩)], 4, 52⟩
def V8 : ASt → Option X8
 | ⟨[(2, .sl (.ints .u8 k)), (3, .ptr 0 0), (4, .ptr 1 0), (6, .ptr 2 0), (8, .ptr 3 0), (11, .v (.int .i64 j))], [(3, some ⟨.box 173 [.arr .u32 8 a], false⟩), (2, some ⟨.box 115 [.arr .u64 8 b], false⟩), (1, some ⟨.box 115 [.arr .u64 8 c], false⟩), (0, some ⟨.box 159 [.v (.int .i64 d), .v (.int .i64 e), .arr .i64 3 f, .arr .i64 3 g, .arr .i64 3 h, .arr .i64 3 i, .fn (.func 154) [] []], false⟩)], 4, 52⟩ => some (k, j, a, b, c, d, e, f, g, h, i)
 | _ => none
theorem bht (st) (x) (h : V8 st = some x) : st = S8 x := by
 unfold V8 at h
 split at h
 · cases h; rfl
 · cases h
abbrev Y8 := P.b5a
abbrev X12 := P.byy
def S12 : X12 → ASt := fun (e, c, d, a, b) => ⟨[(2, .sl (.ints .u8 e)), (4, .ptr 1 0), (6, .ptr 2 0), (40, .arr .u32 8 c), (41, .v (.int .i64 d))], [(1, some ⟨.box 115 [.arr .u64 8 a], false⟩), (2, some ⟨.box 115 [.arr .u64 8 b], false⟩)], 120, 52⟩
def V12 : ASt → Option X12
 | ⟨[(2, .sl (.ints .u8 e)), (4, .ptr 1 0), (6, .ptr 2 0), (40, .arr .u32 8 c), (41, .v (.int .i64 d))], [(1, some ⟨.box 115 [.arr .u64 8 a], false⟩), (2, some ⟨.box 115 [.arr .u64 8 b], false⟩)], 120, 52⟩ => some (e, c, d, a, b)
 | _ => none
theorem bgo (st) (x) (h : V12 st = some x) : st = S12 x := by
 unfold V12 at h
 split at h
 · cases h; rfl
 · cases h
abbrev Y12 := P.cbo
def E3 (K : AExit → ASt → Option R) : Y3 → Option R := (fun x => K (.exit 0) (S3 x))
noncomputable def L3 : oz := fun st K => abx (V3 st) fun x => P.b5d x (E3 K)
def E8 (K : AExit → ASt → Option R) : Y8 → Option R := (fun x => K (.exit 2) (S8 x))
noncomputable def L8 : oz := fun st K => abx (V8 st) fun x => P.b8p x (E8 K)
def E12 (K : AExit → ASt → Option R) : Y12 → Option R := (fun x => K (.exit 4) (S12 x))
noncomputable def L12 : oz := fun st K => abx (V12 st) fun x => P.b9a x (E12 K)
noncomputable def D : Ctx := ({ P := Tryz.prog, G := [(153, mo.spec), (154, o8.spec)], globs := GLO.gx, hints := [(12, ⟨[2, 4, 6, 40, 41], [], [6, 7], [], some (120, [1, 2]), [], []⟩), (8, ⟨[2, 3, 4, 6, 8, 11], [], [6, 7], [(2, .sl (.ints .u8 []))], none, [], []⟩), (3, ⟨[2, 3, 4, 6, 8, 14, 15], [], [6, 7], [], none, [], []⟩)], loops := [(3, L3), (8, L8), (12, L12)], inl := [] } : Ctx)
theorem ais (K) (next) (x) : jo D (dz Tryz.f144 3) K next (S3 x) = P.bx4 x (fun x => next (S3 x)) (E3 K) := by kernel_rfl
theorem aqb : jl D (dz Tryz.f144 3) := gq S3 aq4 (by kernel_rfl) P.ccx ais
theorem azu (K) (next) (x) : jo D (dz Tryz.f144 8) K next (S8 x) = P.bzh x (fun x => next (S8 x)) (E8 K) := by kernel_rfl
theorem bhr : jl D (dz Tryz.f144 8) := gq S8 bht (by kernel_rfl) P.ccn azu
theorem axx (K) (next) (x) : jo D (dz Tryz.f144 12) K next (S12 x) = P.bw4 x (fun x => next (S12 x)) (E12 K) := by kernel_rfl
theorem bga : jl D (dz Tryz.f144 12) := gq S12 bgo (by kernel_rfl) P.ccl axx
theorem loops : d9 (Tryz.f144.body.getD .skip) = [dz Tryz.f144 3, dz Tryz.f144 8, dz Tryz.f144 12] := by kernel_rfl
noncomputable def bn : Abs.Spec := fun args K => match args with
 | [.agg [.v (.int .i64 f), .v (.int .i64 e), .arr .i64 3 a, .arr .i64 3 b, .arr .i64 3 c, .arr .i64 3 d, .fn (.func 154) [] []], .arr .u64 8 g, .sl (.ints .u8 h)] => P.qj f e a b c d g h (fun i j => K (.tuple [.arr .u64 8 i, .sl (.ints .u8 j)]))
 | _ => none
noncomputable def spec : Abs.Spec := fun args K => bn (og [.any, .any, .sl (.ints .u8 [])] args) K
theorem ok0 : Proved Tryz.prog GLO.gx 144 bn := by
 refine dh (D := D) (fn := Tryz.f144) (c := Tryz.f144.body.getD .skip) [.any, .sl (.ints .u8 [])] (by kernel_rfl) (bf (by kernel_rfl)) (by kernel_rfl) (by kernel_rfl) (by kernel_rfl) ⟨mo.ok, o8.ok, trivial⟩ trivial ?_ ?_
 · rw [loops]; exact ⟨aqb, bhr, bga, trivial⟩
 · intro args K r h
   unfold bn at h
   split at h
   · rw [P.agp] at h; exact Eq.trans (by kernel_rfl) h
   · cases h
theorem ok : Proved Tryz.prog GLO.gx 144 spec := eu _ ok0
end qj

namespace dx
noncomputable def D : Ctx := ({ P := Tryz.prog, G := [(156, pq.spec)], globs := GLO.gx, hints := [], loops := [], inl := [] } : Ctx)
theorem loops : d9 (Tryz.f164.body.getD .skip) = [] := by kernel_rfl
noncomputable def bn : Abs.Spec := fun args K => match args with
 | [.agg [.v (.int .i64 f), .v (.int .i64 e), .arr .i64 3 a, .arr .i64 3 b, .arr .i64 3 c, .arr .i64 3 d, .fn (.func 156) [] []], .v (.int .u64 g), .v (.int .i64 h)] => P.dx f e a b c d g h (fun i => K (.v (.int .u64 i)))
 | _ => none
noncomputable def spec : Abs.Spec := bn
theorem ok0 : Proved Tryz.prog GLO.gx 164 bn := by
 refine dh (D := D) (fn := Tryz.f164) (c := Tryz.f164.body.getD .skip) [.any] (by kernel_rfl) (bf (by kernel_rfl)) (by kernel_rfl) (by kernel_rfl) (by kernel_rfl) ⟨pq.ok, trivial⟩ trivial ?_ ?_
 · rw [loops]; exact trivial
 · intro args K r h
   unfold bn at h
   split at h
   · rw [P.aci] at h; exact Eq.trans (by kernel_rfl) h
   · cases h
theorem ok : Proved Tryz.prog GLO.gx 164 spec := ok0
end dx

end
