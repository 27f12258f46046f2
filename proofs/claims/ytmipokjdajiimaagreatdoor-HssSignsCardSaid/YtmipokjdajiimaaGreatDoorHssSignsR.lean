/-
  HssSigns, part 18: an interpreter of my own over abstract values, the pure functions, the walks and the plain law.
-/

import Derived.Test.YtmipokjdajiimaaGreatDoorHssSignsK
import Derived.Test.YtmipokjdajiimaaGreatDoorHssSignsH
import Derived.Test.YtmipokjdajiimaaGreatDoorProg
import Derived.Test.YtmipokjdajiimaaGreatDoorHssSignsJ
import Derived.Test.YtmipokjdajiimaaGreatDoorHssSignsQ
import Derived.KernelRfl
import Derived.Test.YtmipokjdajiimaaGreatDoorHssSignsP
import Derived.Test.YtmipokjdajiimaaGreatDoorHssSignsL

section
open Go Go.Abs Go.Proofs
set_option maxRecDepth 100000
set_option maxHeartbeats 0
set_option linter.unusedVariables false

namespace ag4
abbrev X4 := P.bux
def S4 : X4 → ASt := fun (f, g, e, a, b, c, d) => ⟨[(5, .own 40), (1, .ptr 0 0), (3, .v (.int .i64 f)), (4, .v (.int .u64 g))], [(40, some ⟨.row 5 (.ints .u8 e), false⟩), (0, some ⟨.box 127 [.v (.int .i64 a), .arr .u64 8 b, .sl (.ints .u8 c), .v (.int .u64 d)], false⟩)], 41, 77⟩
def V4 : ASt → Option X4
 | ⟨[(5, .own 40), (1, .ptr 0 0), (3, .v (.int .i64 f)), (4, .v (.int .u64 g))], [(40, some ⟨.row 5 (.ints .u8 e), false⟩), (0, some ⟨.box 127 [.v (.int .i64 a), .arr .u64 8 b, .sl (.ints .u8 c), .v (.int .u64 d)], false⟩)], 41, 77⟩ => some (f, g, e, a, b, c, d)
 | _ => none
theorem avh (st) (x) (h : V4 st = some x) : st = S4 x := by
 unfold V4 at h
 split at h
 · cases h; rfl
 · cases h
abbrev Y4 := P.b3h
abbrev X8 := P.bu4
def S8 : X8 → ASt := fun (f, g, e, a, b, c, d) => ⟨[(5, .own 80), (1, .ptr 0 0), (3, .v (.int .i64 f)), (4, .v (.int .u64 g))], [(80, some ⟨.row 5 (.ints .u8 e), false⟩), (0, some ⟨.box 127 [.v (.int .i64 a), .arr .u64 8 b, .sl (.ints .u8 c), .v (.int .u64 d)], false⟩)], 81, 77⟩
def V8 : ASt → Option X8
 | ⟨[(5, .own 80), (1, .ptr 0 0), (3, .v (.int .i64 f)), (4, .v (.int .u64 g))], [(80, some ⟨.row 5 (.ints .u8 e), false⟩), (0, some ⟨.box 127 [.v (.int .i64 a), .arr .u64 8 b, .sl (.ints .u8 c), .v (.int .u64 d)], false⟩)], 81, 77⟩ => some (f, g, e, a, b, c, d)
 | _ => none
theorem bbh (st) (x) (h : V8 st = some x) : st = S8 x := by
 unfold V8 at h
 split at h
 · cases h; rfl
 · cases h
abbrev Y8 := P.b4u
abbrev X14 := P.bt5
def S14 : X14 → ASt := fun (f, g, a, b, c, d, e) => ⟨[(6, .own 120), (1, .ptr 0 0), (3, .v (.int .i64 f)), (7, .v (.int .i64 g))], [(120, some ⟨.row 5 (.ints .u8 a), false⟩), (0, some ⟨.box 127 [.v (.int .i64 b), .arr .u64 8 c, .sl (.ints .u8 d), .v (.int .u64 e)], false⟩)], 121, 77⟩
def V14 : ASt → Option X14
 | ⟨[(6, .own 120), (1, .ptr 0 0), (3, .v (.int .i64 f)), (7, .v (.int .i64 g))], [(120, some ⟨.row 5 (.ints .u8 a), false⟩), (0, some ⟨.box 127 [.v (.int .i64 b), .arr .u64 8 c, .sl (.ints .u8 d), .v (.int .u64 e)], false⟩)], 121, 77⟩ => some (f, g, a, b, c, d, e)
 | _ => none
theorem buy (st) (x) (h : V14 st = some x) : st = S14 x := by
 unfold V14 at h
 split at h
 · cases h; rfl
 · cases h
abbrev Y14 := P.b0d
def E4 (K : AExit → ASt → Option R) : Y4 → Option R := (fun x => K (.exit 0) (S4 x))
noncomputable def L4 : qb := fun st K => adk (V4 st) fun x => P.b4a x (E4 K)
def E8 (K : AExit → ASt → Option R) : Y8 → Option R := (fun x => K (.exit 2) (S8 x))
noncomputable def L8 : qb := fun st K => adk (V8 st) fun x => P.b3w x (E8 K)
def E14 (K : AExit → ASt → Option R) : Y14 → Option R := (fun x => K (.exit 4) (S14 x))
noncomputable def L14 : qb := fun st K => adk (V14 st) fun x => P.b3i x (E14 K)
noncomputable def D : Ctx := ({ P := Tryz.prog, G := [(32, gy.spec), (100, abf.spec), (110, wz.spec)], globs := GLO.gB, hints := [(14, ⟨[1, 3, 7], [(6, 5, .ints .u8 [])], [2], [], some (120, [0]), [0], [], []⟩), (8, ⟨[1, 3, 4], [(5, 5, .ints .u8 [])], [2], [], some (80, [0]), [0], [], []⟩), (4, ⟨[1, 3, 4], [(5, 5, .ints .u8 [])], [2], [], some (40, [0]), [0], [], []⟩)], loops := [(4, L4), (8, L8), (14, L14)], inl := [] } : Ctx)
theorem ak5 (K) (next) (x) : lu D (cu Tryz.f99 4) K next (S4 x) = P.bud x (fun x => next (S4 x)) (E4 K) := by kernel_rfl
theorem avs : jq D (cu Tryz.f99 4) := eu S4 avh (by kernel_rfl) P.b61 ak5
theorem aqe (K) (next) (x) : lu D (cu Tryz.f99 8) K next (S8 x) = P.bwl x (fun x => next (S8 x)) (E8 K) := by kernel_rfl
theorem bcw : jq D (cu Tryz.f99 8) := eu S8 bbh (by kernel_rfl) P.b6k aqe
theorem brm (K) (next) (x) : lu D (cu Tryz.f99 14) K next (S14 x) = P.bxi x (fun x => next (S14 x)) (E14 K) := by kernel_rfl
theorem bvx : jq D (cu Tryz.f99 14) := eu S14 buy (by kernel_rfl) P.b6e brm
theorem loops : bg (Tryz.f99.body.getD .skip) = [cu Tryz.f99 4, cu Tryz.f99 8, cu Tryz.f99 14] := by kernel_rfl
noncomputable def ak : Abs.Spec := fun args K => match args with
 | [.agg [.v (.int .i64 b), .arr .u64 8 a, .sl (.ints .u8 c), .v (.int .u64 d)]] => P.ag4 b a c d (fun e => K (.fr 5 (.ints .u8 e)))
 | _ => none
noncomputable def spec : Abs.Spec := fun args K => ak (kg [.agg [.any, .any, .sl (.ints .u8 []), .any]] args) K
theorem ok0 : Proved Tryz.prog GLO.gB 99 ak := by
 refine asb (D := D) (fn := Tryz.f99) (c := Tryz.f99.body.getD .skip) 5 (.ints .u8 []) (by kernel_rfl) (ah (by kernel_rfl)) (by kernel_rfl) (by kernel_rfl) (by kernel_rfl) ⟨gy.ok, abf.ok, wz.ok, trivial⟩ trivial ?_ ?_
 · rw [loops]; exact ⟨avs, bcw, bvx, trivial⟩
 · intro args K r h
   unfold ak at h
   split at h
   · rw [P.azj] at h; exact Eq.trans (by kernel_rfl) h
   · cases h
theorem ok : Proved Tryz.prog GLO.gB 99 spec := bn _ ok0
end ag4

namespace ag2
noncomputable def D : Ctx := ({ P := Tryz.prog, G := [], globs := GLO.gB, hints := [], loops := [], inl := [] } : Ctx)
theorem loops : bg (Tryz.f98.body.getD .skip) = [] := by kernel_rfl
noncomputable def ak : Abs.Spec := fun args K => match args with
 | [.v (.int .i64 e)] => P.ag2 e (fun b a c d f => K (.tuple [.agg [.v (.int .i64 b), .arr .u64 8 a, .fr 5 (.ints .u8 c), .v (.int .u64 d)], .v (.int .i64 f)]))
 | _ => none
noncomputable def spec : Abs.Spec := ak
theorem ok0 : Proved Tryz.prog GLO.gB 98 ak := by
 refine bf (D := D) (fn := Tryz.f98) (c := Tryz.f98.body.getD .skip) [.agg [.any, .any, .fr 5 (.ints .u8 []), .any], .any] (by kernel_rfl) (ah (by kernel_rfl)) (by kernel_rfl) (by kernel_rfl) (by kernel_rfl) trivial trivial ?_ ?_
 · rw [loops]; exact trivial
 · intro args K r h
   unfold ak at h
   split at h
   · rw [P.azo] at h; exact Eq.trans (by kernel_rfl) h
   · cases h
theorem ok : Proved Tryz.prog GLO.gB 98 spec := ok0
end ag2

namespace agw
noncomputable def D : Ctx := ({ P := Tryz.prog, G := [(98, ag2.spec), (99, ag4.spec), (100, abf.spec)], globs := GLO.gB, hints := [], loops := [], inl := [] } : Ctx)
theorem loops : bg (Tryz.f87.body.getD .skip) = [] := by kernel_rfl
noncomputable def ak : Abs.Spec := fun args K => match args with
 | [.v (.int .i64 a), .sl (.ints .u8 b)] => P.agw a b (fun c d => K (.tuple [.fr 5 (.ints .u8 c), .v (.int .i64 d)]))
 | _ => none
noncomputable def spec : Abs.Spec := fun args K => ak (kg [.any, .sl (.ints .u8 [])] args) K
theorem ok0 : Proved Tryz.prog GLO.gB 87 ak := by
 refine bf (D := D) (fn := Tryz.f87) (c := Tryz.f87.body.getD .skip) [.fr 5 (.ints .u8 []), .any] (by kernel_rfl) (ah (by kernel_rfl)) (by kernel_rfl) (by kernel_rfl) (by kernel_rfl) ⟨ag2.ok, ag4.ok, abf.ok, trivial⟩ trivial ?_ ?_
 · rw [loops]; exact trivial
 · intro args K r h
   unfold ak at h
   split at h
   · rw [P.azx] at h; exact Eq.trans (by kernel_rfl) h
   · cases h
theorem ok : Proved Tryz.prog GLO.gB 87 spec := bn _ ok0
end agw

namespace ad1
noncomputable def D : Ctx := ({ P := Tryz.prog, G := [(37, kr.spec), (87, agw.spec)], globs := GLO.gB, hints := [], loops := [], inl := [] } : Ctx)
theorem loops : bg (Tryz.f62.body.getD .skip) = [] := by kernel_rfl
noncomputable def ak : Abs.Spec := fun args K => match args with
 | [.sl (.rows .u8 a)] => P.ad1 a (fun b => K (.fr 5 (.ints .u8 b)))
 | _ => none
noncomputable def spec : Abs.Spec := fun args K => ak (kg [.sl (.rows .u8 [])] args) K
theorem ok0 : Proved Tryz.prog GLO.gB 62 ak := by
 refine bf (D := D) (fn := Tryz.f62) (c := Tryz.f62.body.getD .skip) [.fr 5 (.ints .u8 [])] (by kernel_rfl) (ah (by kernel_rfl)) (by kernel_rfl) (by kernel_rfl) (by kernel_rfl) ⟨kr.ok, agw.ok, trivial⟩ trivial ?_ ?_
 · rw [loops]; exact trivial
 · intro args K r h
   unfold ak at h
   split at h
   · rw [P.bjd] at h; exact Eq.trans (by kernel_rfl) h
   · cases h
theorem ok : Proved Tryz.prog GLO.gB 62 spec := bn _ ok0
end ad1

namespace aaq
abbrev X2 := P.bun
def S2 : X2 → ASt := fun (b, c, d, e, f, a) => ⟨[(0, .sl (.ints .u8 b)), (1, .v (.int .u32 c)), (2, .v (.int .i64 d)), (4, .v (.int .i64 e)), (5, .sl (.ints .u8 f)), (13, .v (.int .i64 a))], [], 0, 34⟩
def V2 : ASt → Option X2
 | ⟨[(0, .sl (.ints .u8 b)), (1, .v (.int .u32 c)), (2, .v (.int .i64 d)), (4, .v (.int .i64 e)), (5, .sl (.ints .u8 f)), (13, .v (.int .i64 a))], [], 0, 34⟩ => some (b, c, d, e, f, a)
 | _ => none
theorem bl3 (st) (x) (h : V2 st = some x) : st = S2 x := by
 unfold V2 at h
 split at h
 · cases h; rfl
 · cases h
abbrev Y2 := P.b5i
def E2 (K : AExit → ASt → Option R) : Y2 → Option R := (fun x => K (.exit 0) (S2 x))
noncomputable def L2 : qb := fun st K => adk (V2 st) fun x => P.b4s x (E2 K)
noncomputable def D : Ctx := ({ P := Tryz.prog, G := [(32, gy.spec), (62, ad1.spec)], globs := GLO.gB, hints := [(2, ⟨[0, 1, 2, 4, 5, 13], [], [12], [(5, .sl (.ints .u8 []))], none, [], [], []⟩)], loops := [(2, L2)], inl := [] } : Ctx)
theorem bej (K) (next) (x) : lu D (cu Tryz.f83 2) K next (S2 x) = P.bw8 x (fun x => next (S2 x)) (E2 K) := by kernel_rfl
theorem bnx : jq D (cu Tryz.f83 2) := eu S2 bl3 (by kernel_rfl) P.b6f bej
theorem loops : bg (Tryz.f83.body.getD .skip) = [cu Tryz.f83 2] := by kernel_rfl
noncomputable def ak : Abs.Spec := fun args K => match args with
 | [.sl (.ints .u8 a), .v (.int .u32 b), .v (.int .i64 c), .v (.int .i64 d), .v (.int .i64 e), .sl (.ints .u8 f)] => P.aaq a b c d e f (fun g => K (.sl (.ints .u8 g)))
 | _ => none
noncomputable def spec : Abs.Spec := fun args K => ak (kg [.sl (.ints .u8 []), .any, .any, .any, .any, .sl (.ints .u8 [])] args) K
theorem ok0 : Proved Tryz.prog GLO.gB 83 ak := by
 refine bf (D := D) (fn := Tryz.f83) (c := Tryz.f83.body.getD .skip) [.sl (.ints .u8 [])] (by kernel_rfl) (ah (by kernel_rfl)) (by kernel_rfl) (by kernel_rfl) (by kernel_rfl) ⟨gy.ok, ad1.ok, trivial⟩ trivial ?_ ?_
 · rw [loops]; exact ⟨bnx, trivial⟩
 · intro args K r h
   unfold ak at h
   split at h
   · rw [P.as3] at h; exact Eq.trans (by kernel_rfl) h
   · cases h
theorem ok : Proved Tryz.prog GLO.gB 83 spec := bn _ ok0
end aaq

namespace ajr
noncomputable def D : Ctx := ({ P := Tryz.prog, G := [(32, gy.spec), (37, kr.spec), (62, ad1.spec)], globs := GLO.gB, hints := [], loops := [], inl := [] } : Ctx)
theorem loops : bg (Tryz.f94.body.getD .skip) = [] := by kernel_rfl
noncomputable def ak : Abs.Spec := fun args K => match args with
 | [.sl (.ints .u8 a), .v (.int .u32 b), .sl (.rows .u8 c)] => P.ajr a b c (fun d => K (.fr 5 (.ints .u8 d)))
 | _ => none
noncomputable def spec : Abs.Spec := fun args K => ak (kg [.sl (.ints .u8 []), .any, .sl (.rows .u8 [])] args) K
theorem ok0 : Proved Tryz.prog GLO.gB 94 ak := by
 refine bf (D := D) (fn := Tryz.f94) (c := Tryz.f94.body.getD .skip) [.fr 5 (.ints .u8 [])] (by kernel_rfl) (ah (by kernel_rfl)) (by kernel_rfl) (by kernel_rfl) (by kernel_rfl) ⟨gy.ok, kr.ok, ad1.ok, trivial⟩ trivial ?_ ?_
 · rw [loops]; exact trivial
 · intro args K r h
   unfold ak at h
   split at h
   · rw [P.ayu] at h; exact Eq.trans (by kernel_rfl) h
   · cases h
theorem ok : Proved Tryz.prog GLO.gB 94 spec := bn _ ok0
end ajr

namespace acf
noncomputable def D : Ctx := ({ P := Tryz.prog, G := [(32, gy.spec), (62, ad1.spec)], globs := GLO.gB, hints := [], loops := [], inl := [] } : Ctx)
theorem loops : bg (Tryz.f80.body.getD .skip) = [] := by kernel_rfl
noncomputable def ak : Abs.Spec := fun args K => match args with
 | [.sl (.ints .u8 a), .v (.int .u32 b), .v (.int .i64 c), .sl (.ints .u8 d)] => P.acf a b c d (fun e => K (.fr 5 (.ints .u8 e)))
 | _ => none
noncomputable def spec : Abs.Spec := fun args K => ak (kg [.sl (.ints .u8 []), .any, .any, .sl (.ints .u8 [])] args) K
theorem ok0 : Proved Tryz.prog GLO.gB 80 ak := by
 refine bf (D := D) (fn := Tryz.f80) (c := Tryz.f80.body.getD .skip) [.fr 5 (.ints .u8 [])] (by kernel_rfl) (ah (by kernel_rfl)) (by kernel_rfl) (by kernel_rfl) (by kernel_rfl) ⟨gy.ok, ad1.ok, trivial⟩ trivial ?_ ?_
 · rw [loops]; exact trivial
 · intro args K r h
   unfold ak at h
   split at h
   · rw [P.avc] at h; exact Eq.trans (by kernel_rfl) h
   · cases h
theorem ok : Proved Tryz.prog GLO.gB 80 spec := bn _ ok0
end acf

namespace aap
noncomputable def D : Ctx := ({ P := Tryz.prog, G := [(70, om.spec)], globs := GLO.gB, hints := [], loops := [], inl := [] } : Ctx)
theorem loops : bg (Tryz.f79.body.getD .skip) = [] := by kernel_rfl
noncomputable def ak : Abs.Spec := fun args K => match args with
 | [.v (.int .i64 a), .sl (.ints .u8 b), .sl (.ints .u8 c)] => P.aap a b c (fun d => K (.v (.int .i64 d)))
 | _ => none
noncomputable def spec : Abs.Spec := fun args K => ak (kg [.any, .sl (.ints .u8 []), .sl (.ints .u8 [])] args) K
theorem ok0 : Proved Tryz.prog GLO.gB 79 ak := by
 refine bf (D := D) (fn := Tryz.f79) (c := Tryz.f79.body.getD .skip) [.any] (by kernel_rfl) (ah (by kernel_rfl)) (by kernel_rfl) (by kernel_rfl) (by kernel_rfl) ⟨om.ok, trivial⟩ trivial ?_ ?_
 · rw [loops]; exact trivial
 · intro args K r h
   unfold ak at h
   split at h
   · rw [P.asx] at h; exact Eq.trans (by kernel_rfl) h
   · cases h
theorem ok : Proved Tryz.prog GLO.gB 79 spec := bn _ ok0
end aap

namespace ab9
abbrev X7 := P.bwm
def S7 : X7 → ASt := fun (c, d, e, f, a, b, g) => ⟨[(14, .own 0), (0, .v (.int .i64 c)), (1, .sl (.ints .u8 d)), (2, .v (.int .u32 e)), (3, .sl (.ints .u8 f)), (11, .v (.int .i64 a)), (15, .v (.int .i64 b))], [(0, some ⟨.row 23 (.rows .u8 g), false⟩)], 1, 53⟩
def V7 : ASt → Option X7
 | ⟨[(14, .own 0), (0, .v (.int .i64 c)), (1, .sl (.ints .u8 d)), (2, .v (.int .u32 e)), (3, .sl (.ints .u8 f)), (11, .v (.int .i64 a)), (15, .v (.int .i64 b))], [(0, some ⟨.row 23 (.rows .u8 g), false⟩)], 1, 53⟩ => some (c, d, e, f, a, b, g)
 | _ => none
theorem blp (st) (x) (h : V7 st = some x) : st = S7 x := by
 unfold V7 at h
 split at h
 · cases h; rfl
 · cases h
abbrev Y7 := P.b0b
def E7 (K : AExit → ASt → Option R) : Y7 → Option R := (fun x => K (.exit 0) (S7 x))
noncomputable def L7 : qb := fun st K => adk (V7 st) fun x => P.b2g x (E7 K)
noncomputable def D : Ctx := ({ P := Tryz.prog, G := [(70, om.spec), (79, aap.spec), (80, acf.spec), (83, aaq.spec), (94, ajr.spec)], globs := GLO.gB, hints := [(7, ⟨[0, 1, 2, 3, 11, 15], [(14, 23, .rows .u8 [])], [8, 9], [], none, [], [], []⟩)], loops := [(7, L7)], inl := [] } : Ctx)
theorem be4 (K) (next) (x) : lu D (cu Tryz.f71 7) K next (S7 x) = P.bw4 x (fun x => next (S7 x)) (E7 K) := by kernel_rfl
theorem bm6 : jq D (cu Tryz.f71 7) := eu S7 blp (by kernel_rfl) P.b6w be4
theorem loops : bg (Tryz.f71.body.getD .skip) = [cu Tryz.f71 7] := by kernel_rfl
noncomputable def ak : Abs.Spec := fun args K => match args with
 | [.v (.int .i64 a), .sl (.ints .u8 b), .v (.int .u32 c), .sl (.ints .u8 d)] => P.ab9 a b c d (fun e f => K (.tuple [.fr 5 (.ints .u8 e), .v (.int .i64 f)]))
 | _ => none
noncomputable def spec : Abs.Spec := fun args K => ak (kg [.any, .sl (.ints .u8 []), .any, .sl (.ints .u8 [])] args) K
theorem ok0 : Proved Tryz.prog GLO.gB 71 ak := by
 refine bf (D := D) (fn := Tryz.f71) (c := Tryz.f71.body.getD .skip) [.fr 5 (.ints .u8 []), .any] (by kernel_rfl) (ah (by kernel_rfl)) (by kernel_rfl) (by kernel_rfl) (by kernel_rfl) ⟨om.ok, aap.ok, acf.ok, aaq.ok, ajr.ok, trivial⟩ trivial ?_ ?_
 · rw [loops]; exact ⟨bm6, trivial⟩
 · intro args K r h
   unfold ak at h
   split at h
   · rw [P.aqx] at h; exact Eq.trans (by kernel_rfl) h
   · cases h
theorem ok : Proved Tryz.prog GLO.gB 71 spec := bn _ ok0
end ab9

namespace x9
noncomputable def D : Ctx := ({ P := Tryz.prog, G := [(32, gy.spec), (62, ad1.spec)], globs := GLO.gB, hints := [], loops := [], inl := [] } : Ctx)
theorem loops : bg (Tryz.f72.body.getD .skip) = [] := by kernel_rfl
noncomputable def ak : Abs.Spec := fun args K => match args with
 | [.sl (.ints .u8 a), .v (.int .u64 b), .sl (.ints .u8 c)] => P.x9 a b c (fun d => K (.fr 5 (.ints .u8 d)))
 | _ => none
noncomputable def spec : Abs.Spec := fun args K => ak (kg [.sl (.ints .u8 []), .any, .sl (.ints .u8 [])] args) K
theorem ok0 : Proved Tryz.prog GLO.gB 72 ak := by
 refine bf (D := D) (fn := Tryz.f72) (c := Tryz.f72.body.getD .skip) [.fr 5 (.ints .u8 [])] (by kernel_rfl) (ah (by kernel_rfl)) (by kernel_rfl) (by kernel_rfl) (by kernel_rfl) ⟨gy.ok, ad1.ok, trivial⟩ trivial ?_ ?_
 · rw [loops]; exact trivial
 · intro args K r h
   unfold ak at h
   split at h
   · rw [P.am1] at h; exact Eq.trans (by kernel_rfl) h
   · cases h
theorem ok : Proved Tryz.prog GLO.gB 72 spec := bn _ ok0
end x9

namespace adv
noncomputable def D : Ctx := ({ P := Tryz.prog, G := [(32, gy.spec), (62, ad1.spec)], globs := GLO.gB, hints := [], loops := [], inl := [] } : Ctx)
theorem loops : bg (Tryz.f73.body.getD .skip) = [] := by kernel_rfl
noncomputable def ak : Abs.Spec := fun args K => match args with
 | [.sl (.ints .u8 a), .v (.int .u64 b), .sl (.ints .u8 c), .sl (.ints .u8 d)] => P.adv a b c d (fun e => K (.fr 5 (.ints .u8 e)))
 | _ => none
noncomputable def spec : Abs.Spec := fun args K => ak (kg [.sl (.ints .u8 []), .any, .sl (.ints .u8 []), .sl (.ints .u8 [])] args) K
theorem ok0 : Proved Tryz.prog GLO.gB 73 ak := by
 refine bf (D := D) (fn := Tryz.f73) (c := Tryz.f73.body.getD .skip) [.fr 5 (.ints .u8 [])] (by kernel_rfl) (ah (by kernel_rfl)) (by kernel_rfl) (by kernel_rfl) (by kernel_rfl) ⟨gy.ok, ad1.ok, trivial⟩ trivial ?_ ?_
 · rw [loops]; exact trivial
 · intro args K r h
   unfold ak at h
   split at h
   · rw [P.axg] at h; exact Eq.trans (by kernel_rfl) h
   · cases h
theorem ok : Proved Tryz.prog GLO.gB 73 spec := bn _ ok0
end adv

namespace aam
abbrev X4 := P.bwe
def S4 : X4 → ASt := fun (c, d, e, f, a, b, g) => ⟨[(1, .sl (.ints .u8 c)), (2, .sl (.ints .u8 d)), (3, .ptr 0 0), (7, .v (.int .i64 e)), (8, .own 1), (9, .v (.int .i64 f))], [(0, some ⟨.box 40 [.v (.int .i64 a), .v (.int .i64 b)], false⟩), (1, some ⟨.row 23 (.rows .u8 g), false⟩)], 2, 67⟩
def V4 : ASt → Option X4
 | ⟨[(1, .sl (.ints .u8 c)), (2, .sl (.ints .u8 d)), (3, .ptr 0 0), (7, .v (.int .i64 e)), (8, .own 1), (9, .v (.int .i64 f))], [(0, some ⟨.box 40 [.v (.int .i64 a), .v (.int .i64 b)], false⟩), (1, some ⟨.row 23 (.rows .u8 g), false⟩)], 2, 67⟩ => some (c, d, e, f, a, b, g)
 | _ => none
theorem avh (st) (x) (h : V4 st = some x) : st = S4 x := by
 unfold V4 at h
 split at h
 · cases h; rfl
 · cases h
abbrev Y4 := P.b5f
def E4 (K : AExit → ASt → Option R) : Y4 → Option R := (fun x => K (.exit 0) (S4 x))
noncomputable def L4 : qb := fun st K => adk (V4 st) fun x => P.b3o x (E4 K)
noncomputable def D : Ctx := ({ P := Tryz.prog, G := [(71, ab9.spec), (72, x9.spec), (73, adv.spec)], globs := GLO.gB, hints := [(4, ⟨[1, 2, 3, 7, 8, 9], [], [6], [], none, [], [], []⟩)], loops := [(4, L4)], inl := [] } : Ctx)
theorem ak5 (K) (next) (x) : lu D (cu Tryz.f44 4) K next (S4 x) = P.bup x (fun x => next (S4 x)) (E4 K) := by kernel_rfl
theorem avs : jq D (cu Tryz.f44 4) := eu S4 avh (by kernel_rfl) P.b5v ak5
theorem loops : bg (Tryz.f44.body.getD .skip) = [cu Tryz.f44 4] := by kernel_rfl
noncomputable def ak : Abs.Spec := fun args K => match args with
 | [.agg [.v (.int .i64 a), .v (.int .i64 b)], .sl (.ints .u8 c), .sl (.ints .u8 d)] => P.aam a b c d (fun e => K (.fr 23 (.rows .u8 e)))
 | _ => none
noncomputable def spec : Abs.Spec := fun args K => ak (kg [.any, .sl (.ints .u8 []), .sl (.ints .u8 [])] args) K
theorem ok0 : Proved Tryz.prog GLO.gB 44 ak := by
 refine bf (D := D) (fn := Tryz.f44) (c := Tryz.f44.body.getD .skip) [.fr 23 (.rows .u8 [])] (by kernel_rfl) (ah (by kernel_rfl)) (by kernel_rfl) (by kernel_rfl) (by kernel_rfl) ⟨ab9.ok, x9.ok, adv.ok, trivial⟩ trivial ?_ ?_
 · rw [loops]; exact ⟨avs, trivial⟩
 · intro args K r h
   unfold ak at h
   split at h
   · rw [P.atq] at h; exact Eq.trans (by kernel_rfl) h
   · cases h
theorem ok : Proved Tryz.prog GLO.gB 44 spec := bn _ ok0
end aam

namespace wm
noncomputable def D : Ctx := ({ P := Tryz.prog, G := [(21, aev.spec)], globs := GLO.gB, hints := [], loops := [], inl := [] } : Ctx)
theorem loops : bg (Tryz.f42.body.getD .skip) = [] := by kernel_rfl
noncomputable def ak : Abs.Spec := fun args K => match args with
 | [.agg [.v (.int .i64 a), .v (.int .i64 b)], .sl (.ints .u8 c), .sl (.ints .u8 d)] => P.wm a b c d (fun e => K (.v (.int .i64 e)))
 | _ => none
noncomputable def spec : Abs.Spec := fun args K => ak (kg [.any, .sl (.ints .u8 []), .sl (.ints .u8 [])] args) K
theorem ok0 : Proved Tryz.prog GLO.gB 42 ak := by
 refine bf (D := D) (fn := Tryz.f42) (c := Tryz.f42.body.getD .skip) [.any] (by kernel_rfl) (ah (by kernel_rfl)) (by kernel_rfl) (by kernel_rfl) (by kernel_rfl) ⟨aev.ok, trivial⟩ trivial ?_ ?_
 · rw [loops]; exact trivial
 · intro args K r h
   unfold ak at h
   split at h
   · rw [P.atc] at h; exact Eq.trans (by kernel_rfl) h
   · cases h
theorem ok : Proved Tryz.prog GLO.gB 42 spec := bn _ ok0
end wm

namespace wh
noncomputable def D : Ctx := ({ P := Tryz.prog, G := [(37, kr.spec), (42, wm.spec), (43, af6.spec), (44, aam.spec)], globs := GLO.gB, hints := [], loops := [], inl := [] } : Ctx)
theorem loops : bg (Tryz.f17.body.getD .skip) = [] := by kernel_rfl
noncomputable def ak : Abs.Spec := fun args K => match args with
 | [.agg [.v (.int .i64 a), .v (.int .i64 b)], .sl (.ints .u8 c), .sl (.ints .u8 d)] => P.wh a b c d (fun e f => K (.tuple [.fr 5 (.ints .u8 e), .v (.int .i64 f)]))
 | _ => none
noncomputable def spec : Abs.Spec := fun args K => ak (kg [.any, .sl (.ints .u8 []), .sl (.ints .u8 [])] args) K
theorem ok0 : Proved Tryz.prog GLO.gB 17 ak := by
 refine bf (D := D) (fn := Tryz.f17) (c := Tryz.f17.body.getD .skip) [.fr 5 (.ints .u8 []), .any] (by kernel_rfl) (ah (by kernel_rfl)) (by kernel_rfl) (by kernel_rfl) (by kernel_rfl) ⟨kr.ok, wm.ok, af6.ok, aam.ok, trivial⟩ trivial ?_ ?_
 · rw [loops]; exact trivial
 · intro args K r h
   unfold ak at h
   split at h
   · rw [P.aqi] at h; exact Eq.trans (by kernel_rfl) h
   · cases h
theorem ok : Proved Tryz.prog GLO.gB 17 spec := bn _ ok0
end wh

namespace aas
noncomputable def D : Ctx := ({ P := Tryz.prog, G := [(17, wh.spec), (24, zm.spec), (32, gy.spec)], globs := GLO.gB, hints := [], loops := [], inl := [] } : Ctx)
theorem loops : bg (Tryz.f9.body.getD .skip) = [] := by kernel_rfl
noncomputable def ak : Abs.Spec := fun args K => match args with
 | [.agg [.sl (.cols a [.ints .i64 b, .ints .i64 c]), .sl (.ints .u8 e), .sl (.ints .u8 d)]] => P.aas a b c e d (fun f g => K (.tuple [.fr 5 (.ints .u8 f), .v (.int .i64 g)]))
 | _ => none
noncomputable def spec : Abs.Spec := fun args K => ak (kg [.agg [.sl (.cols 0 [.ints .i64 [], .ints .i64 []]), .sl (.ints .u8 []), .sl (.ints .u8 [])]] args) K
theorem ok0 : Proved Tryz.prog GLO.gB 9 ak := by
 refine bf (D := D) (fn := Tryz.f9) (c := Tryz.f9.body.getD .skip) [.fr 5 (.ints .u8 []), .any] (by kernel_rfl) (ah (by kernel_rfl)) (by kernel_rfl) (by kernel_rfl) (by kernel_rfl) ⟨wh.ok, zm.ok, gy.ok, trivial⟩ trivial ?_ ?_
 · rw [loops]; exact trivial
 · intro args K r h
   unfold ak at h
   split at h
   · rw [P.aju] at h; exact Eq.trans (by kernel_rfl) h
   · cases h
theorem ok : Proved Tryz.prog GLO.gB 9 spec := bn _ ok0
end aas

namespace adl
noncomputable def D : Ctx := ({ P := Tryz.prog, G := [], globs := GLO.gB, hints := [], loops := [], inl := [] } : Ctx)
theorem loops : bg (Tryz.f109.body.getD .skip) = [] := by kernel_rfl
noncomputable def ak : Abs.Spec := fun args K => match args with
 | [.sl (.ints .u8 a), .v (.int .i64 b), .v (.int .i64 c)] => P.adl a b c (fun d => K (.v (.bool d)))
 | _ => none
noncomputable def spec : Abs.Spec := fun args K => ak (kg [.sl (.ints .u8 []), .any, .any] args) K
theorem ok0 : Proved Tryz.prog GLO.gB 109 ak := by
 refine bf (D := D) (fn := Tryz.f109) (c := Tryz.f109.body.getD .skip) [.any] (by kernel_rfl) (ah (by kernel_rfl)) (by kernel_rfl) (by kernel_rfl) (by kernel_rfl) trivial trivial ?_ ?_
 · rw [loops]; exact trivial
 · intro args K r h
   unfold ak at h
   split at h
   · rw [P.av7] at h; exact Eq.trans (by kernel_rfl) h
   · cases h
theorem ok : Proved Tryz.prog GLO.gB 109 spec := bn _ ok0
end adl

end
