/-
  HssSigns, part 19: an interpreter of my own over abstract values, the pure functions, the walks and the plain law.
-/

import Derived.Test.YtmipokjdajiimaaGreatDoorHssSignsL
import Derived.Test.YtmipokjdajiimaaGreatDoorHssSignsH
import Derived.Test.YtmipokjdajiimaaGreatDoorProg
import Derived.Test.YtmipokjdajiimaaGreatDoorHssSignsJ
import Derived.Test.YtmipokjdajiimaaGreatDoorHssSignsR
import Derived.KernelRfl
import Derived.Test.YtmipokjdajiimaaGreatDoorHssSignsQ
import Derived.Test.YtmipokjdajiimaaGreatDoorHssSignsP
import Derived.Test.YtmipokjdajiimaaGreatDoorHssSignsK
import Derived.Test.YtmipokjdajiimaaGreatDoorHssSignsO
import Derived.Test.YtmipokjdajiimaaGreatDoorHssSignsN

section
open Go Go.Abs Go.Proofs
set_option maxRecDepth 100000
set_option maxHeartbeats 0
set_option linter.unusedVariables false

namespace vw
abbrev X9 := P.bvb
def S9 : X9 → ASt := fun (b, c, d, e, f, a, g) => ⟨[(0, .sl (.ints .u8 b)), (1, .v (.int .i64 c)), (2, .v (.int .i64 d)), (7, .own 0), (8, .v (.int .i64 e)), (9, .v (.int .u32 f)), (10, .v (.int .i64 a))], [(0, some ⟨.row 41 (.ints .u32 g), false⟩)], 1, 51⟩
def V9 : ASt → Option X9
 | ⟨[(0, .sl (.ints .u8 b)), (1, .v (.int .i64 c)), (2, .v (.int .i64 d)), (7, .own 0), (8, .v (.int .i64 e)), (9, .v (.int .u32 f)), (10, .v (.int .i64 a))], [(0, some ⟨.row 41 (.ints .u32 g), false⟩)], 1, 51⟩ => some (b, c, d, e, f, a, g)
 | _ => none
theorem asa (st) (x) (h : V9 st = some x) : st = S9 x := by
 unfold V9 at h
 split at h
 · cases h; rfl
 · cases h
abbrev Y9 := P.bzx
abbrev X5 := P.bvw
def S5 : X5 → ASt := fun (a, b, c, d, e) => ⟨[(7, .own 0), (0, .sl (.ints .u8 a)), (1, .v (.int .i64 b)), (2, .v (.int .i64 c)), (8, .v (.int .i64 d))], [(0, some ⟨.row 41 (.ints .u32 e), false⟩)], 1, 51⟩
def V5 : ASt → Option X5
 | ⟨[(7, .own 0), (0, .sl (.ints .u8 a)), (1, .v (.int .i64 b)), (2, .v (.int .i64 c)), (8, .v (.int .i64 d))], [(0, some ⟨.row 41 (.ints .u32 e), false⟩)], 1, 51⟩ => some (a, b, c, d, e)
 | _ => none
theorem av2 (st) (x) (h : V5 st = some x) : st = S5 x := by
 unfold V5 at h
 split at h
 · cases h; rfl
 · cases h
abbrev Y5 := P.b4h
def E9 (K : AExit → ASt → Option R) : Y9 → Option R := (fun x => K (.exit 2) (S9 x))
noncomputable def L9 : qb := fun st K => adk (V9 st) fun x => P.b29 x (E9 K)
def E5 (K : AExit → ASt → Option R) : Y5 → Option R := (fun x => K (.exit 0) (S5 x))
noncomputable def L5 : qb := fun st K => adk (V5 st) fun x => P.b5d x (E5 K)
noncomputable def D : Ctx := ({ P := Tryz.prog, G := [(109, adl.spec)], globs := GLO.gB, hints := [(9, ⟨[0, 1, 2, 7, 8, 9, 10], [], [6], [], none, [], [], []⟩), (5, ⟨[0, 1, 2, 8], [(7, 41, .ints .u32 [])], [6], [], none, [], [], []⟩)], loops := [(9, L9), (5, L5)], inl := [] } : Ctx)
theorem ai9 (K) (next) (x) : lu D (cu Tryz.f97 9) K next (S9 x) = P.bvj x (fun x => next (S9 x)) (E9 K) := by kernel_rfl
theorem arh : jq D (cu Tryz.f97 9) := eu S9 asa (by kernel_rfl) P.b60 ai9
theorem ale (K) (next) (x) : lu D (cu Tryz.f97 5) K next (S5 x) = P.bt8 x (fun x => next (S5 x)) (E5 K) := by kernel_rfl
theorem aw4 : jq D (cu Tryz.f97 5) := eu S5 av2 (by kernel_rfl) P.b6o ale
theorem loops : bg (Tryz.f97.body.getD .skip) = [cu Tryz.f97 5, cu Tryz.f97 9] := by kernel_rfl
noncomputable def ak : Abs.Spec := fun args K => match args with
 | [.sl (.ints .u8 a), .v (.int .i64 b), .v (.int .i64 c)] => P.vw a b c (fun d => K (.fr 41 (.ints .u32 d)))
 | _ => none
noncomputable def spec : Abs.Spec := fun args K => ak (kg [.sl (.ints .u8 []), .any, .any] args) K
theorem ok0 : Proved Tryz.prog GLO.gB 97 ak := by
 refine bf (D := D) (fn := Tryz.f97) (c := Tryz.f97.body.getD .skip) [.fr 41 (.ints .u32 [])] (by kernel_rfl) (ah (by kernel_rfl)) (by kernel_rfl) (by kernel_rfl) (by kernel_rfl) ⟨adl.ok, trivial⟩ trivial ?_ ?_
 · rw [loops]; exact ⟨aw4, arh, trivial⟩
 · intro args K r h
   unfold ak at h
   split at h
   · rw [P.aq1] at h; exact Eq.trans (by kernel_rfl) h
   · cases h
theorem ok : Proved Tryz.prog GLO.gB 97 spec := bn _ ok0
end vw

namespace ab8
abbrev X9 := P.bu1
def S9 : X9 → ASt := fun (c, d, e, f, a, b, g) => ⟨[(0, .v (.int .i64 c)), (1, .sl (.ints .u8 d)), (6, .v (.int .i64 e)), (7, .v (.int .i64 f)), (9, .own 0), (10, .v (.int .u64 a)), (11, .v (.int .i64 b))], [(0, some ⟨.row 41 (.ints .u32 g), false⟩)], 1, 55⟩
def V9 : ASt → Option X9
 | ⟨[(0, .v (.int .i64 c)), (1, .sl (.ints .u8 d)), (6, .v (.int .i64 e)), (7, .v (.int .i64 f)), (9, .own 0), (10, .v (.int .u64 a)), (11, .v (.int .i64 b))], [(0, some ⟨.row 41 (.ints .u32 g), false⟩)], 1, 55⟩ => some (c, d, e, f, a, b, g)
 | _ => none
theorem asa (st) (x) (h : V9 st = some x) : st = S9 x := by
 unfold V9 at h
 split at h
 · cases h; rfl
 · cases h
abbrev Y9 := P.bzp
def E9 (K : AExit → ASt → Option R) : Y9 → Option R := (fun x => K (.exit 0) (S9 x))
noncomputable def L9 : qb := fun st K => adk (V9 st) fun x => P.b0t x (E9 K)
noncomputable def D : Ctx := ({ P := Tryz.prog, G := [(32, gy.spec), (37, kr.spec), (70, om.spec), (97, vw.spec)], globs := GLO.gB, hints := [(9, ⟨[0, 1, 6, 7, 9, 10, 11], [], [4, 5], [], none, [], [], []⟩)], loops := [(9, L9)], inl := [] } : Ctx)
theorem ai9 (K) (next) (x) : lu D (cu Tryz.f81 9) K next (S9 x) = P.bvo x (fun x => next (S9 x)) (E9 K) := by kernel_rfl
theorem arh : jq D (cu Tryz.f81 9) := eu S9 asa (by kernel_rfl) P.b6j ai9
theorem loops : bg (Tryz.f81.body.getD .skip) = [cu Tryz.f81 9] := by kernel_rfl
noncomputable def ak : Abs.Spec := fun args K => match args with
 | [.v (.int .i64 a), .sl (.ints .u8 b)] => P.ab8 a b (fun c d => K (.tuple [.fr 41 (.ints .u32 c), .v (.int .i64 d)]))
 | _ => none
noncomputable def spec : Abs.Spec := fun args K => ak (kg [.any, .sl (.ints .u8 [])] args) K
theorem ok0 : Proved Tryz.prog GLO.gB 81 ak := by
 refine bf (D := D) (fn := Tryz.f81) (c := Tryz.f81.body.getD .skip) [.fr 41 (.ints .u32 []), .any] (by kernel_rfl) (ah (by kernel_rfl)) (by kernel_rfl) (by kernel_rfl) (by kernel_rfl) ⟨gy.ok, kr.ok, om.ok, vw.ok, trivial⟩ trivial ?_ ?_
 · rw [loops]; exact ⟨arh, trivial⟩
 · intro args K r h
   unfold ak at h
   split at h
   · rw [P.aow] at h; exact Eq.trans (by kernel_rfl) h
   · cases h
theorem ok : Proved Tryz.prog GLO.gB 81 spec := bn _ ok0
end ab8

namespace ace
noncomputable def D : Ctx := ({ P := Tryz.prog, G := [(32, gy.spec), (62, ad1.spec)], globs := GLO.gB, hints := [], loops := [], inl := [] } : Ctx)
theorem loops : bg (Tryz.f82.body.getD .skip) = [] := by kernel_rfl
noncomputable def ak : Abs.Spec := fun args K => match args with
 | [.sl (.ints .u8 a), .v (.int .u32 b), .sl (.ints .u8 c), .sl (.ints .u8 d)] => P.ace a b c d (fun e => K (.fr 5 (.ints .u8 e)))
 | _ => none
noncomputable def spec : Abs.Spec := fun args K => ak (kg [.sl (.ints .u8 []), .any, .sl (.ints .u8 []), .sl (.ints .u8 [])] args) K
theorem ok0 : Proved Tryz.prog GLO.gB 82 ak := by
 refine bf (D := D) (fn := Tryz.f82) (c := Tryz.f82.body.getD .skip) [.fr 5 (.ints .u8 [])] (by kernel_rfl) (ah (by kernel_rfl)) (by kernel_rfl) (by kernel_rfl) (by kernel_rfl) ⟨gy.ok, ad1.ok, trivial⟩ trivial ?_ ?_
 · rw [loops]; exact trivial
 · intro args K r h
   unfold ak at h
   split at h
   · rw [P.apr] at h; exact Eq.trans (by kernel_rfl) h
   · cases h
theorem ok : Proved Tryz.prog GLO.gB 82 spec := bn _ ok0
end ace

namespace agf
abbrev X9 := P.bxh
def S9 : X9 → ASt := fun (c, d, e, a, b, f) => ⟨[(19, .own 40), (1, .sl (.ints .u8 c)), (2, .v (.int .u32 d)), (3, .sl (.ints .u8 e)), (17, .own 2), (20, .v (.int .i64 a))], [(40, some ⟨.row 23 (.rows .u8 b), false⟩), (2, some ⟨.row 41 (.ints .u32 f), false⟩)], 41, 77⟩
def V9 : ASt → Option X9
 | ⟨[(19, .own 40), (1, .sl (.ints .u8 c)), (2, .v (.int .u32 d)), (3, .sl (.ints .u8 e)), (17, .own 2), (20, .v (.int .i64 a))], [(40, some ⟨.row 23 (.rows .u8 b), false⟩), (2, some ⟨.row 41 (.ints .u32 f), false⟩)], 41, 77⟩ => some (c, d, e, a, b, f)
 | _ => none
theorem asa (st) (x) (h : V9 st = some x) : st = S9 x := by
 unfold V9 at h
 split at h
 · cases h; rfl
 · cases h
abbrev Y9 := P.b48
def E9 (K : AExit → ASt → Option R) : Y9 → Option R := (fun x => K (.exit 0) (S9 x))
noncomputable def L9 : qb := fun st K => adk (V9 st) fun x => P.b4r x (E9 K)
noncomputable def D : Ctx := ({ P := Tryz.prog, G := [(32, gy.spec), (37, kr.spec), (70, om.spec), (79, aap.spec), (80, acf.spec), (81, ab8.spec), (82, ace.spec), (83, aaq.spec)], globs := GLO.gB, hints := [(9, ⟨[1, 2, 3, 17, 20], [(19, 23, .rows .u8 [])], [10, 11], [], some (40, [2]), [], [], []⟩)], loops := [(9, L9)], inl := [] } : Ctx)
theorem ai9 (K) (next) (x) : lu D (cu Tryz.f48 9) K next (S9 x) = P.bw5 x (fun x => next (S9 x)) (E9 K) := by kernel_rfl
theorem arh : jq D (cu Tryz.f48 9) := eu S9 asa (by kernel_rfl) P.b6m ai9
theorem loops : bg (Tryz.f48.body.getD .skip) = [cu Tryz.f48 9] := by kernel_rfl
noncomputable def ak : Abs.Spec := fun args K => match args with
 | [.v (.int .i64 a), .sl (.ints .u8 b), .v (.int .u32 c), .sl (.ints .u8 d), .sl (.ints .u8 e)] => P.agf a b c d e (fun f g => K (.tuple [.fr 5 (.ints .u8 f), .v (.int .i64 g)]))
 | _ => none
noncomputable def spec : Abs.Spec := fun args K => ak (kg [.any, .sl (.ints .u8 []), .any, .sl (.ints .u8 []), .sl (.ints .u8 [])] args) K
theorem ok0 : Proved Tryz.prog GLO.gB 48 ak := by
 refine bf (D := D) (fn := Tryz.f48) (c := Tryz.f48.body.getD .skip) [.fr 5 (.ints .u8 []), .any] (by kernel_rfl) (ah (by kernel_rfl)) (by kernel_rfl) (by kernel_rfl) (by kernel_rfl) ⟨gy.ok, kr.ok, om.ok, aap.ok, acf.ok, ab8.ok, ace.ok, aaq.ok, trivial⟩ trivial ?_ ?_
 · rw [loops]; exact ⟨arh, trivial⟩
 · intro args K r h
   unfold ak at h
   split at h
   · rw [P.avb] at h; exact Eq.trans (by kernel_rfl) h
   · cases h
theorem ok : Proved Tryz.prog GLO.gB 48 spec := bn _ ok0
end agf

namespace adr
abbrev X10 := P.bwx
def S10 : X10 → ASt := fun (a, b, c) => ⟨[(15, .own 40), (16, .own 5), (17, .v (.int .i64 a))], [(40, some ⟨.row 23 (.rows .u8 b), false⟩), (5, some ⟨.row 23 (.rows .u8 c), false⟩)], 41, 74⟩
def V10 : ASt → Option X10
 | ⟨[(15, .own 40), (16, .own 5), (17, .v (.int .i64 a))], [(40, some ⟨.row 23 (.rows .u8 b), false⟩), (5, some ⟨.row 23 (.rows .u8 c), false⟩)], 41, 74⟩ => some (a, b, c)
 | _ => none
theorem aw7 (st) (x) (h : V10 st = some x) : st = S10 x := by
 unfold V10 at h
 split at h
 · cases h; rfl
 · cases h
abbrev Y10 := P.by9
def E10 (K : AExit → ASt → Option R) : Y10 → Option R := (fun x => K (.exit 0) (S10 x))
noncomputable def L10 : qb := fun st K => adk (V10 st) fun x => P.bzm x (E10 K)
noncomputable def D : Ctx := ({ P := Tryz.prog, G := [(32, gy.spec), (37, kr.spec), (42, wm.spec), (44, aam.spec), (48, agf.spec), (49, uw.spec)], globs := GLO.gB, hints := [(10, ⟨[16, 17], [(15, 23, .rows .u8 [])], [10, 11], [], some (40, [5]), [], [], []⟩)], loops := [(10, L10)], inl := [] } : Ctx)
theorem aog (K) (next) (x) : lu D (cu Tryz.f19 10) K next (S10 x) = P.bve x (fun x => next (S10 x)) (E10 K) := by kernel_rfl
theorem awz : jq D (cu Tryz.f19 10) := eu S10 aw7 (by kernel_rfl) P.b66 aog
theorem loops : bg (Tryz.f19.body.getD .skip) = [cu Tryz.f19 10] := by kernel_rfl
noncomputable def ak : Abs.Spec := fun args K => match args with
 | [.agg [.v (.int .i64 a), .v (.int .i64 b)], .sl (.ints .u8 c), .sl (.ints .u8 d), .v (.int .u32 e), .sl (.ints .u8 f)] => P.adr a b c d e f (fun g h => K (.tuple [.fr 5 (.ints .u8 g), .v (.int .i64 h)]))
 | _ => none
noncomputable def spec : Abs.Spec := fun args K => ak (kg [.any, .sl (.ints .u8 []), .sl (.ints .u8 []), .any, .sl (.ints .u8 [])] args) K
theorem ok0 : Proved Tryz.prog GLO.gB 19 ak := by
 refine bf (D := D) (fn := Tryz.f19) (c := Tryz.f19.body.getD .skip) [.fr 5 (.ints .u8 []), .any] (by kernel_rfl) (ah (by kernel_rfl)) (by kernel_rfl) (by kernel_rfl) (by kernel_rfl) ⟨gy.ok, kr.ok, wm.ok, aam.ok, agf.ok, uw.ok, trivial⟩ trivial ?_ ?_
 · rw [loops]; exact ⟨awz, trivial⟩
 · intro args K r h
   unfold ak at h
   split at h
   · rw [P.avn] at h; exact Eq.trans (by kernel_rfl) h
   · cases h
theorem ok : Proved Tryz.prog GLO.gB 19 spec := bn _ ok0
end adr

namespace ab2
abbrev X5 := P.buz
def S5 : X5 → ASt := fun (f, g, a, b, c, d, e) => ⟨[(1, .ptr 0 0), (3, .v (.int .u64 f)), (4, .v (.int .i64 g))], [(0, some ⟨.box 25 [.sl (.cols a [.ints .i64 b, .ints .i64 c]), .sl (.ints .u8 d), .sl (.ints .u8 e)], false⟩)], 1, 24⟩
def V5 : ASt → Option X5
 | ⟨[(1, .ptr 0 0), (3, .v (.int .u64 f)), (4, .v (.int .i64 g))], [(0, some ⟨.box 25 [.sl (.cols a [.ints .i64 b, .ints .i64 c]), .sl (.ints .u8 d), .sl (.ints .u8 e)], false⟩)], 1, 24⟩ => some (f, g, a, b, c, d, e)
 | _ => none
theorem av2 (st) (x) (h : V5 st = some x) : st = S5 x := by
 unfold V5 at h
 split at h
 · cases h; rfl
 · cases h
abbrev Y5 := P.bzc
def E5 (K : AExit → ASt → Option R) : Y5 → Option R := (fun x => K (.exit 0) (S5 x))
noncomputable def L5 : qb := fun st K => adk (V5 st) fun x => P.b2k x (E5 K)
noncomputable def D : Ctx := ({ P := Tryz.prog, G := [(24, zm.spec)], globs := GLO.gB, hints := [(5, ⟨[1, 3, 4], [], [2], [], none, [], [], []⟩)], loops := [(5, L5)], inl := [] } : Ctx)
theorem ale (K) (next) (x) : lu D (cu Tryz.f61 5) K next (S5 x) = P.bvm x (fun x => next (S5 x)) (E5 K) := by kernel_rfl
theorem aw4 : jq D (cu Tryz.f61 5) := eu S5 av2 (by kernel_rfl) P.b67 ale
theorem loops : bg (Tryz.f61.body.getD .skip) = [cu Tryz.f61 5] := by kernel_rfl
noncomputable def ak : Abs.Spec := fun args K => match args with
 | [.agg [.sl (.cols a [.ints .i64 b, .ints .i64 c]), .sl (.ints .u8 e), .sl (.ints .u8 d)]] => P.ab2 a b c e d (fun f => K (.v (.int .u64 f)))
 | _ => none
noncomputable def spec : Abs.Spec := fun args K => ak (kg [.agg [.sl (.cols 0 [.ints .i64 [], .ints .i64 []]), .sl (.ints .u8 []), .sl (.ints .u8 [])]] args) K
theorem ok0 : Proved Tryz.prog GLO.gB 61 ak := by
 refine bf (D := D) (fn := Tryz.f61) (c := Tryz.f61.body.getD .skip) [.any] (by kernel_rfl) (ah (by kernel_rfl)) (by kernel_rfl) (by kernel_rfl) (by kernel_rfl) ⟨zm.ok, trivial⟩ trivial ?_ ?_
 · rw [loops]; exact ⟨aw4, trivial⟩
 · intro args K r h
   unfold ak at h
   split at h
   · rw [P.aot] at h; exact Eq.trans (by kernel_rfl) h
   · cases h
theorem ok : Proved Tryz.prog GLO.gB 61 spec := bn _ ok0
end ab2

namespace z8
abbrev X7 := P.bwj
def S7 : X7 → ASt := fun (f, g, a, b, c, d, e, h) => ⟨[(1, .v (.int .u64 f)), (2, .ptr 0 0), (6, .own 1), (7, .v (.int .i64 g))], [(0, some ⟨.box 25 [.sl (.cols a [.ints .i64 b, .ints .i64 c]), .sl (.ints .u8 d), .sl (.ints .u8 e)], false⟩), (1, some ⟨.row 41 (.ints .u32 h), false⟩)], 2, 49⟩
def V7 : ASt → Option X7
 | ⟨[(1, .v (.int .u64 f)), (2, .ptr 0 0), (6, .own 1), (7, .v (.int .i64 g))], [(0, some ⟨.box 25 [.sl (.cols a [.ints .i64 b, .ints .i64 c]), .sl (.ints .u8 d), .sl (.ints .u8 e)], false⟩), (1, some ⟨.row 41 (.ints .u32 h), false⟩)], 2, 49⟩ => some (f, g, a, b, c, d, e, h)
 | _ => none
theorem blp (st) (x) (h : V7 st = some x) : st = S7 x := by
 unfold V7 at h
 split at h
 · cases h; rfl
 · cases h
abbrev Y7 := P.b0l
def E7 (K : AExit → ASt → Option R) : Y7 → Option R := (fun x => K (.exit 0) (S7 x))
noncomputable def L7 : qb := fun st K => adk (V7 st) fun x => P.b3c x (E7 K)
noncomputable def D : Ctx := ({ P := Tryz.prog, G := [(24, zm.spec), (61, ab2.spec)], globs := GLO.gB, hints := [(7, ⟨[1, 2, 6, 7], [], [4, 5], [], none, [], [], []⟩)], loops := [(7, L7)], inl := [] } : Ctx)
theorem be4 (K) (next) (x) : lu D (cu Tryz.f35 7) K next (S7 x) = P.bu2 x (fun x => next (S7 x)) (E7 K) := by kernel_rfl
theorem bm6 : jq D (cu Tryz.f35 7) := eu S7 blp (by kernel_rfl) P.b6l be4
theorem loops : bg (Tryz.f35.body.getD .skip) = [cu Tryz.f35 7] := by kernel_rfl
noncomputable def ak : Abs.Spec := fun args K => match args with
 | [.agg [.sl (.cols a [.ints .i64 b, .ints .i64 c]), .sl (.ints .u8 e), .sl (.ints .u8 d)], .v (.int .u64 f)] => P.z8 a b c e d f (fun g h => K (.tuple [.fr 41 (.ints .u32 g), .v (.int .i64 h)]))
 | _ => none
noncomputable def spec : Abs.Spec := fun args K => ak (kg [.agg [.sl (.cols 0 [.ints .i64 [], .ints .i64 []]), .sl (.ints .u8 []), .sl (.ints .u8 [])], .any] args) K
theorem ok0 : Proved Tryz.prog GLO.gB 35 ak := by
 refine bf (D := D) (fn := Tryz.f35) (c := Tryz.f35.body.getD .skip) [.fr 41 (.ints .u32 []), .any] (by kernel_rfl) (ah (by kernel_rfl)) (by kernel_rfl) (by kernel_rfl) (by kernel_rfl) ⟨zm.ok, ab2.ok, trivial⟩ trivial ?_ ?_
 · rw [loops]; exact ⟨bm6, trivial⟩
 · intro args K r h
   unfold ak at h
   split at h
   · rw [P.af4] at h; exact Eq.trans (by kernel_rfl) h
   · cases h
theorem ok : Proved Tryz.prog GLO.gB 35 spec := bn _ ok0
end z8

namespace ad6
noncomputable def D : Ctx := ({ P := Tryz.prog, G := [(32, gy.spec), (62, ad1.spec)], globs := GLO.gB, hints := [], loops := [], inl := [] } : Ctx)
theorem loops : bg (Tryz.f36.body.getD .skip) = [] := by kernel_rfl
noncomputable def ak : Abs.Spec := fun args K => match args with
 | [.sl (.ints .u8 a), .sl (.ints .u8 b), .v (.int .u32 c)] => P.ad6 a b c (fun d e => K (.tuple [.sl (.ints .u8 d), .fr 5 (.ints .u8 e)]))
 | _ => none
noncomputable def spec : Abs.Spec := fun args K => ak (kg [.sl (.ints .u8 []), .sl (.ints .u8 []), .any] args) K
theorem ok0 : Proved Tryz.prog GLO.gB 36 ak := by
 refine bf (D := D) (fn := Tryz.f36) (c := Tryz.f36.body.getD .skip) [.sl (.ints .u8 []), .fr 5 (.ints .u8 [])] (by kernel_rfl) (ah (by kernel_rfl)) (by kernel_rfl) (by kernel_rfl) (by kernel_rfl) ⟨gy.ok, ad1.ok, trivial⟩ trivial ?_ ?_
 · rw [loops]; exact trivial
 · intro args K r h
   unfold ak at h
   split at h
   · rw [P.as7] at h; exact Eq.trans (by kernel_rfl) h
   · cases h
theorem ok : Proved Tryz.prog GLO.gB 36 spec := bn _ ok0
end ad6

namespace adw
abbrev X9 := P.buc
def S9 : X9 → ASt := fun (k, f, g, h, i, j, a, b, c, d, e, l) => ⟨[(11, .own 40), (2, .sl (.ints .u8 k)), (3, .ptr 0 0), (8, .own 1), (10, .v (.int .i64 f)), (12, .sl (.ints .u8 g)), (13, .sl (.ints .u8 h)), (14, .v (.int .i64 i))], [(40, some ⟨.row 23 (.rows .u8 j), false⟩), (0, some ⟨.box 25 [.sl (.cols a [.ints .i64 b, .ints .i64 c]), .sl (.ints .u8 d), .sl (.ints .u8 e)], false⟩), (1, some ⟨.row 41 (.ints .u32 l), false⟩)], 41, 115⟩
def V9 : ASt → Option X9
 | ⟨[(11, .own 40), (2, .sl (.ints .u8 k)), (3, .ptr 0 0), (8, .own 1), (10, .v (.int .i64 f)), (12, .sl (.ints .u8 g)), (13, .sl (.ints .u8 h)), (14, .v (.int .i64 i))], [(40, some ⟨.row 23 (.rows .u8 j), false⟩), (0, some ⟨.box 25 [.sl (.cols a [.ints .i64 b, .ints .i64 c]), .sl (.ints .u8 d), .sl (.ints .u8 e)], false⟩), (1, some ⟨.row 41 (.ints .u32 l), false⟩)], 41, 115⟩ => some (k, f, g, h, i, j, a, b, c, d, e, l)
 | _ => none
theorem asa (st) (x) (h : V9 st = some x) : st = S9 x := by
 unfold V9 at h
 split at h
 · cases h; rfl
 · cases h
abbrev Y9 := P.b41
def E9 (K : AExit → ASt → Option R) : Y9 → Option R := (fun x => K (.exit 0) (S9 x))
noncomputable def L9 : qb := fun st K => adk (V9 st) fun x => P.b3k x (E9 K)
noncomputable def D : Ctx := ({ P := Tryz.prog, G := [(17, wh.spec), (19, adr.spec), (32, gy.spec), (35, z8.spec), (36, ad6.spec), (37, kr.spec)], globs := GLO.gB, hints := [(9, ⟨[2, 3, 8, 10, 12, 13, 14], [(11, 23, .rows .u8 [])], [6, 7], [(12, .sl (.ints .u8 [])), (13, .sl (.ints .u8 []))], some (40, [0, 1]), [], [], []⟩)], loops := [(9, L9)], inl := [] } : Ctx)
theorem ai9 (K) (next) (x) : lu D (cu Tryz.f11 9) K next (S9 x) = P.btx x (fun x => next (S9 x)) (E9 K) := by kernel_rfl
theorem arh : jq D (cu Tryz.f11 9) := eu S9 asa (by kernel_rfl) P.b58 ai9
theorem loops : bg (Tryz.f11.body.getD .skip) = [cu Tryz.f11 9] := by kernel_rfl
noncomputable def ak : Abs.Spec := fun args K => match args with
 | [.agg [.sl (.cols a [.ints .i64 b, .ints .i64 c]), .sl (.ints .u8 e), .sl (.ints .u8 d)], .v (.int .u64 f), .sl (.ints .u8 g)] => P.adw a b c e d f g (fun h i => K (.tuple [.fr 5 (.ints .u8 h), .v (.int .i64 i)]))
 | _ => none
noncomputable def spec : Abs.Spec := fun args K => ak (kg [.agg [.sl (.cols 0 [.ints .i64 [], .ints .i64 []]), .sl (.ints .u8 []), .sl (.ints .u8 [])], .any, .sl (.ints .u8 [])] args) K
theorem ok0 : Proved Tryz.prog GLO.gB 11 ak := by
 refine bf (D := D) (fn := Tryz.f11) (c := Tryz.f11.body.getD .skip) [.fr 5 (.ints .u8 []), .any] (by kernel_rfl) (ah (by kernel_rfl)) (by kernel_rfl) (by kernel_rfl) (by kernel_rfl) ⟨wh.ok, adr.ok, gy.ok, z8.ok, ad6.ok, kr.ok, trivial⟩ trivial ?_ ?_
 · rw [loops]; exact ⟨arh, trivial⟩
 · intro args K r h
   unfold ak at h
   split at h
   · rw [P.ajb] at h; exact Eq.trans (by kernel_rfl) h
   · cases h
theorem ok : Proved Tryz.prog GLO.gB 11 spec := bn _ ok0
end adw

namespace mo
noncomputable def D : Ctx := ({ P := Tryz.prog, G := [(90, iw.spec)], globs := GLO.gB, hints := [], loops := [], inl := [] } : Ctx)
theorem loops : bg (Tryz.f75.body.getD .skip) = [] := by kernel_rfl
noncomputable def ak : Abs.Spec := fun args K => match args with
 | [.agg [.v (.int .i64 e), .sl (.ints .u8 d), .v (.int .u32 f), .v (.int .i64 a), .v (.int .i64 b), .v (.int .i64 c)], .v (.int .u64 g), .sl (.ints .u8 h)] => P.mo e d f a b c g h (fun i => K (.fr 5 (.ints .u8 i)))
 | _ => none
noncomputable def spec : Abs.Spec := fun args K => ak (kg [.agg [.any, .sl (.ints .u8 []), .any, .any, .any, .any], .any, .sl (.ints .u8 [])] args) K
theorem ok0 : Proved Tryz.prog GLO.gB 75 ak := by
 refine bf (D := D) (fn := Tryz.f75) (c := Tryz.f75.body.getD .skip) [.fr 5 (.ints .u8 [])] (by kernel_rfl) (ah (by kernel_rfl)) (by kernel_rfl) (by kernel_rfl) (by kernel_rfl) ⟨iw.ok, trivial⟩ trivial ?_ ?_
 · rw [loops]; exact trivial
 · intro args K r h
   unfold ak at h
   split at h
   · rw [P.ahp] at h; exact Eq.trans (by kernel_rfl) h
   · cases h
theorem ok : Proved Tryz.prog GLO.gB 75 spec := bn _ ok0
end mo

namespace qz
noncomputable def D : Ctx := ({ P := Tryz.prog, G := [(95, uy.spec)], globs := GLO.gB, hints := [], loops := [], inl := [] } : Ctx)
theorem loops : bg (Tryz.f74.body.getD .skip) = [] := by kernel_rfl
noncomputable def ak : Abs.Spec := fun args K => match args with
 | [.v (.int .i64 g), .sl (.ints .u8 h), .v (.int .u32 i), .sl (.ints .u8 j)] => P.qz g h i j (fun e d f a b c k => K (.tuple [.agg [.v (.int .i64 e), .sl (.ints .u8 d), .v (.int .u32 f), .v (.int .i64 a), .v (.int .i64 b), .v (.int .i64 c)], .v (.int .i64 k)]))
 | _ => none
noncomputable def spec : Abs.Spec := fun args K => ak (kg [.any, .sl (.ints .u8 []), .any, .sl (.ints .u8 [])] args) K
theorem ok0 : Proved Tryz.prog GLO.gB 74 ak := by
 refine bf (D := D) (fn := Tryz.f74) (c := Tryz.f74.body.getD .skip) [.agg [.any, .sl (.ints .u8 []), .any, .any, .any, .any], .any] (by kernel_rfl) (ah (by kernel_rfl)) (by kernel_rfl) (by kernel_rfl) (by kernel_rfl) ⟨uy.ok, trivial⟩ trivial ?_ ?_
 · rw [loops]; exact trivial
 · intro args K r h
   unfold ak at h
   split at h
   · rw [P.akq] at h; exact Eq.trans (by kernel_rfl) h
   · cases h
theorem ok : Proved Tryz.prog GLO.gB 74 spec := bn _ ok0
end qz

namespace y5
abbrev X6 := P.bvy
def S6 : X6 → ASt := fun (i, g, h, j, a, b, c, d, e, f) => ⟨[(12, .own 1), (3, .sl (.ints .u8 i)), (10, .ptr 0 0), (27, .v (.int .i64 g)), (28, .v (.int .i64 h))], [(1, some ⟨.row 5 (.ints .u8 j), false⟩), (0, some ⟨.box 106 [.v (.int .i64 a), .sl (.ints .u8 b), .v (.int .u32 c), .v (.int .i64 d), .v (.int .i64 e), .v (.int .i64 f)], false⟩)], 2, 48⟩
def V6 : ASt → Option X6
 | ⟨[(12, .own 1), (3, .sl (.ints .u8 i)), (10, .ptr 0 0), (27, .v (.int .i64 g)), (28, .v (.int .i64 h))], [(1, some ⟨.row 5 (.ints .u8 j), false⟩), (0, some ⟨.box 106 [.v (.int .i64 a), .sl (.ints .u8 b), .v (.int .u32 c), .v (.int .i64 d), .v (.int .i64 e), .v (.int .i64 f)], false⟩)], 2, 48⟩ => some (i, g, h, j, a, b, c, d, e, f)
 | _ => none
theorem bfz (st) (x) (h : V6 st = some x) : st = S6 x := by
 unfold V6 at h
 split at h
 · cases h; rfl
 · cases h
abbrev Y6 := P.b5h
def E6 (K : AExit → ASt → Option R) : Y6 → Option R := (fun x => K (.exit 0) (S6 x))
noncomputable def L6 : qb := fun st K => adk (V6 st) fun x => P.b3q x (E6 K)
noncomputable def D : Ctx := ({ P := Tryz.prog, G := [(74, qz.spec), (75, mo.spec), (77, jy.spec), (89, mh.spec), (90, iw.spec)], globs := GLO.gB, hints := [(6, ⟨[3, 10, 27, 28], [(12, 5, .ints .u8 [])], [8, 9], [], none, [], [], []⟩)], loops := [(6, L6)], inl := [] } : Ctx)
theorem axh (K) (next) (x) : lu D (cu Tryz.f68 6) K next (S6 x) = P.bu9 x (fun x => next (S6 x)) (E6 K) := by kernel_rfl
theorem bgd : jq D (cu Tryz.f68 6) := eu S6 bfz (by kernel_rfl) P.b6c axh
theorem loops : bg (Tryz.f68.body.getD .skip) = [cu Tryz.f68 6] := by kernel_rfl
noncomputable def ak : Abs.Spec := fun args K => match args with
 | [.v (.int .i64 a), .sl (.ints .u8 b), .v (.int .u32 c), .sl (.ints .u8 d)] => P.y5 a b c d (fun e f => K (.tuple [.fr 5 (.ints .u8 e), .v (.int .i64 f)]))
 | _ => none
noncomputable def spec : Abs.Spec := fun args K => ak (kg [.any, .sl (.ints .u8 []), .any, .sl (.ints .u8 [])] args) K
theorem ok0 : Proved Tryz.prog GLO.gB 68 ak := by
 refine bf (D := D) (fn := Tryz.f68) (c := Tryz.f68.body.getD .skip) [.fr 5 (.ints .u8 []), .any] (by kernel_rfl) (ah (by kernel_rfl)) (by kernel_rfl) (by kernel_rfl) (by kernel_rfl) ⟨qz.ok, mo.ok, jy.ok, mh.ok, iw.ok, trivial⟩ trivial ?_ ?_
 · rw [loops]; exact ⟨bgd, trivial⟩
 · intro args K r h
   unfold ak at h
   split at h
   · rw [P.alz] at h; exact Eq.trans (by kernel_rfl) h
   · cases h
theorem ok : Proved Tryz.prog GLO.gB 68 spec := bn _ ok0
end y5

namespace ig
noncomputable def bgx (n : Nat) : Abs.Spec := fun args K => match args with
 | [.sta [.v (.int .i64 a), .v (.int .i64 b), .sl (.ints .u8 d), .sl (.ints .u8 c)], .v (.int .u64 e)] => P.ig n a b d c e (fun f => K (.fr 5 (.ints .u8 f)))
 | _ => none
noncomputable def b3e (n : Nat) : Abs.Spec := fun args K => bgx n (kg [.agg [.any, .any, .sl (.ints .u8 []), .sl (.ints .u8 [])], .any] args) K
noncomputable def D (n : Nat) : Ctx := ({ P := Tryz.prog, G := [(68, y5.spec), (69, vg.spec), (41, b3e n)], globs := GLO.gB, hints := [], loops := [], inl := [] } : Ctx)
theorem body (n : Nat) (a : Int) (b : Int) (d : List Int) (c : List Int) (e : Int) (K : AVal → Option R) : boi (D n) Tryz.f41 [.fr 5 (.ints .u8 [])] [.sta [.v (.int .i64 a), .v (.int .i64 b), .sl (.ints .u8 d), .sl (.ints .u8 c)], .v (.int .u64 e)] K = P.ig (n + 1) a b d c e (fun f => K (.fr 5 (.ints .u8 f))) := by
 rw [P.ady]
 kernel_rfl
theorem loops : bg (Tryz.f41.body.getD .skip) = [] := by kernel_rfl
noncomputable def ak : Abs.Spec := fun args K => match args with
 | [.sta [.v (.int .i64 a), .v (.int .i64 b), .sl (.ints .u8 d), .sl (.ints .u8 c)], .v (.int .u64 e)] => P.ig ((a.toNat+2)) a b d c e (fun f => K (.fr 5 (.ints .u8 f)))
 | _ => none
noncomputable def spec : Abs.Spec := fun args K => ak (kg [.agg [.any, .any, .sl (.ints .u8 []), .sl (.ints .u8 [])], .any] args) K
theorem step (n : Nat) (ih : Proved Tryz.prog GLO.gB 41 (bgx n)) : Proved Tryz.prog GLO.gB 41 (bgx (n + 1)) := by
 refine bf (D := D n) (fn := Tryz.f41) (c := Tryz.f41.body.getD .skip) [.fr 5 (.ints .u8 [])] (by kernel_rfl) (ah (by kernel_rfl)) (by kernel_rfl) (by kernel_rfl) (by kernel_rfl) ⟨y5.ok, vg.ok, bn _ ih, trivial⟩ trivial ?_ ?_
 · rw [loops]; exact trivial
 · intro args K r h
   unfold bgx at h
   split at h
   · rw [body]; exact h
   · cases h
theorem okN : ∀ n, Proved Tryz.prog GLO.gB 41 (bgx n)
 | 0 => ⟨⟨Tryz.f41, by kernel_rfl, by kernel_rfl, by kernel_rfl⟩, fun args K r h => by unfold bgx at h; split at h <;> cases h⟩
 | n + 1 => step n (okN n)
theorem ok0 : Proved Tryz.prog GLO.gB 41 ak := ⟨(okN 0).enters, fun args K r h => by
 unfold ak at h
 split at h
 · exact (okN _).sound _ K r (by unfold bgx; exact h)
 · cases h⟩
theorem ok : Proved Tryz.prog GLO.gB 41 spec := bn _ ok0
end ig

end
