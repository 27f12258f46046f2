/-
  HssSigns, part 13: an interpreter of my own over abstract values, the pure functions, the walks and the plain law.
-/

import Derived.Test.YtmipokjdajiimaaGreatDoorHssSignsI
import Derived.Test.YtmipokjdajiimaaGreatDoorHssSignsH
import Derived.Test.YtmipokjdajiimaaGreatDoorProg
import Derived.Test.YtmipokjdajiimaaGreatDoorHssSignsJ
import Derived.KernelRfl

section
open Go Go.Abs Go.Proofs
set_option maxRecDepth 100000
set_option maxHeartbeats 0
set_option linter.unusedVariables false

namespace o8
noncomputable def D : Ctx := ({ P := Tryz.prog, G := [], globs := GLO.gB, hints := [], loops := [], inl := [] } : Ctx)
theorem loops : bg (Tryz.f46.body.getD .skip) = [] := by kernel_rfl
noncomputable def ak : Abs.Spec := fun args K => match args with
 | [.v (.int .i64 a)] => P.o8 a (fun b => K (.v (.int .u64 b)))
 | _ => none
noncomputable def spec : Abs.Spec := ak
theorem ok0 : Proved Tryz.prog GLO.gB 46 ak := by
 refine bf (D := D) (fn := Tryz.f46) (c := Tryz.f46.body.getD .skip) [.any] (by kernel_rfl) (ah (by kernel_rfl)) (by kernel_rfl) (by kernel_rfl) (by kernel_rfl) trivial trivial ?_ ?_
 · rw [loops]; exact trivial
 · intro args K r h
   unfold ak at h
   split at h
   · rw [P.an4] at h; exact Eq.trans (by kernel_rfl) h
   · cases h
theorem ok : Proved Tryz.prog GLO.gB 46 spec := ok0
end o8

namespace qc
noncomputable def D : Ctx := ({ P := Tryz.prog, G := [], globs := GLO.gB, hints := [], loops := [], inl := [] } : Ctx)
theorem loops : bg (Tryz.f50.body.getD .skip) = [] := by kernel_rfl
noncomputable def ak : Abs.Spec := fun args K => match args with
 | [.v (.int .i64 a)] => P.qc a (fun b => K (.v (.int .u64 b)))
 | _ => none
noncomputable def spec : Abs.Spec := ak
theorem ok0 : Proved Tryz.prog GLO.gB 50 ak := by
 refine bf (D := D) (fn := Tryz.f50) (c := Tryz.f50.body.getD .skip) [.any] (by kernel_rfl) (ah (by kernel_rfl)) (by kernel_rfl) (by kernel_rfl) (by kernel_rfl) trivial trivial ?_ ?_
 · rw [loops]; exact trivial
 · intro args K r h
   unfold ak at h
   split at h
   · rw [P.ahb] at h; exact Eq.trans (by kernel_rfl) h
   · cases h
theorem ok : Proved Tryz.prog GLO.gB 50 spec := ok0
end qc

namespace acr
noncomputable def D : Ctx := ({ P := Tryz.prog, G := [(46, o8.spec), (50, qc.spec)], globs := GLO.gB, hints := [], loops := [], inl := [] } : Ctx)
theorem loops : bg (Tryz.f20.body.getD .skip) = [] := by kernel_rfl
noncomputable def ak : Abs.Spec := fun args K => match args with
 | [.agg [.v (.int .i64 a), .v (.int .i64 b)]] => P.acr a b (fun c => K (.v (.bool c)))
 | _ => none
noncomputable def spec : Abs.Spec := ak
theorem ok0 : Proved Tryz.prog GLO.gB 20 ak := by
 refine bf (D := D) (fn := Tryz.f20) (c := Tryz.f20.body.getD .skip) [.any] (by kernel_rfl) (ah (by kernel_rfl)) (by kernel_rfl) (by kernel_rfl) (by kernel_rfl) ⟨o8.ok, qc.ok, trivial⟩ trivial ?_ ?_
 · rw [loops]; exact trivial
 · intro args K r h
   unfold ak at h
   split at h
   · rw [P.aru] at h; exact Eq.trans (by kernel_rfl) h
   · cases h
theorem ok : Proved Tryz.prog GLO.gB 20 spec := ok0
end acr

namespace adb
abbrev X5 := P.zt4
def S5 : X5 → ASt := fun (k, d, e, f, i, j, a, b, c, g, h) => ⟨[(1, .ptr 0 0), (3, .v (.int .i64 k)), (11, .sl (.cols d [.ints .i64 e, .ints .i64 f])), (12, .v (.int .i64 i)), (13, .v (.int .i64 j))], [(0, some ⟨.box 25 [.sl (.cols a [.ints .i64 b, .ints .i64 c]), .sl (.ints .u8 g), .sl (.ints .u8 h)], false⟩)], 1, 50⟩
def V5 : ASt → Option X5
 | ⟨[(1, .ptr 0 0), (3, .v (.int .i64 k)), (11, .sl (.cols d [.ints .i64 e, .ints .i64 f])), (12, .v (.int .i64 i)), (13, .v (.int .i64 j))], [(0, some ⟨.box 25 [.sl (.cols a [.ints .i64 b, .ints .i64 c]), .sl (.ints .u8 g), .sl (.ints .u8 h)], false⟩)], 1, 50⟩ => some (k, d, e, f, i, j, a, b, c, g, h)
 | _ => none
theorem av2 (st) (x) (h : V5 st = some x) : st = S5 x := by
 unfold V5 at h
 split at h
 · cases h; rfl
 · cases h
abbrev Y5 := P.zy4
def E5 (K : AExit → ASt → Option R) : Y5 → Option R := (Sum.elim (fun x => K (.exit 0) (S5 x)) (fun (j, f, g, a, b, c, d, e, h, i) => K .ret ⟨[(2, .v (.bool j))], [(1, some ⟨.box 40 [.v (.int .i64 f), .v (.int .i64 g)], false⟩), (1, some ⟨.box 40 [.v (.int .i64 a), .v (.int .i64 b)], false⟩), (0, some ⟨.box 25 [.sl (.cols c [.ints .i64 d, .ints .i64 e]), .sl (.ints .u8 h), .sl (.ints .u8 i)], false⟩)], 2, 50⟩))
noncomputable def L5 : qb := fun st K => adk (V5 st) fun x => P.zm4 x (E5 K)
noncomputable def D : Ctx := ({ P := Tryz.prog, G := [(20, acr.spec)], globs := GLO.gB, hints := [(5, ⟨[1, 3, 11, 12, 13], [], [2], [], none, [], [], []⟩)], loops := [(5, L5)], inl := [] } : Ctx)
theorem ale (K) (next) (x) : lu D (cu Tryz.f28 5) K next (S5 x) = P.zs4 x (fun x => next (S5 x)) (E5 K) := by kernel_rfl
theorem aw4 : jq D (cu Tryz.f28 5) := eu S5 av2 (by kernel_rfl) P.ze4 ale
theorem loops : bg (Tryz.f28.body.getD .skip) = [cu Tryz.f28 5] := by kernel_rfl
noncomputable def ak : Abs.Spec := fun args K => match args with
 | [.agg [.sl (.cols a [.ints .i64 b, .ints .i64 c]), .sl (.ints .u8 e), .sl (.ints .u8 d)]] => P.adb a b c e d (fun f => K (.v (.bool f)))
 | _ => none
noncomputable def spec : Abs.Spec := fun args K => ak (kg [.agg [.sl (.cols 0 [.ints .i64 [], .ints .i64 []]), .sl (.ints .u8 []), .sl (.ints .u8 [])]] args) K
theorem ok0 : Proved Tryz.prog GLO.gB 28 ak := by
 refine bf (D := D) (fn := Tryz.f28) (c := Tryz.f28.body.getD .skip) [.any] (by kernel_rfl) (ah (by kernel_rfl)) (by kernel_rfl) (by kernel_rfl) (by kernel_rfl) ⟨acr.ok, trivial⟩ trivial ?_ ?_
 · rw [loops]; exact ⟨aw4, trivial⟩
 · intro args K r h
   unfold ak at h
   split at h
   · rw [P.amg] at h; exact Eq.trans (by kernel_rfl) h
   · cases h
theorem ok : Proved Tryz.prog GLO.gB 28 spec := bn _ ok0
end adb

namespace ab7
abbrev X3 := P.zt5
def S3 : X3 → ASt := fun (d, a, b, c, e, f) => ⟨[(3, .v (.int .i64 d)), (7, .sl (.cols a [.ints .i64 b, .ints .i64 c])), (8, .v (.int .i64 e)), (9, .v (.int .i64 f))], [], 40, 19⟩
def V3 : ASt → Option X3
 | ⟨[(3, .v (.int .i64 d)), (7, .sl (.cols a [.ints .i64 b, .ints .i64 c])), (8, .v (.int .i64 e)), (9, .v (.int .i64 f))], [], 40, 19⟩ => some (d, a, b, c, e, f)
 | _ => none
theorem anu (st) (x) (h : V3 st = some x) : st = S3 x := by
 unfold V3 at h
 split at h
 · cases h; rfl
 · cases h
abbrev Y3 := P.zy5
def E3 (K : AExit → ASt → Option R) : Y3 → Option R := (fun x => K (.exit 0) (S3 x))
noncomputable def L3 : qb := fun st K => adk (V3 st) fun x => P.zm5 x (E3 K)
noncomputable def D : Ctx := ({ P := Tryz.prog, G := [], globs := GLO.gB, hints := [(3, ⟨[3, 7, 8, 9], [], [2], [], some (40, []), [], [], []⟩)], loops := [(3, L3)], inl := [] } : Ctx)
theorem ahi (K) (next) (x) : lu D (cu Tryz.f53 3) K next (S3 x) = P.zs5 x (fun x => next (S3 x)) (E3 K) := by kernel_rfl
theorem an2 : jq D (cu Tryz.f53 3) := eu S3 anu (by kernel_rfl) P.ze5 ahi
theorem loops : bg (Tryz.f53.body.getD .skip) = [cu Tryz.f53 3] := by kernel_rfl
noncomputable def ak : Abs.Spec := fun args K => match args with
 | [.agg [.sl (.cols a [.ints .i64 b, .ints .i64 c]), .sl (.ints .u8 e), .sl (.ints .u8 d)]] => P.ab7 a b c e d (fun f => K (.v (.int .i64 f)))
 | _ => none
noncomputable def spec : Abs.Spec := fun args K => ak (kg [.agg [.sl (.cols 0 [.ints .i64 [], .ints .i64 []]), .sl (.ints .u8 []), .sl (.ints .u8 [])]] args) K
theorem ok0 : Proved Tryz.prog GLO.gB 53 ak := by
 refine bf (D := D) (fn := Tryz.f53) (c := Tryz.f53.body.getD .skip) [.any] (by kernel_rfl) (ah (by kernel_rfl)) (by kernel_rfl) (by kernel_rfl) (by kernel_rfl) trivial trivial ?_ ?_
 · rw [loops]; exact ⟨an2, trivial⟩
 · intro args K r h
   unfold ak at h
   split at h
   · rw [P.axf] at h; exact Eq.trans (by kernel_rfl) h
   · cases h
theorem ok : Proved Tryz.prog GLO.gB 53 spec := bn _ ok0
end ab7

namespace acg
noncomputable def D : Ctx := ({ P := Tryz.prog, G := [(28, adb.spec), (53, ab7.spec)], globs := GLO.gB, hints := [], loops := [], inl := [] } : Ctx)
theorem loops : bg (Tryz.f26.body.getD .skip) = [] := by kernel_rfl
noncomputable def ak : Abs.Spec := fun args K => match args with
 | [.agg [.sl (.cols a [.ints .i64 b, .ints .i64 c]), .sl (.ints .u8 e), .sl (.ints .u8 d)]] => P.acg a b c e d (fun f => K (.v (.int .u64 f)))
 | _ => none
noncomputable def spec : Abs.Spec := fun args K => ak (kg [.agg [.sl (.cols 0 [.ints .i64 [], .ints .i64 []]), .sl (.ints .u8 []), .sl (.ints .u8 [])]] args) K
theorem ok0 : Proved Tryz.prog GLO.gB 26 ak := by
 refine bf (D := D) (fn := Tryz.f26) (c := Tryz.f26.body.getD .skip) [.any] (by kernel_rfl) (ah (by kernel_rfl)) (by kernel_rfl) (by kernel_rfl) (by kernel_rfl) ⟨adb.ok, ab7.ok, trivial⟩ trivial ?_ ?_
 · rw [loops]; exact trivial
 · intro args K r h
   unfold ak at h
   split at h
   · rw [P.aoy] at h; exact Eq.trans (by kernel_rfl) h
   · cases h
theorem ok : Proved Tryz.prog GLO.gB 26 spec := bn _ ok0
end acg

namespace ow
abbrev X8 := P.zt6
def S8 : X8 → ASt := fun (g, h, a, b, c, d, e, f) => ⟨[(6, .own 40), (1, .v (.int .u64 g)), (7, .v (.int .i64 h)), (23, .sl (.cols a [.ints .i64 b, .ints .i64 c])), (24, .v (.int .i64 d)), (25, .v (.int .i64 e))], [(40, some ⟨.row 41 (.ints .u32 f), false⟩)], 41, 47⟩
def V8 : ASt → Option X8
 | ⟨[(6, .own 40), (1, .v (.int .u64 g)), (7, .v (.int .i64 h)), (23, .sl (.cols a [.ints .i64 b, .ints .i64 c])), (24, .v (.int .i64 d)), (25, .v (.int .i64 e))], [(40, some ⟨.row 41 (.ints .u32 f), false⟩)], 41, 47⟩ => some (g, h, a, b, c, d, e, f)
 | _ => none
theorem bbh (st) (x) (h : V8 st = some x) : st = S8 x := by
 unfold V8 at h
 split at h
 · cases h; rfl
 · cases h
abbrev Y8 := P.zy6
def E8 (K : AExit → ASt → Option R) : Y8 → Option R := (fun x => K (.exit 1) (S8 x))
noncomputable def L8 : qb := fun st K => adk (V8 st) fun x => P.zm6 x (E8 K)
noncomputable def D : Ctx := ({ P := Tryz.prog, G := [(28, adb.spec), (53, ab7.spec)], globs := GLO.gB, hints := [(8, ⟨[1, 7, 23, 24, 25], [(6, 41, .ints .u32 [])], [4, 5], [], some (40, []), [], [], []⟩)], loops := [(8, L8)], inl := [] } : Ctx)
theorem aqe (K) (next) (x) : lu D (cu Tryz.f25 8) K next (S8 x) = P.zs6 x (fun x => next (S8 x)) (E8 K) := by kernel_rfl
theorem bcw : jq D (cu Tryz.f25 8) := eu S8 bbh (by kernel_rfl) P.ze6 aqe
theorem loops : bg (Tryz.f25.body.getD .skip) = [cu Tryz.f25 8] := by kernel_rfl
noncomputable def ak : Abs.Spec := fun args K => match args with
 | [.agg [.sl (.cols a [.ints .i64 b, .ints .i64 c]), .sl (.ints .u8 e), .sl (.ints .u8 d)], .v (.int .u64 f)] => P.ow a b c e d f (fun g h => K (.tuple [.fr 41 (.ints .u32 g), .v (.int .i64 h)]))
 | _ => none
noncomputable def spec : Abs.Spec := fun args K => ak (kg [.agg [.sl (.cols 0 [.ints .i64 [], .ints .i64 []]), .sl (.ints .u8 []), .sl (.ints .u8 [])], .any] args) K
theorem ok0 : Proved Tryz.prog GLO.gB 25 ak := by
 refine bf (D := D) (fn := Tryz.f25) (c := Tryz.f25.body.getD .skip) [.fr 41 (.ints .u32 []), .any] (by kernel_rfl) (ah (by kernel_rfl)) (by kernel_rfl) (by kernel_rfl) (by kernel_rfl) ⟨adb.ok, ab7.ok, trivial⟩ trivial ?_ ?_
 · rw [loops]; exact ⟨bcw, trivial⟩
 · intro args K r h
   unfold ak at h
   split at h
   · rw [P.af5] at h; exact Eq.trans (by kernel_rfl) h
   · cases h
theorem ok : Proved Tryz.prog GLO.gB 25 spec := bn _ ok0
end ow

namespace jo
abbrev X3 := P.zt7
def S3 : X3 → ASt := fun (a, b, c, d) => ⟨[(3, .v (.int .u64 a)), (6, .sl (.ints .u8 b)), (7, .v (.int .i64 c)), (8, .v (.int .i64 d))], [], 0, 19⟩
def V3 : ASt → Option X3
 | ⟨[(3, .v (.int .u64 a)), (6, .sl (.ints .u8 b)), (7, .v (.int .i64 c)), (8, .v (.int .i64 d))], [], 0, 19⟩ => some (a, b, c, d)
 | _ => none
theorem anu (st) (x) (h : V3 st = some x) : st = S3 x := by
 unfold V3 at h
 split at h
 · cases h; rfl
 · cases h
abbrev Y3 := P.zy7
def E3 (K : AExit → ASt → Option R) : Y3 → Option R := (fun x => K (.exit 0) (S3 x))
noncomputable def L3 : qb := fun st K => adk (V3 st) fun x => P.zm7 x (E3 K)
noncomputable def D : Ctx := ({ P := Tryz.prog, G := [], globs := GLO.gB, hints := [(3, ⟨[3, 6, 7, 8], [], [2], [], none, [], [], []⟩)], loops := [(3, L3)], inl := [] } : Ctx)
theorem ahi (K) (next) (x) : lu D (cu Tryz.f54 3) K next (S3 x) = P.zs7 x (fun x => next (S3 x)) (E3 K) := by kernel_rfl
theorem an2 : jq D (cu Tryz.f54 3) := eu S3 anu (by kernel_rfl) P.ze7 ahi
theorem loops : bg (Tryz.f54.body.getD .skip) = [cu Tryz.f54 3] := by kernel_rfl
noncomputable def ak : Abs.Spec := fun args K => match args with
 | [.sl (.ints .u8 a)] => P.jo a (fun b => K (.v (.int .u64 b)))
 | _ => none
noncomputable def spec : Abs.Spec := fun args K => ak (kg [.sl (.ints .u8 [])] args) K
theorem ok0 : Proved Tryz.prog GLO.gB 54 ak := by
 refine bf (D := D) (fn := Tryz.f54) (c := Tryz.f54.body.getD .skip) [.any] (by kernel_rfl) (ah (by kernel_rfl)) (by kernel_rfl) (by kernel_rfl) (by kernel_rfl) trivial trivial ?_ ?_
 · rw [loops]; exact ⟨an2, trivial⟩
 · intro args K r h
   unfold ak at h
   split at h
   · rw [P.aw9] at h; exact Eq.trans (by kernel_rfl) h
   · cases h
theorem ok : Proved Tryz.prog GLO.gB 54 spec := bn _ ok0
end jo

namespace nu
noncomputable def D : Ctx := ({ P := Tryz.prog, G := [], globs := GLO.gB, hints := [], loops := [], inl := [] } : Ctx)
theorem loops : bg (Tryz.f85.body.getD .skip) = [] := by kernel_rfl
noncomputable def ak : Abs.Spec := fun args K => match args with
 | [.v (.slice none 0 0), .v (.int .i64 a)] => P.nu a (fun b => K (.fr 5 (.ints .u8 b)))
 | _ => none
noncomputable def spec : Abs.Spec := ak
theorem ok0 : Proved Tryz.prog GLO.gB 85 ak := by
 refine asb (D := D) (fn := Tryz.f85) (c := Tryz.f85.body.getD .skip) 5 (.ints .u8 []) (by kernel_rfl) (ah (by kernel_rfl)) (by kernel_rfl) (by kernel_rfl) (by kernel_rfl) trivial trivial ?_ ?_
 · rw [loops]; exact trivial
 · intro args K r h
   unfold ak at h
   split at h
   · rw [P.agm] at h; exact Eq.trans (by kernel_rfl) h
   · cases h
theorem ok : Proved Tryz.prog GLO.gB 85 spec := ok0
end nu

namespace iy
abbrev X3 := P.zt8
def S3 : X3 → ASt := fun (c, d, e, a, b) => ⟨[(0, .sl (.rows .u8 c)), (3, .v (.int .i64 d)), (9, .sl (.rows .u8 e)), (10, .v (.int .i64 a)), (11, .v (.int .i64 b))], [], 0, 36⟩
def V3 : ASt → Option X3
 | ⟨[(0, .sl (.rows .u8 c)), (3, .v (.int .i64 d)), (9, .sl (.rows .u8 e)), (10, .v (.int .i64 a)), (11, .v (.int .i64 b))], [], 0, 36⟩ => some (c, d, e, a, b)
 | _ => none
theorem anu (st) (x) (h : V3 st = some x) : st = S3 x := by
 unfold V3 at h
 split at h
 · cases h; rfl
 · cases h
abbrev Y3 := P.zy8
abbrev X11 := P.zt9
def S11 : X11 → ASt := fun (a, b, c, d) => ⟨[(6, .own 1), (25, .sl (.rows .u8 a)), (26, .v (.int .i64 b)), (27, .v (.int .i64 c))], [(1, some ⟨.row 5 (.ints .u8 d), false⟩), (0, none)], 2, 36⟩
def V11 : ASt → Option X11
 | ⟨[(6, .own 1), (25, .sl (.rows .u8 a)), (26, .v (.int .i64 b)), (27, .v (.int .i64 c))], [(1, some ⟨.row 5 (.ints .u8 d), false⟩), (0, none)], 2, 36⟩ => some (a, b, c, d)
 | _ => none
theorem bnq (st) (x) (h : V11 st = some x) : st = S11 x := by
 unfold V11 at h
 split at h
 · cases h; rfl
 · cases h
abbrev Y11 := P.zy9
def E3 (K : AExit → ASt → Option R) : Y3 → Option R := (fun x => K (.exit 0) (S3 x))
noncomputable def L3 : qb := fun st K => adk (V3 st) fun x => P.zm8 x (E3 K)
def E11 (K : AExit → ASt → Option R) : Y11 → Option R := (fun x => K (.exit 2) (S11 x))
noncomputable def L11 : qb := fun st K => adk (V11 st) fun x => P.zm9 x (E11 K)
noncomputable def D : Ctx := ({ P := Tryz.prog, G := [(85, nu.spec)], globs := GLO.gB, hints := [(11, ⟨[25, 26, 27], [(6, 5, .ints .u8 [])], [2], [], none, [], [], []⟩), (3, ⟨[0, 3, 9, 10, 11], [], [2], [], none, [], [], []⟩)], loops := [(3, L3), (11, L11)], inl := [] } : Ctx)
theorem ahi (K) (next) (x) : lu D (cu Tryz.f56 3) K next (S3 x) = P.zs8 x (fun x => next (S3 x)) (E3 K) := by kernel_rfl
theorem an2 : jq D (cu Tryz.f56 3) := eu S3 anu (by kernel_rfl) P.ze8 ahi
theorem bgh (K) (next) (x) : lu D (cu Tryz.f56 11) K next (S11 x) = P.zs9 x (fun x => next (S11 x)) (E11 K) := by kernel_rfl
theorem blo : jq D (cu Tryz.f56 11) := eu S11 bnq (by kernel_rfl) P.ze9 bgh
theorem loops : bg (Tryz.f56.body.getD .skip) = [cu Tryz.f56 3, cu Tryz.f56 11] := by kernel_rfl
noncomputable def ak : Abs.Spec := fun args K => match args with
 | [.sl (.rows .u8 a)] => P.iy a (fun b => K (.fr 5 (.ints .u8 b)))
 | _ => none
noncomputable def spec : Abs.Spec := fun args K => ak (kg [.sl (.rows .u8 [])] args) K
theorem ok0 : Proved Tryz.prog GLO.gB 56 ak := by
 refine bf (D := D) (fn := Tryz.f56) (c := Tryz.f56.body.getD .skip) [.fr 5 (.ints .u8 [])] (by kernel_rfl) (ah (by kernel_rfl)) (by kernel_rfl) (by kernel_rfl) (by kernel_rfl) ⟨nu.ok, trivial⟩ trivial ?_ ?_
 · rw [loops]; exact ⟨an2, blo, trivial⟩
 · intro args K r h
   unfold ak at h
   split at h
   · rw [P.afh] at h; exact Eq.trans (by kernel_rfl) h
   · cases h
theorem ok : Proved Tryz.prog GLO.gB 56 spec := bn _ ok0
end iy

namespace fq
noncomputable def D : Ctx := ({ P := Tryz.prog, G := [(56, iy.spec)], globs := GLO.gB, hints := [], loops := [], inl := [] } : Ctx)
theorem loops : bg (Tryz.f29.body.getD .skip) = [] := by kernel_rfl
noncomputable def ak : Abs.Spec := fun args K => match args with
 | [.sl (.rows .u8 a)] => P.fq a (fun b => K (.fr 5 (.ints .u8 b)))
 | _ => none
noncomputable def spec : Abs.Spec := fun args K => ak (kg [.sl (.rows .u8 [])] args) K
theorem ok0 : Proved Tryz.prog GLO.gB 29 ak := by
 refine bf (D := D) (fn := Tryz.f29) (c := Tryz.f29.body.getD .skip) [.fr 5 (.ints .u8 [])] (by kernel_rfl) (ah (by kernel_rfl)) (by kernel_rfl) (by kernel_rfl) (by kernel_rfl) ⟨iy.ok, trivial⟩ trivial ?_ ?_
 · rw [loops]; exact trivial
 · intro args K r h
   unfold ak at h
   split at h
   · rw [P.atr] at h; exact Eq.trans (by kernel_rfl) h
   · cases h
theorem ok : Proved Tryz.prog GLO.gB 29 spec := bn _ ok0
end fq

namespace ng
noncomputable def D : Ctx := ({ P := Tryz.prog, G := [], globs := GLO.gB, hints := [], loops := [], inl := [] } : Ctx)
theorem loops : bg (Tryz.f84.body.getD .skip) = [] := by kernel_rfl
noncomputable def ak : Abs.Spec := fun args K => match args with
 | [.v (.int .i64 d)] => P.ng d (fun a b c e => K (.tuple [.agg [.v (.int .i64 a), .v (.int .i64 b), .v (.int .i64 c)], .v (.bool e)]))
 | _ => none
noncomputable def spec : Abs.Spec := ak
theorem ok0 : Proved Tryz.prog GLO.gB 84 ak := by
 refine bf (D := D) (fn := Tryz.f84) (c := Tryz.f84.body.getD .skip) [.any, .any] (by kernel_rfl) (ah (by kernel_rfl)) (by kernel_rfl) (by kernel_rfl) (by kernel_rfl) trivial trivial ?_ ?_
 · rw [loops]; exact trivial
 · intro args K r h
   unfold ak at h
   split at h
   · rw [P.aav] at h; exact Eq.trans (by kernel_rfl) h
   · cases h
theorem ok : Proved Tryz.prog GLO.gB 84 spec := ok0
end ng

namespace lq
noncomputable def D : Ctx := ({ P := Tryz.prog, G := [(84, ng.spec)], globs := GLO.gB, hints := [], loops := [], inl := [] } : Ctx)
theorem loops : bg (Tryz.f52.body.getD .skip) = [] := by kernel_rfl
noncomputable def ak : Abs.Spec := fun args K => match args with
 | [.v (.int .i64 a)] => P.lq a (fun b => K (.v (.int .i64 b)))
 | _ => none
noncomputable def spec : Abs.Spec := ak
theorem ok0 : Proved Tryz.prog GLO.gB 52 ak := by
 refine bf (D := D) (fn := Tryz.f52) (c := Tryz.f52.body.getD .skip) [.any] (by kernel_rfl) (ah (by kernel_rfl)) (by kernel_rfl) (by kernel_rfl) (by kernel_rfl) ⟨ng.ok, trivial⟩ trivial ?_ ?_
 · rw [loops]; exact trivial
 · intro args K r h
   unfold ak at h
   split at h
   · rw [P.aor] at h; exact Eq.trans (by kernel_rfl) h
   · cases h
theorem ok : Proved Tryz.prog GLO.gB 52 spec := ok0
end lq

namespace agc
noncomputable def D : Ctx := ({ P := Tryz.prog, G := [(20, acr.spec), (52, lq.spec)], globs := GLO.gB, hints := [], loops := [], inl := [] } : Ctx)
theorem loops : bg (Tryz.f22.body.getD .skip) = [] := by kernel_rfl
noncomputable def ak : Abs.Spec := fun args K => match args with
 | [.agg [.v (.int .i64 a), .v (.int .i64 b)]] => P.agc a b (fun c => K (.v (.int .i64 c)))
 | _ => none
noncomputable def spec : Abs.Spec := ak
theorem ok0 : Proved Tryz.prog GLO.gB 22 ak := by
 refine bf (D := D) (fn := Tryz.f22) (c := Tryz.f22.body.getD .skip) [.any] (by kernel_rfl) (ah (by kernel_rfl)) (by kernel_rfl) (by kernel_rfl) (by kernel_rfl) ⟨acr.ok, lq.ok, trivial⟩ trivial ?_ ?_
 · rw [loops]; exact trivial
 · intro args K r h
   unfold ak at h
   split at h
   · rw [P.axy] at h; exact Eq.trans (by kernel_rfl) h
   · cases h
theorem ok : Proved Tryz.prog GLO.gB 22 spec := ok0
end agc

namespace yx
noncomputable def D : Ctx := ({ P := Tryz.prog, G := [], globs := GLO.gB, hints := [], loops := [], inl := [] } : Ctx)
theorem loops : bg (Tryz.f64.body.getD .skip) = [] := by kernel_rfl
noncomputable def ak : Abs.Spec := fun args K => match args with
 | [.v (.int .u64 a)] => P.yx a (fun b => K (.v (.int .i64 b)))
 | _ => none
noncomputable def spec : Abs.Spec := ak
theorem ok0 : Proved Tryz.prog GLO.gB 64 ak := by
 refine bf (D := D) (fn := Tryz.f64) (c := Tryz.f64.body.getD .skip) [.any] (by kernel_rfl) (ah (by kernel_rfl)) (by kernel_rfl) (by kernel_rfl) (by kernel_rfl) trivial trivial ?_ ?_
 · rw [loops]; exact trivial
 · intro args K r h
   unfold ak at h
   split at h
   · rw [P.atf] at h; exact Eq.trans (by kernel_rfl) h
   · cases h
theorem ok : Proved Tryz.prog GLO.gB 64 spec := ok0
end yx

namespace uq
noncomputable def D : Ctx := ({ P := Tryz.prog, G := [], globs := GLO.gB, hints := [], loops := [], inl := [] } : Ctx)
theorem loops : bg (Tryz.f63.body.getD .skip) = [] := by kernel_rfl
noncomputable def ak : Abs.Spec := fun args K => match args with
 | [.v (.int .u64 a)] => P.uq a (fun b => K (.v (.int .i64 b)))
 | _ => none
noncomputable def spec : Abs.Spec := ak
theorem ok0 : Proved Tryz.prog GLO.gB 63 ak := by
 refine bf (D := D) (fn := Tryz.f63) (c := Tryz.f63.body.getD .skip) [.any] (by kernel_rfl) (ah (by kernel_rfl)) (by kernel_rfl) (by kernel_rfl) (by kernel_rfl) trivial trivial ?_ ?_
 · rw [loops]; exact trivial
 · intro args K r h
   unfold ak at h
   split at h
   · rw [P.ao7] at h; exact Eq.trans (by kernel_rfl) h
   · cases h
theorem ok : Proved Tryz.prog GLO.gB 63 spec := ok0
end uq

namespace aeo
noncomputable def D : Ctx := ({ P := Tryz.prog, G := [(22, agc.spec), (29, fq.spec), (52, lq.spec), (54, jo.spec), (63, uq.spec), (64, yx.spec)], globs := GLO.gB, hints := [], loops := [], inl := [] } : Ctx)
theorem loops : bg (Tryz.f65.body.getD .skip) = [] := by kernel_rfl
noncomputable def ak : Abs.Spec := fun args K => match args with
 | [.sl (.ints .u8 c)] => P.aeo c (fun d a b e f => K (.tuple [.fr 5 (.ints .u8 d), .agg [.v (.int .i64 a), .v (.int .i64 b)], .fr 5 (.ints .u8 e), .v (.int .i64 f)]))
 | _ => none
noncomputable def spec : Abs.Spec := fun args K => ak (kg [.sl (.ints .u8 [])] args) K
theorem ok0 : Proved Tryz.prog GLO.gB 65 ak := by
 refine bf (D := D) (fn := Tryz.f65) (c := Tryz.f65.body.getD .skip) [.fr 5 (.ints .u8 []), .any, .fr 5 (.ints .u8 []), .any] (by kernel_rfl) (ah (by kernel_rfl)) (by kernel_rfl) (by kernel_rfl) (by kernel_rfl) ⟨agc.ok, fq.ok, lq.ok, jo.ok, uq.ok, yx.ok, trivial⟩ trivial ?_ ?_
 · rw [loops]; exact trivial
 · intro args K r h
   unfold ak at h
   split at h
   · rw [P.azm] at h; exact Eq.trans (by kernel_rfl) h
   · cases h
theorem ok : Proved Tryz.prog GLO.gB 65 spec := bn _ ok0
end aeo

namespace abz
abbrev X5 := P.bty
def S5 : X5 → ASt := fun (c, d, e, a, b) => ⟨[(0, .sl (.ints .u8 c)), (1, .sl (.ints .u8 d)), (5, .v (.int .u8 e)), (13, .v (.int .i64 a)), (14, .v (.int .i64 b))], [], 0, 31⟩
def V5 : ASt → Option X5
 | ⟨[(0, .sl (.ints .u8 c)), (1, .sl (.ints .u8 d)), (5, .v (.int .u8 e)), (13, .v (.int .i64 a)), (14, .v (.int .i64 b))], [], 0, 31⟩ => some (c, d, e, a, b)
 | _ => none
theorem av2 (st) (x) (h : V5 st = some x) : st = S5 x := by
 unfold V5 at h
 split at h
 · cases h; rfl
 · cases h
abbrev Y5 := P.bz4
def E5 (K : AExit → ASt → Option R) : Y5 → Option R := (fun x => K (.exit 0) (S5 x))
noncomputable def L5 : qb := fun st K => adk (V5 st) fun x => P.b1p x (E5 K)
noncomputable def D : Ctx := ({ P := Tryz.prog, G := [], globs := GLO.gB, hints := [(5, ⟨[0, 1, 5, 13, 14], [], [4], [], none, [], [], []⟩)], loops := [(5, L5)], inl := [] } : Ctx)
theorem ale (K) (next) (x) : lu D (cu Tryz.f66 5) K next (S5 x) = P.zs12 x (fun x => next (S5 x)) (E5 K) := by kernel_rfl
theorem aw4 : jq D (cu Tryz.f66 5) := eu S5 av2 (by kernel_rfl) P.b5y ale
theorem loops : bg (Tryz.f66.body.getD .skip) = [cu Tryz.f66 5] := by kernel_rfl
noncomputable def ak : Abs.Spec := fun args K => match args with
 | [.sl (.ints .u8 a), .sl (.ints .u8 b)] => P.abz a b (fun c => K (.v (.bool c)))
 | _ => none
noncomputable def spec : Abs.Spec := fun args K => ak (kg [.sl (.ints .u8 []), .sl (.ints .u8 [])] args) K
theorem ok0 : Proved Tryz.prog GLO.gB 66 ak := by
 refine bf (D := D) (fn := Tryz.f66) (c := Tryz.f66.body.getD .skip) [.any] (by kernel_rfl) (ah (by kernel_rfl)) (by kernel_rfl) (by kernel_rfl) (by kernel_rfl) trivial trivial ?_ ?_
 · rw [loops]; exact ⟨aw4, trivial⟩
 · intro args K r h
   unfold ak at h
   split at h
   · rw [P.asq] at h; exact Eq.trans (by kernel_rfl) h
   · cases h
theorem ok : Proved Tryz.prog GLO.gB 66 spec := bn _ ok0
end abz

namespace aes
abbrev X5 := P.bv3
def S5 : X5 → ASt := fun (c, a, b, d) => ⟨[(0, .v (.int .u64 c)), (5, .own 0), (16, .v (.int .i64 a)), (17, .v (.int .i64 b))], [(0, some ⟨.row 5 (.ints .u8 d), false⟩)], 1, 30⟩
def V5 : ASt → Option X5
 | ⟨[(0, .v (.int .u64 c)), (5, .own 0), (16, .v (.int .i64 a)), (17, .v (.int .i64 b))], [(0, some ⟨.row 5 (.ints .u8 d), false⟩)], 1, 30⟩ => some (c, a, b, d)
 | _ => none
theorem av2 (st) (x) (h : V5 st = some x) : st = S5 x := by
 unfold V5 at h
 split at h
 · cases h; rfl
 · cases h
abbrev Y5 := P.b0h
def E5 (K : AExit → ASt → Option R) : Y5 → Option R := (fun x => K (.exit 0) (S5 x))
noncomputable def L5 : qb := fun st K => adk (V5 st) fun x => P.bzr x (E5 K)
noncomputable def D : Ctx := ({ P := Tryz.prog, G := [], globs := GLO.gB, hints := [(5, ⟨[0, 5, 16, 17], [], [4], [], none, [], [], []⟩)], loops := [(5, L5)], inl := [] } : Ctx)
theorem ale (K) (next) (x) : lu D (cu Tryz.f57 5) K next (S5 x) = P.bu5 x (fun x => next (S5 x)) (E5 K) := by kernel_rfl
theorem aw4 : jq D (cu Tryz.f57 5) := eu S5 av2 (by kernel_rfl) P.b5w ale
theorem loops : bg (Tryz.f57.body.getD .skip) = [cu Tryz.f57 5] := by kernel_rfl
noncomputable def ak : Abs.Spec := fun args K => match args with
 | [.v (.int .u64 a), .v (.int .i64 b)] => P.aes a b (fun c => K (.fr 5 (.ints .u8 c)))
 | _ => none
noncomputable def spec : Abs.Spec := ak
theorem ok0 : Proved Tryz.prog GLO.gB 57 ak := by
 refine bf (D := D) (fn := Tryz.f57) (c := Tryz.f57.body.getD .skip) [.fr 5 (.ints .u8 [])] (by kernel_rfl) (ah (by kernel_rfl)) (by kernel_rfl) (by kernel_rfl) (by kernel_rfl) trivial trivial ?_ ?_
 · rw [loops]; exact ⟨aw4, trivial⟩
 · intro args K r h
   unfold ak at h
   split at h
   · rw [P.azq] at h; exact Eq.trans (by kernel_rfl) h
   · cases h
theorem ok : Proved Tryz.prog GLO.gB 57 spec := ok0
end aes

end
