/-
  XmssHypers, part 17: an interpreter of my own over abstract values, the pure functions, the walks and the plain law.
-/

import Derived.Test.YtjhnljhjpnjieaaGreatDoorXmssHypersI
import Derived.Test.YtjhnljhjpnjieaaGreatDoorXmssHypersG
import Derived.Test.YtjhnljhjpnjieaaGreatDoorProg
import Derived.Test.YtjhnljhjpnjieaaGreatDoorXmssHypersH
import Derived.KernelRfl
import Derived.Test.YtjhnljhjpnjieaaGreatDoorXmssHypersP

section
open Go Go.Abs Go.Proofs
set_option maxRecDepth 100000
set_option maxHeartbeats 0
set_option linter.unusedVariables false

namespace w9
abbrev X5 := P.bw2
def S5 : X5 → ASt := fun (a, b, c) => ⟨[(0, .v (.int .u64 a)), (5, .own 0), (6, .v (.int .i64 b))], [(0, some ⟨.row 5 (.ints .u8 c), false⟩)], 1, 30⟩
def V5 : ASt → Option X5
 | ⟨[(0, .v (.int .u64 a)), (5, .own 0), (6, .v (.int .i64 b))], [(0, some ⟨.row 5 (.ints .u8 c), false⟩)], 1, 30⟩ => some (a, b, c)
 | _ => none
theorem al9 (st) (x) (h : V5 st = some x) : st = S5 x := by
 unfold V5 at h
 split at h
 · cases h; rfl
 · cases h
abbrev Y5 := P.b44
def E5 (K : AExit → ASt → Option R) : Y5 → Option R := (fun x => K (.exit 0) (S5 x))
noncomputable def L5 : oz := fun st K => abx (V5 st) fun x => P.b31 x (E5 K)
noncomputable def D : Ctx := ({ P := Tryz.prog, G := [], globs := GLO.gx, hints := [(5, ⟨[0, 5, 6], [], [4], [], none, [], []⟩)], loops := [(5, L5)], inl := [] } : Ctx)
theorem aey (K) (next) (x) : jo D (dz Tryz.f104 5) K next (S5 x) = P.bz8 x (fun x => next (S5 x)) (E5 K) := by kernel_rfl
theorem al6 : jl D (dz Tryz.f104 5) := gq S5 al9 (by kernel_rfl) P.cc5 aey
theorem loops : d9 (Tryz.f104.body.getD .skip) = [dz Tryz.f104 5] := by kernel_rfl
noncomputable def bn : Abs.Spec := fun args K => match args with
 | [.v (.int .u64 a), .v (.int .i64 b)] => P.w9 a b (fun c => K (.fr 5 (.ints .u8 c)))
 | _ => none
noncomputable def spec : Abs.Spec := bn
theorem ok0 : Proved Tryz.prog GLO.gx 104 bn := by
 refine dh (D := D) (fn := Tryz.f104) (c := Tryz.f104.body.getD .skip) [.fr 5 (.ints .u8 [])] (by kernel_rfl) (bf (by kernel_rfl)) (by kernel_rfl) (by kernel_rfl) (by kernel_rfl) trivial trivial ?_ ?_
 · rw [loops]; exact ⟨al6, trivial⟩
 · intro args K r h
   unfold bn at h
   split at h
   · rw [P.bfi] at h; exact Eq.trans (by kernel_rfl) h
   · cases h
theorem ok : Proved Tryz.prog GLO.gx 104 spec := ok0
end w9

namespace ae5
noncomputable def D : Ctx := ({ P := Tryz.prog, G := [], globs := GLO.gx, hints := [], loops := [], inl := [] } : Ctx)
theorem loops : d9 (Tryz.f81.body.getD .skip) = [] := by kernel_rfl
noncomputable def bn : Abs.Spec := fun args K => match args with
 | [.sl (.ints .u8 a), .v (.int .i64 b), .v (.int .i64 c)] => P.ae5 a b c (fun d => K (.v (.bool d)))
 | _ => none
noncomputable def spec : Abs.Spec := fun args K => bn (og [.sl (.ints .u8 []), .any, .any] args) K
theorem ok0 : Proved Tryz.prog GLO.gx 81 bn := by
 refine dh (D := D) (fn := Tryz.f81) (c := Tryz.f81.body.getD .skip) [.any] (by kernel_rfl) (bf (by kernel_rfl)) (by kernel_rfl) (by kernel_rfl) (by kernel_rfl) trivial trivial ?_ ?_
 · rw [loops]; exact trivial
 · intro args K r h
   unfold bn at h
   split at h
   · rw [P.axh] at h; exact Eq.trans (by kernel_rfl) h
   · cases h
theorem ok : Proved Tryz.prog GLO.gx 81 spec := eu _ ok0
end ae5

namespace qo
abbrev X9 := P.bvw
def S9 : X9 → ASt := fun (b, c, d, e, f, a, g) => ⟨[(0, .sl (.ints .u8 b)), (1, .v (.int .i64 c)), (2, .v (.int .i64 d)), (7, .own 0), (8, .v (.int .i64 e)), (9, .v (.int .u32 f)), (10, .v (.int .i64 a))], [(0, some ⟨.row 64 (.ints .u32 g), false⟩)], 1, 51⟩
def V9 : ASt → Option X9
 | ⟨[(0, .sl (.ints .u8 b)), (1, .v (.int .i64 c)), (2, .v (.int .i64 d)), (7, .own 0), (8, .v (.int .i64 e)), (9, .v (.int .u32 f)), (10, .v (.int .i64 a))], [(0, some ⟨.row 64 (.ints .u32 g), false⟩)], 1, 51⟩ => some (b, c, d, e, f, a, g)
 | _ => none
theorem bs1 (st) (x) (h : V9 st = some x) : st = S9 x := by
 unfold V9 at h
 split at h
 · cases h; rfl
 · cases h
abbrev Y9 := P.b90
abbrev X5 := P.bzo
def S5 : X5 → ASt := fun (a, b, c, d, e) => ⟨[(7, .own 0), (0, .sl (.ints .u8 a)), (1, .v (.int .i64 b)), (2, .v (.int .i64 c)), (8, .v (.int .i64 d))], [(0, some ⟨.row 64 (.ints .u32 e), false⟩)], 1, 51⟩
def V5 : ASt → Option X5
 | ⟨[(7, .own 0), (0, .sl (.ints .u8 a)), (1, .v (.int .i64 b)), (2, .v (.int .i64 c)), (8, .v (.int .i64 d))], [(0, some ⟨.row 64 (.ints .u32 e), false⟩)], 1, 51⟩ => some (a, b, c, d, e)
 | _ => none
theorem al9 (st) (x) (h : V5 st = some x) : st = S5 x := by
 unfold V5 at h
 split at h
 · cases h; rfl
 · cases h
abbrev Y5 := P.b6o
def E9 (K : AExit → ASt → Option R) : Y9 → Option R := (fun x => K (.exit 2) (S9 x))
noncomputable def L9 : oz := fun st K => abx (V9 st) fun x => P.b4d x (E9 K)
def E5 (K : AExit → ASt → Option R) : Y5 → Option R := (fun x => K (.exit 0) (S5 x))
noncomputable def L5 : oz := fun st K => abx (V5 st) fun x => P.b86 x (E5 K)
noncomputable def D : Ctx := ({ P := Tryz.prog, G := [(81, ae5.spec)], globs := GLO.gx, hints := [(9, ⟨[0, 1, 2, 7, 8, 9, 10], [], [6], [], none, [], []⟩), (5, ⟨[0, 1, 2, 8], [(7, 64, .ints .u32 [])], [6], [], none, [], []⟩)], loops := [(9, L9), (5, L5)], inl := [] } : Ctx)
theorem bo0 (K) (next) (x) : jo D (dz Tryz.f49 9) K next (S9 x) = P.b0u x (fun x => next (S9 x)) (E9 K) := by kernel_rfl
theorem btx : jl D (dz Tryz.f49 9) := gq S9 bs1 (by kernel_rfl) P.cch bo0
theorem aey (K) (next) (x) : jo D (dz Tryz.f49 5) K next (S5 x) = P.b0c x (fun x => next (S5 x)) (E5 K) := by kernel_rfl
theorem al6 : jl D (dz Tryz.f49 5) := gq S5 al9 (by kernel_rfl) P.cd0 aey
theorem loops : d9 (Tryz.f49.body.getD .skip) = [dz Tryz.f49 5, dz Tryz.f49 9] := by kernel_rfl
noncomputable def bn : Abs.Spec := fun args K => match args with
 | [.sl (.ints .u8 a), .v (.int .i64 b), .v (.int .i64 c)] => P.qo a b c (fun d => K (.fr 64 (.ints .u32 d)))
 | _ => none
noncomputable def spec : Abs.Spec := fun args K => bn (og [.sl (.ints .u8 []), .any, .any] args) K
theorem ok0 : Proved Tryz.prog GLO.gx 49 bn := by
 refine dh (D := D) (fn := Tryz.f49) (c := Tryz.f49.body.getD .skip) [.fr 64 (.ints .u32 [])] (by kernel_rfl) (bf (by kernel_rfl)) (by kernel_rfl) (by kernel_rfl) (by kernel_rfl) ⟨ae5.ok, trivial⟩ trivial ?_ ?_
 · rw [loops]; exact ⟨al6, btx, trivial⟩
 · intro args K r h
   unfold bn at h
   split at h
   · rw [P.arw] at h; exact Eq.trans (by kernel_rfl) h
   · cases h
theorem ok : Proved Tryz.prog GLO.gx 49 spec := eu _ ok0
end qo

namespace xk
abbrev X6 := P.bzi
def S6 : X6 → ASt := fun (a, b, c) => ⟨[(5, .own 0), (6, .v (.int .u64 a)), (7, .v (.int .i64 b))], [(0, some ⟨.row 64 (.ints .u32 c), false⟩)], 1, 48⟩
def V6 : ASt → Option X6
 | ⟨[(5, .own 0), (6, .v (.int .u64 a)), (7, .v (.int .i64 b))], [(0, some ⟨.row 64 (.ints .u32 c), false⟩)], 1, 48⟩ => some (a, b, c)
 | _ => none
theorem ail (st) (x) (h : V6 st = some x) : st = S6 x := by
 unfold V6 at h
 split at h
 · cases h; rfl
 · cases h
abbrev Y6 := P.b3k
def E6 (K : AExit → ASt → Option R) : Y6 → Option R := (fun x => K (.exit 0) (S6 x))
noncomputable def L6 : oz := fun st K => abx (V6 st) fun x => P.b8n x (E6 K)
noncomputable def D : Ctx := ({ P := Tryz.prog, G := [(49, qo.spec), (104, w9.spec)], globs := GLO.gx, hints := [(6, ⟨[5, 6, 7], [], [4], [], none, [], []⟩)], loops := [(6, L6)], inl := [] } : Ctx)
theorem adf (K) (next) (x) : jo D (dz Tryz.f91 6) K next (S6 x) = P.b0h x (fun x => next (S6 x)) (E6 K) := by kernel_rfl
theorem aif : jl D (dz Tryz.f91 6) := gq S6 ail (by kernel_rfl) P.cb4 adf
theorem loops : d9 (Tryz.f91.body.getD .skip) = [dz Tryz.f91 6] := by kernel_rfl
noncomputable def bn : Abs.Spec := fun args K => match args with
 | [.v (.int .i64 a), .sl (.ints .u8 b)] => P.xk a b (fun c => K (.fr 64 (.ints .u32 c)))
 | _ => none
noncomputable def spec : Abs.Spec := fun args K => bn (og [.any, .sl (.ints .u8 [])] args) K
theorem ok0 : Proved Tryz.prog GLO.gx 91 bn := by
 refine dh (D := D) (fn := Tryz.f91) (c := Tryz.f91.body.getD .skip) [.fr 64 (.ints .u32 [])] (by kernel_rfl) (bf (by kernel_rfl)) (by kernel_rfl) (by kernel_rfl) (by kernel_rfl) ⟨qo.ok, w9.ok, trivial⟩ trivial ?_ ?_
 · rw [loops]; exact ⟨aif, trivial⟩
 · intro args K r h
   unfold bn at h
   split at h
   · rw [P.atj] at h; exact Eq.trans (by kernel_rfl) h
   · cases h
theorem ok : Proved Tryz.prog GLO.gx 91 spec := eu _ ok0
end xk

namespace aap
abbrev X2 := P.byp
def S2 : X2 → ASt := fun (c, d, e, a, b) => ⟨[(1, .v (.int .i64 c)), (2, .sl (.ints .u8 d)), (3, .ptr 0 0), (6, .ptr 1 0), (7, .v (.int .i64 e))], [(0, some ⟨.box 25 [.arr .u8 32 a], false⟩), (1, some ⟨.box 25 [.arr .u8 32 b], false⟩)], 2, 23⟩
def V2 : ASt → Option X2
 | ⟨[(1, .v (.int .i64 c)), (2, .sl (.ints .u8 d)), (3, .ptr 0 0), (6, .ptr 1 0), (7, .v (.int .i64 e))], [(0, some ⟨.box 25 [.arr .u8 32 a], false⟩), (1, some ⟨.box 25 [.arr .u8 32 b], false⟩)], 2, 23⟩ => some (c, d, e, a, b)
 | _ => none
theorem axf (st) (x) (h : V2 st = some x) : st = S2 x := by
 unfold V2 at h
 split at h
 · cases h; rfl
 · cases h
abbrev Y2 := P.b3w
def E2 (K : AExit → ASt → Option R) : Y2 → Option R := (fun x => K (.exit 0) (S2 x))
noncomputable def L2 : oz := fun st K => abx (V2 st) fun x => P.b5f x (E2 K)
noncomputable def D : Ctx := ({ P := Tryz.prog, G := [], globs := GLO.gx, hints := [(2, ⟨[1, 2, 3, 6, 7], [], [6], [], none, [], []⟩)], loops := [(2, L2)], inl := [] } : Ctx)
theorem anm (K) (next) (x) : jo D (dz Tryz.f103 2) K next (S2 x) = P.bys x (fun x => next (S2 x)) (E2 K) := by kernel_rfl
theorem azp : jl D (dz Tryz.f103 2) := gq S2 axf (by kernel_rfl) P.cdg anm
theorem loops : d9 (Tryz.f103.body.getD .skip) = [dz Tryz.f103 2] := by kernel_rfl
noncomputable def bn : Abs.Spec := fun args K => match args with
 | [.arr .u8 32 a, .v (.int .i64 b), .sl (.ints .u8 c)] => P.aap a b c (fun d => K (.arr .u8 32 d))
 | _ => none
noncomputable def spec : Abs.Spec := fun args K => bn (og [.any, .any, .sl (.ints .u8 [])] args) K
theorem ok0 : Proved Tryz.prog GLO.gx 103 bn := by
 refine dh (D := D) (fn := Tryz.f103) (c := Tryz.f103.body.getD .skip) [.any] (by kernel_rfl) (bf (by kernel_rfl)) (by kernel_rfl) (by kernel_rfl) (by kernel_rfl) trivial trivial ?_ ?_
 · rw [loops]; exact ⟨azp, trivial⟩
 · intro args K r h
   unfold bn at h
   split at h
   · rw [P.bb9] at h; exact Eq.trans (by kernel_rfl) h
   · cases h
theorem ok : Proved Tryz.prog GLO.gx 103 spec := eu _ ok0
end aap

namespace ji
noncomputable def D : Ctx := ({ P := Tryz.prog, G := [(103, aap.spec), (104, w9.spec)], globs := GLO.gx, hints := [], loops := [], inl := [] } : Ctx)
theorem loops : d9 (Tryz.f72.body.getD .skip) = [] := by kernel_rfl
noncomputable def bn : Abs.Spec := fun args K => match args with
 | [.arr .u8 32 a, .v (.int .i64 b), .v (.int .u64 c)] => P.ji a b c (fun d => K (.arr .u8 32 d))
 | _ => none
noncomputable def spec : Abs.Spec := bn
theorem ok0 : Proved Tryz.prog GLO.gx 72 bn := by
 refine dh (D := D) (fn := Tryz.f72) (c := Tryz.f72.body.getD .skip) [.any] (by kernel_rfl) (bf (by kernel_rfl)) (by kernel_rfl) (by kernel_rfl) (by kernel_rfl) ⟨aap.ok, w9.ok, trivial⟩ trivial ?_ ?_
 · rw [loops]; exact trivial
 · intro args K r h
   unfold bn at h
   split at h
   · rw [P.bbq] at h; exact Eq.trans (by kernel_rfl) h
   · cases h
theorem ok : Proved Tryz.prog GLO.gx 72 spec := ok0
end ji

namespace zq
noncomputable def D : Ctx := ({ P := Tryz.prog, G := [], globs := GLO.gx, hints := [], loops := [], inl := [] } : Ctx)
theorem loops : d9 (Tryz.f117.body.getD .skip) = [] := by kernel_rfl
noncomputable def bn : Abs.Spec := fun args K => match args with
 | [.v (.int .i64 a)] => P.zq a (fun b => K (.v (.int .i64 b)))
 | _ => none
noncomputable def spec : Abs.Spec := bn
theorem ok0 : Proved Tryz.prog GLO.gx 117 bn := by
 refine dh (D := D) (fn := Tryz.f117) (c := Tryz.f117.body.getD .skip) [.any] (by kernel_rfl) (bf (by kernel_rfl)) (by kernel_rfl) (by kernel_rfl) (by kernel_rfl) trivial trivial ?_ ?_
 · rw [loops]; exact trivial
 · intro args K r h
   unfold bn at h
   split at h
   · rw [P.avv] at h; exact Eq.trans (by kernel_rfl) h
   · cases h
theorem ok : Proved Tryz.prog GLO.gx 117 spec := ok0
end zq

namespace zy
noncomputable def D : Ctx := ({ P := Tryz.prog, G := [], globs := GLO.gx, hints := [], loops := [], inl := [] } : Ctx)
theorem loops : d9 (Tryz.f150.body.getD .skip) = [] := by kernel_rfl
noncomputable def bn : Abs.Spec := fun args K => match args with
 | [.v (.int .u64 a), .v (.int .i64 b), .v (.bool c)] => P.zy a b c (fun d => K (.v (.int .u64 d)))
 | _ => none
noncomputable def spec : Abs.Spec := bn
theorem ok0 : Proved Tryz.prog GLO.gx 150 bn := by
 refine dh (D := D) (fn := Tryz.f150) (c := Tryz.f150.body.getD .skip) [.any] (by kernel_rfl) (bf (by kernel_rfl)) (by kernel_rfl) (by kernel_rfl) (by kernel_rfl) trivial trivial ?_ ?_
 · rw [loops]; exact trivial
 · intro args K r h
   unfold bn at h
   split at h
   · rw [P.ajr] at h; exact Eq.trans (by kernel_rfl) h
   · cases h
theorem ok : Proved Tryz.prog GLO.gx 150 spec := ok0
end zy

namespace zn
noncomputable def D : Ctx := ({ P := Tryz.prog, G := [(150, zy.spec)], globs := GLO.gx, hints := [], loops := [], inl := [] } : Ctx)
theorem loops : d9 (Tryz.f137.body.getD .skip) = [] := by kernel_rfl
noncomputable def bn : Abs.Spec := fun args K => match args with
 | [.v (.int .u64 a), .v (.int .i64 b), .v (.int .i64 c), .v (.int .i64 d), .v (.bool e), .v (.bool f)] => P.zn a b c d e f (fun g => K (.v (.int .u64 g)))
 | _ => none
noncomputable def spec : Abs.Spec := bn
theorem ok0 : Proved Tryz.prog GLO.gx 137 bn := by
 refine dh (D := D) (fn := Tryz.f137) (c := Tryz.f137.body.getD .skip) [.any] (by kernel_rfl) (bf (by kernel_rfl)) (by kernel_rfl) (by kernel_rfl) (by kernel_rfl) ⟨zy.ok, trivial⟩ trivial ?_ ?_
 · rw [loops]; exact trivial
 · intro args K r h
   unfold bn at h
   split at h
   · rw [P.afw] at h; exact Eq.trans (by kernel_rfl) h
   · cases h
theorem ok : Proved Tryz.prog GLO.gx 137 spec := ok0
end zn

namespace zk
noncomputable def D : Ctx := ({ P := Tryz.prog, G := [], globs := GLO.gx, hints := [], loops := [], inl := [] } : Ctx)
theorem loops : d9 (Tryz.f134.body.getD .skip) = [] := by kernel_rfl
noncomputable def bn : Abs.Spec := fun args K => match args with
 | [] => P.zk (fun a => K (.arr .u64 64 a))
 | _ => none
noncomputable def spec : Abs.Spec := bn
theorem ok0 : Proved Tryz.prog GLO.gx 134 bn := by
 refine dh (D := D) (fn := Tryz.f134) (c := Tryz.f134.body.getD .skip) [.any] (by kernel_rfl) (bf (by kernel_rfl)) (by kernel_rfl) (by kernel_rfl) (by kernel_rfl) trivial trivial ?_ ?_
 · rw [loops]; exact trivial
 · intro args K r h
   unfold bn at h
   split at h
   · rw [P.ai1] at h; exact Eq.trans (by kernel_rfl) h
   · cases h
theorem ok : Proved Tryz.prog GLO.gx 134 spec := ok0
end zk

namespace zi
noncomputable def D : Ctx := ({ P := Tryz.prog, G := [], globs := GLO.gx, hints := [], loops := [], inl := [] } : Ctx)
theorem loops : d9 (Tryz.f135.body.getD .skip) = [] := by kernel_rfl
noncomputable def bn : Abs.Spec := fun args K => match args with
 | [] => P.zi (fun a => K (.arr .u64 80 a))
 | _ => none
noncomputable def spec : Abs.Spec := bn
theorem ok0 : Proved Tryz.prog GLO.gx 135 bn := by
 refine dh (D := D) (fn := Tryz.f135) (c := Tryz.f135.body.getD .skip) [.any] (by kernel_rfl) (bf (by kernel_rfl)) (by kernel_rfl) (by kernel_rfl) (by kernel_rfl) trivial trivial ?_ ?_
 · rw [loops]; exact trivial
 · intro args K r h
   unfold bn at h
   split at h
   · rw [P.aii] at h; exact Eq.trans (by kernel_rfl) h
   · cases h
theorem ok : Proved Tryz.prog GLO.gx 135 spec := ok0
end zi

namespace ad5
abbrev X3 := P.b0t
def S3 : X3 → ASt := fun (a, b, c) => ⟨[(0, .sl (.ints .u8 a)), (3, .v (.int .u64 b)), (4, .v (.int .i64 c))], [], 0, 20⟩
def V3 : ASt → Option X3
 | ⟨[(0, .sl (.ints .u8 a)), (3, .v (.int .u64 b)), (4, .v (.int .i64 c))], [], 0, 20⟩ => some (a, b, c)
 | _ => none
theorem aq4 (st) (x) (h : V3 st = some x) : st = S3 x := by
 unfold V3 at h
 split at h
 · cases h; rfl
 · cases h
abbrev Y3 := P.b61
def E3 (K : AExit → ASt → Option R) : Y3 → Option R := (fun x => K (.exit 0) (S3 x))
noncomputable def L3 : oz := fun st K => abx (V3 st) fun x => P.b78 x (E3 K)
noncomputable def D : Ctx := ({ P := Tryz.prog, G := [], globs := GLO.gx, hints := [(3, ⟨[0, 3, 4], [], [2], [], none, [], []⟩)], loops := [(3, L3)], inl := [] } : Ctx)
theorem ais (K) (next) (x) : jo D (dz Tryz.f105 3) K next (S3 x) = P.bze x (fun x => next (S3 x)) (E3 K) := by kernel_rfl
theorem aqb : jl D (dz Tryz.f105 3) := gq S3 aq4 (by kernel_rfl) P.ccd ais
theorem loops : d9 (Tryz.f105.body.getD .skip) = [dz Tryz.f105 3] := by kernel_rfl
noncomputable def bn : Abs.Spec := fun args K => match args with
 | [.sl (.ints .u8 a)] => P.ad5 a (fun b => K (.v (.int .u64 b)))
 | _ => none
noncomputable def spec : Abs.Spec := fun args K => bn (og [.sl (.ints .u8 [])] args) K
theorem ok0 : Proved Tryz.prog GLO.gx 105 bn := by
 refine dh (D := D) (fn := Tryz.f105) (c := Tryz.f105.body.getD .skip) [.any] (by kernel_rfl) (bf (by kernel_rfl)) (by kernel_rfl) (by kernel_rfl) (by kernel_rfl) trivial trivial ?_ ?_
 · rw [loops]; exact ⟨aqb, trivial⟩
 · intro args K r h
   unfold bn at h
   split at h
   · rw [P.bbf] at h; exact Eq.trans (by kernel_rfl) h
   · cases h
theorem ok : Proved Tryz.prog GLO.gx 105 spec := eu _ ok0
end ad5

namespace ac8
abbrev X6 := P.bxb
def S6 : X6 → ASt := fun (b, c, d, e, f, a, g) => ⟨[(10, .own 0), (0, .sl (.ints .u8 b)), (1, .v (.bool c)), (2, .v (.int .i64 d)), (3, .v (.int .u64 e)), (9, .v (.int .i64 f)), (11, .v (.int .i64 a))], [(0, some ⟨.row 27 (.ints .u64 g), false⟩)], 1, 82⟩
def V6 : ASt → Option X6
 | ⟨[(10, .own 0), (0, .sl (.ints .u8 b)), (1, .v (.bool c)), (2, .v (.int .i64 d)), (3, .v (.int .u64 e)), (9, .v (.int .i64 f)), (11, .v (.int .i64 a))], [(0, some ⟨.row 27 (.ints .u64 g), false⟩)], 1, 82⟩ => some (b, c, d, e, f, a, g)
 | _ => none
theorem ail (st) (x) (h : V6 st = some x) : st = S6 x := by
 unfold V6 at h
 split at h
 · cases h; rfl
 · cases h
abbrev Y6 := P.b96
def E6 (K : AExit → ASt → Option R) : Y6 → Option R := (fun x => K (.exit 0) (S6 x))
noncomputable def L6 : oz := fun st K => abx (V6 st) fun x => P.cbp x (E6 K)
noncomputable def D : Ctx := ({ P := Tryz.prog, G := [(105, ad5.spec), (137, zn.spec)], globs := GLO.gx, hints := [(6, ⟨[0, 1, 2, 3, 9, 11], [(10, 27, .ints .u64 [])], [8], [], none, [], []⟩)], loops := [(6, L6)], inl := [] } : Ctx)
theorem adf (K) (next) (x) : jo D (dz Tryz.f136 6) K next (S6 x) = P.bu5 x (fun x => next (S6 x)) (E6 K) := by kernel_rfl
theorem aif : jl D (dz Tryz.f136 6) := gq S6 ail (by kernel_rfl) P.cb5 adf
theorem loops : d9 (Tryz.f136.body.getD .skip) = [dz Tryz.f136 6] := by kernel_rfl
noncomputable def bn : Abs.Spec := fun args K => match args with
 | [.sl (.ints .u8 a), .v (.bool b), .v (.int .i64 c), .v (.int .u64 d)] => P.ac8 a b c d (fun e => K (.fr 27 (.ints .u64 e)))
 | _ => none
noncomputable def spec : Abs.Spec := fun args K => bn (og [.sl (.ints .u8 []), .any, .any, .any] args) K
theorem ok0 : Proved Tryz.prog GLO.gx 136 bn := by
 refine dh (D := D) (fn := Tryz.f136) (c := Tryz.f136.body.getD .skip) [.fr 27 (.ints .u64 [])] (by kernel_rfl) (bf (by kernel_rfl)) (by kernel_rfl) (by kernel_rfl) (by kernel_rfl) ⟨ad5.ok, zn.ok, trivial⟩ trivial ?_ ?_
 · rw [loops]; exact ⟨aif, trivial⟩
 · intro args K r h
   unfold bn at h
   split at h
   · rw [P.an9] at h; exact Eq.trans (by kernel_rfl) h
   · cases h
theorem ok : Proved Tryz.prog GLO.gx 136 spec := eu _ ok0
end ac8

namespace ad8
abbrev X11 := P.bw7
def S11 : X11 → ASt := fun (g, h, i, f, a, b, c, d, j, e) => ⟨[(2, .v (.bool g)), (3, .ptr 0 0), (6, .ptr 1 0), (7, .v (.int .i64 h)), (8, .v (.int .u64 i)), (9, .ptr 2 0), (10, .ptr 3 0), (11, .own 4), (12, .ptr 5 0), (13, .v (.int .i64 f))], [(0, some ⟨.box 115 [.arr .u64 8 a], false⟩), (1, some ⟨.box 115 [.arr .u64 8 b], false⟩), (2, some ⟨.box 140 [.arr .u64 64 c], false⟩), (3, some ⟨.box 142 [.arr .u64 80 d], false⟩), (4, some ⟨.row 27 (.ints .u64 j), false⟩), (5, some ⟨.box 115 [.arr .u64 8 e], false⟩)], 6, 137⟩
def V11 : ASt → Option X11
 | ⟨[(2, .v (.bool g)), (3, .ptr 0 0), (6, .ptr 1 0), (7, .v (.int .i64 h)), (8, .v (.int .u64 i)), (9, .ptr 2 0), (10, .ptr 3 0), (11, .own 4), (12, .ptr 5 0), (13, .v (.int .i64 f))], [(0, some ⟨.box 115 [.arr .u64 8 a], false⟩), (1, some ⟨.box 115 [.arr .u64 8 b], false⟩), (2, some ⟨.box 140 [.arr .u64 64 c], false⟩), (3, some ⟨.box 142 [.arr .u64 80 d], false⟩), (4, some ⟨.row 27 (.ints .u64 j), false⟩), (5, some ⟨.box 115 [.arr .u64 8 e], false⟩)], 6, 137⟩ => some (g, h, i, f, a, b, c, d, j, e)
 | _ => none
theorem bnk (st) (x) (h : V11 st = some x) : st = S11 x := by
 unfold V11 at h
 split at h
 · cases h; rfl
 · cases h
abbrev Y11 := P.b8x
abbrev X25 := P.bxd
def S25 : X25 → ASt := fun (e, d, a, b, c) => ⟨[(3, .ptr 0 0), (6, .ptr 1 0), (8, .v (.int .u64 e)), (12, .ptr 5 0), (19, .v (.int .i64 d))], [(0, some ⟨.box 115 [.arr .u64 8 a], false⟩), (1, some ⟨.box 115 [.arr .u64 8 b], false⟩), (5, some ⟨.box 115 [.arr .u64 8 c], false⟩)], 80, 137⟩
def V25 : ASt → Option X25
 | ⟨[(3, .ptr 0 0), (6, .ptr 1 0), (8, .v (.int .u64 e)), (12, .ptr 5 0), (19, .v (.int .i64 d))], [(0, some ⟨.box 115 [.arr .u64 8 a], false⟩), (1, some ⟨.box 115 [.arr .u64 8 b], false⟩), (5, some ⟨.box 115 [.arr .u64 8 c], false⟩)], 80, 137⟩ => some (e, d, a, b, c)
 | _ => none
theorem bz2 (st) (x) (h : V25 st = some x) : st = S25 x := by
 unfold V25 at h
 split at h
 · cases h; rfl
 · cases h
abbrev Y25 := P.b7v
def E11 (K : AExit → ASt → Option R) : Y11 → Option R := (fun x => K (.exit 0) (S11 x))
noncomputable def L11 : oz := fun st K => abx (V11 st) fun x => P.b8u x (E11 K)
def E25 (K : AExit → ASt → Option R) : Y25 → Option R := (fun x => K (.exit 2) (S25 x))
noncomputable def L25 : oz := fun st K => abx (V25 st) fun x => P.b9y x (E25 K)
noncomputable def D : Ctx := ({ P := Tryz.prog, G := [(134, zk.spec), (135, zi.spec), (136, ac8.spec), (137, zn.spec)], globs := GLO.gx, hints := [(25, ⟨[3, 6, 8, 12, 19], [], [6], [], some (80, [0, 1, 5]), [], []⟩), (11, ⟨[2, 3, 6, 7, 8, 9, 10, 11, 12, 13], [], [6], [], none, [], []⟩)], loops := [(11, L11), (25, L25)], inl := [] } : Ctx)
theorem bij (K) (next) (x) : jo D (dz Tryz.f118 11) K next (S11 x) = P.buz x (fun x => next (S11 x)) (E11 K) := by kernel_rfl
theorem bn4 : jl D (dz Tryz.f118 11) := gq S11 bnk (by kernel_rfl) P.cdq bij
theorem bsx (K) (next) (x) : jo D (dz Tryz.f118 25) K next (S25 x) = P.bu8 x (fun x => next (S25 x)) (E25 K) := by kernel_rfl
theorem bwi : jl D (dz Tryz.f118 25) := gq S25 bz2 (by kernel_rfl) P.cdl bsx
theorem loops : d9 (Tryz.f118.body.getD .skip) = [dz Tryz.f118 11, dz Tryz.f118 25] := by kernel_rfl
noncomputable def bn : Abs.Spec := fun args K => match args with
 | [.arr .u64 8 a, .sl (.ints .u8 b), .v (.bool c)] => P.ad8 a b c (fun d => K (.arr .u64 8 d))
 | _ => none
noncomputable def spec : Abs.Spec := fun args K => bn (og [.any, .sl (.ints .u8 []), .any] args) K
theorem ok0 : Proved Tryz.prog GLO.gx 118 bn := by
 refine dh (D := D) (fn := Tryz.f118) (c := Tryz.f118.body.getD .skip) [.any] (by kernel_rfl) (bf (by kernel_rfl)) (by kernel_rfl) (by kernel_rfl) (by kernel_rfl) ⟨zk.ok, zi.ok, ac8.ok, zn.ok, trivial⟩ trivial ?_ ?_
 · rw [loops]; exact ⟨bn4, bwi, trivial⟩
 · intro args K r h
   unfold bn at h
   split at h
   · rw [P.anp] at h; exact Eq.trans (by kernel_rfl) h
   · cases h
theorem ok : Proved Tryz.prog GLO.gx 118 spec := eu _ ok0
end ad8

namespace ade
abbrev X4 := P.b0m
def S4 : X4 → ASt := fun (h, i, a, b, c, d, e, f, g) => ⟨[(2, .ptr 0 0), (4, .ptr 1 0), (5, .v (.int .i64 h)), (6, .sl (.ints .u8 i))], [(0, some ⟨.box 117 [.v (.int .i64 a), .arr .u64 8 b, .sl (.ints .u8 c), .v (.int .u64 d)], false⟩), (1, some ⟨.box 117 [.v (.int .i64 e), .arr .u64 8 f, .v (.slice none 0 0), .v (.int .u64 g)], false⟩)], 40, 41⟩
def V4 : ASt → Option X4
 | ⟨[(2, .ptr 0 0), (4, .ptr 1 0), (5, .v (.int .i64 h)), (6, .sl (.ints .u8 i))], [(0, some ⟨.box 117 [.v (.int .i64 a), .arr .u64 8 b, .sl (.ints .u8 c), .v (.int .u64 d)], false⟩), (1, some ⟨.box 117 [.v (.int .i64 e), .arr .u64 8 f, .v (.slice none 0 0), .v (.int .u64 g)], false⟩)], 40, 41⟩ => some (h, i, a, b, c, d, e, f, g)
 | _ => none
theorem atw (st) (x) (h : V4 st = some x) : st = S4 x := by
 unfold V4 at h
 split at h
 · cases h; rfl
 · cases h
abbrev Y4 := P.b93
def E4 (K : AExit → ASt → Option R) : Y4 → Option R := (fun x => K (.exit 0) (S4 x))
noncomputable def L4 : oz := fun st K => abx (V4 st) fun x => P.b4i x (E4 K)
noncomputable def D : Ctx := ({ P := Tryz.prog, G := [(44, ko.spec), (117, zq.spec), (118, ad8.spec)], globs := GLO.gx, hints := [(4, ⟨[2, 4, 5, 6], [], [4], [(6, .sl (.ints .u8 []))], some (40, [0, 1]), [], []⟩)], loops := [(4, L4)], inl := [] } : Ctx)
theorem aks (K) (next) (x) : jo D (dz Tryz.f102 4) K next (S4 x) = P.buw x (fun x => next (S4 x)) (E4 K) := by kernel_rfl
theorem aun : jl D (dz Tryz.f102 4) := gq S4 atw (by kernel_rfl) P.cb8 aks
theorem loops : d9 (Tryz.f102.body.getD .skip) = [dz Tryz.f102 4] := by kernel_rfl
noncomputable def bn : Abs.Spec := fun args K => match args with
 | [.agg [.v (.int .i64 c), .arr .u64 8 a, .sl (.ints .u8 d), .v (.int .u64 e)], .sl (.ints .u8 i)] => P.ade c a d e i (fun f b g h => K (.agg [.v (.int .i64 f), .arr .u64 8 b, .sl (.ints .u8 g), .v (.int .u64 h)]))
 | _ => none
noncomputable def spec : Abs.Spec := fun args K => bn (og [.agg [.any, .any, .sl (.ints .u8 []), .any], .sl (.ints .u8 [])] args) K
theorem ok0 : Proved Tryz.prog GLO.gx 102 bn := by
 refine dh (D := D) (fn := Tryz.f102) (c := Tryz.f102.body.getD .skip) [.agg [.any, .any, .sl (.ints .u8 []), .any]] (by kernel_rfl) (bf (by kernel_rfl)) (by kernel_rfl) (by kernel_rfl) (by kernel_rfl) ⟨ko.ok, zq.ok, ad8.ok, trivial⟩ trivial ?_ ?_
 · rw [loops]; exact ⟨aun, trivial⟩
 · intro args K r h
   unfold bn at h
   split at h
   · rw [P.ba8] at h; exact Eq.trans (by kernel_rfl) h
   · cases h
theorem ok : Proved Tryz.prog GLO.gx 102 spec := eu _ ok0
end ade

end
