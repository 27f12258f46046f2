/-
  XmssGrows, part 17: an interpreter of my own over abstract values, the pure functions, the walks and the plain law.
-/

import Derived.Test.YtjhnljhjpnjieaaGreatDoorXmssGrowsI
import Derived.Test.YtjhnljhjpnjieaaGreatDoorXmssGrowsG
import Derived.Test.YtjhnljhjpnjieaaGreatDoorProg
import Derived.Test.YtjhnljhjpnjieaaGreatDoorXmssGrowsH
import Derived.KernelRfl
import Derived.Test.YtjhnljhjpnjieaaGreatDoorXmssGrowsP

section
open Go Go.Abs Go.Proofs
set_option maxRecDepth 100000
set_option maxHeartbeats 0
set_option linter.unusedVariables false

namespace aez
noncomputable def D : Ctx := ({ P := Tryz.prog, G := [], globs := GLO.gx, hints := [], loops := [], inl := [] } : Ctx)
theorem loops : d9 (Tryz.f81.body.getD .skip) = [] := by kernel_rfl
noncomputable def bn : Abs.Spec := fun args K => match args with
 | [.sl (.ints .u8 a), .v (.int .i64 b), .v (.int .i64 c)] => P.aez a b c (fun d => K (.v (.bool d)))
 | _ => none
noncomputable def spec : Abs.Spec := fun args K => bn (oh [.sl (.ints .u8 []), .any, .any] args) K
theorem ok0 : Proved Tryz.prog GLO.gx 81 bn := by
 refine dw (D := D) (fn := Tryz.f81) (c := Tryz.f81.body.getD .skip) [.any] (by kernel_rfl) (bf (by kernel_rfl)) (by kernel_rfl) (by kernel_rfl) (by kernel_rfl) trivial trivial ?_ ?_
 · rw [loops]; exact trivial
 · intro args K r h
   unfold bn at h
   split at h
   · rw [P.awt] at h; exact Eq.trans (by kernel_rfl) h
   · cases h
theorem ok : Proved Tryz.prog GLO.gx 81 spec := eu _ ok0
end aez

namespace qj
abbrev X9 := P.bwf
def S9 : X9 → ASt := fun (b, c, d, e, f, a, g) => ⟨[(0, .sl (.ints .u8 b)), (1, .v (.int .i64 c)), (2, .v (.int .i64 d)), (7, .own 0), (8, .v (.int .i64 e)), (9, .v (.int .u32 f)), (10, .v (.int .i64 a))], [(0, some ⟨.row 64 (.ints .u32 g), false⟩)], 1, 51⟩
def V9 : ASt → Option X9
 | ⟨[(0, .sl (.ints .u8 b)), (1, .v (.int .i64 c)), (2, .v (.int .i64 d)), (7, .own 0), (8, .v (.int .i64 e)), (9, .v (.int .u32 f)), (10, .v (.int .i64 a))], [(0, some ⟨.row 64 (.ints .u32 g), false⟩)], 1, 51⟩ => some (b, c, d, e, f, a, g)
 | _ => none
theorem bq0 (st) (x) (h : V9 st = some x) : st = S9 x := by
 unfold V9 at h
 split at h
 · cases h; rfl
 · cases h
abbrev Y9 := P.b71
abbrev X5 := P.bwm
def S5 : X5 → ASt := fun (a, b, c, d, e) => ⟨[(7, .own 0), (0, .sl (.ints .u8 a)), (1, .v (.int .i64 b)), (2, .v (.int .i64 c)), (8, .v (.int .i64 d))], [(0, some ⟨.row 64 (.ints .u32 e), false⟩)], 1, 51⟩
def V5 : ASt → Option X5
 | ⟨[(7, .own 0), (0, .sl (.ints .u8 a)), (1, .v (.int .i64 b)), (2, .v (.int .i64 c)), (8, .v (.int .i64 d))], [(0, some ⟨.row 64 (.ints .u32 e), false⟩)], 1, 51⟩ => some (a, b, c, d, e)
 | _ => none
theorem atn (st) (x) (h : V5 st = some x) : st = S5 x := by
 unfold V5 at h
 split at h
 · cases h; rfl
 · cases h
abbrev Y5 := P.b2b
def E9 (K : AExit → ASt → Option R) : Y9 → Option R := (fun x => K (.exit 2) (S9 x))
noncomputable def L9 : p8 := fun st K => acg (V9 st) fun x => P.b1d x (E9 K)
def E5 (K : AExit → ASt → Option R) : Y5 → Option R := (fun x => K (.exit 0) (S5 x))
noncomputable def L5 : p8 := fun st K => acg (V5 st) fun x => P.b3k x (E5 K)
noncomputable def D : Ctx := ({ P := Tryz.prog, G := [(81, aez.spec)], globs := GLO.gx, hints := [(9, ⟨[0, 1, 2, 7, 8, 9, 10], [], [6], [], none, [], []⟩), (5, ⟨[0, 1, 2, 8], [(7, 64, .ints .u32 [])], [6], [], none, [], []⟩)], loops := [(9, L9), (5, L5)], inl := [] } : Ctx)
theorem bks (K) (next) (x) : jq D (dz Tryz.f49 9) K next (S9 x) = P.bt4 x (fun x => next (S9 x)) (E9 K) := by kernel_rfl
theorem bro : ji D (dz Tryz.f49 9) := gy S9 bq0 (by kernel_rfl) P.b9z bks
theorem akf (K) (next) (x) : jq D (dz Tryz.f49 5) K next (S5 x) = P.bwc x (fun x => next (S5 x)) (E5 K) := by kernel_rfl
theorem atq : ji D (dz Tryz.f49 5) := gy S5 atn (by kernel_rfl) P.b8y akf
theorem loops : d9 (Tryz.f49.body.getD .skip) = [dz Tryz.f49 5, dz Tryz.f49 9] := by kernel_rfl
noncomputable def bn : Abs.Spec := fun args K => match args with
 | [.sl (.ints .u8 a), .v (.int .i64 b), .v (.int .i64 c)] => P.qj a b c (fun d => K (.fr 64 (.ints .u32 d)))
 | _ => none
noncomputable def spec : Abs.Spec := fun args K => bn (oh [.sl (.ints .u8 []), .any, .any] args) K
theorem ok0 : Proved Tryz.prog GLO.gx 49 bn := by
 refine dw (D := D) (fn := Tryz.f49) (c := Tryz.f49.body.getD .skip) [.fr 64 (.ints .u32 [])] (by kernel_rfl) (bf (by kernel_rfl)) (by kernel_rfl) (by kernel_rfl) (by kernel_rfl) ⟨aez.ok, trivial⟩ trivial ?_ ?_
 · rw [loops]; exact ⟨atq, bro, trivial⟩
 · intro args K r h
   unfold bn at h
   split at h
   · rw [P.ase] at h; exact Eq.trans (by kernel_rfl) h
   · cases h
theorem ok : Proved Tryz.prog GLO.gx 49 spec := eu _ ok0
end qj

namespace xk
abbrev X6 := P.bw3
def S6 : X6 → ASt := fun (a, b, c) => ⟨[(5, .own 0), (6, .v (.int .u64 a)), (7, .v (.int .i64 b))], [(0, some ⟨.row 64 (.ints .u32 c), false⟩)], 1, 48⟩
def V6 : ASt → Option X6
 | ⟨[(5, .own 0), (6, .v (.int .u64 a)), (7, .v (.int .i64 b))], [(0, some ⟨.row 64 (.ints .u32 c), false⟩)], 1, 48⟩ => some (a, b, c)
 | _ => none
theorem ah4 (st) (x) (h : V6 st = some x) : st = S6 x := by
 unfold V6 at h
 split at h
 · cases h; rfl
 · cases h
abbrev Y6 := P.b3t
def E6 (K : AExit → ASt → Option R) : Y6 → Option R := (fun x => K (.exit 0) (S6 x))
noncomputable def L6 : p8 := fun st K => acg (V6 st) fun x => P.b6c x (E6 K)
noncomputable def D : Ctx := ({ P := Tryz.prog, G := [(49, qj.spec), (104, wo.spec)], globs := GLO.gx, hints := [(6, ⟨[5, 6, 7], [], [4], [], none, [], []⟩)], loops := [(6, L6)], inl := [] } : Ctx)
theorem ac4 (K) (next) (x) : jq D (dz Tryz.f91 6) K next (S6 x) = P.bv8 x (fun x => next (S6 x)) (E6 K) := by kernel_rfl
theorem aiw : ji D (dz Tryz.f91 6) := gy S6 ah4 (by kernel_rfl) P.b9y ac4
theorem loops : d9 (Tryz.f91.body.getD .skip) = [dz Tryz.f91 6] := by kernel_rfl
noncomputable def bn : Abs.Spec := fun args K => match args with
 | [.v (.int .i64 a), .sl (.ints .u8 b)] => P.xk a b (fun c => K (.fr 64 (.ints .u32 c)))
 | _ => none
noncomputable def spec : Abs.Spec := fun args K => bn (oh [.any, .sl (.ints .u8 [])] args) K
theorem ok0 : Proved Tryz.prog GLO.gx 91 bn := by
 refine dw (D := D) (fn := Tryz.f91) (c := Tryz.f91.body.getD .skip) [.fr 64 (.ints .u32 [])] (by kernel_rfl) (bf (by kernel_rfl)) (by kernel_rfl) (by kernel_rfl) (by kernel_rfl) ⟨qj.ok, wo.ok, trivial⟩ trivial ?_ ?_
 · rw [loops]; exact ⟨aiw, trivial⟩
 · intro args K r h
   unfold bn at h
   split at h
   · rw [P.aqw] at h; exact Eq.trans (by kernel_rfl) h
   · cases h
theorem ok : Proved Tryz.prog GLO.gx 91 spec := eu _ ok0
end xk

namespace aap
abbrev X2 := P.bun
def S2 : X2 → ASt := fun (c, d, e, a, b) => ⟨[(1, .v (.int .i64 c)), (2, .sl (.ints .u8 d)), (3, .ptr 0 0), (6, .ptr 1 0), (7, .v (.int .i64 e))], [(0, some ⟨.box 25 [.arr .u8 32 a], false⟩), (1, some ⟨.box 25 [.arr .u8 32 b], false⟩)], 2, 23⟩
def V2 : ASt → Option X2
 | ⟨[(1, .v (.int .i64 c)), (2, .sl (.ints .u8 d)), (3, .ptr 0 0), (6, .ptr 1 0), (7, .v (.int .i64 e))], [(0, some ⟨.box 25 [.arr .u8 32 a], false⟩), (1, some ⟨.box 25 [.arr .u8 32 b], false⟩)], 2, 23⟩ => some (c, d, e, a, b)
 | _ => none
theorem axu (st) (x) (h : V2 st = some x) : st = S2 x := by
 unfold V2 at h
 split at h
 · cases h; rfl
 · cases h
abbrev Y2 := P.b62
def E2 (K : AExit → ASt → Option R) : Y2 → Option R := (fun x => K (.exit 0) (S2 x))
noncomputable def L2 : p8 := fun st K => acg (V2 st) fun x => P.b2d x (E2 K)
noncomputable def D : Ctx := ({ P := Tryz.prog, G := [], globs := GLO.gx, hints := [(2, ⟨[1, 2, 3, 6, 7], [], [6], [], none, [], []⟩)], loops := [(2, L2)], inl := [] } : Ctx)
theorem ame (K) (next) (x) : jq D (dz Tryz.f103 2) K next (S2 x) = P.bte x (fun x => next (S2 x)) (E2 K) := by kernel_rfl
theorem avz : ji D (dz Tryz.f103 2) := gy S2 axu (by kernel_rfl) P.b8l ame
theorem loops : d9 (Tryz.f103.body.getD .skip) = [dz Tryz.f103 2] := by kernel_rfl
noncomputable def bn : Abs.Spec := fun args K => match args with
 | [.arr .u8 32 a, .v (.int .i64 b), .sl (.ints .u8 c)] => P.aap a b c (fun d => K (.arr .u8 32 d))
 | _ => none
noncomputable def spec : Abs.Spec := fun args K => bn (oh [.any, .any, .sl (.ints .u8 [])] args) K
theorem ok0 : Proved Tryz.prog GLO.gx 103 bn := by
 refine dw (D := D) (fn := Tryz.f103) (c := Tryz.f103.body.getD .skip) [.any] (by kernel_rfl) (bf (by kernel_rfl)) (by kernel_rfl) (by kernel_rfl) (by kernel_rfl) trivial trivial ?_ ?_
 · rw [loops]; exact ⟨avz, trivial⟩
 · intro args K r h
   unfold bn at h
   split at h
   · rw [P.bak] at h; exact Eq.trans (by kernel_rfl) h
   · cases h
theorem ok : Proved Tryz.prog GLO.gx 103 spec := eu _ ok0
end aap

namespace jm
noncomputable def D : Ctx := ({ P := Tryz.prog, G := [(103, aap.spec), (104, wo.spec)], globs := GLO.gx, hints := [], loops := [], inl := [] } : Ctx)
theorem loops : d9 (Tryz.f72.body.getD .skip) = [] := by kernel_rfl
noncomputable def bn : Abs.Spec := fun args K => match args with
 | [.arr .u8 32 a, .v (.int .i64 b), .v (.int .u64 c)] => P.jm a b c (fun d => K (.arr .u8 32 d))
 | _ => none
noncomputable def spec : Abs.Spec := bn
theorem ok0 : Proved Tryz.prog GLO.gx 72 bn := by
 refine dw (D := D) (fn := Tryz.f72) (c := Tryz.f72.body.getD .skip) [.any] (by kernel_rfl) (bf (by kernel_rfl)) (by kernel_rfl) (by kernel_rfl) (by kernel_rfl) ⟨aap.ok, wo.ok, trivial⟩ trivial ?_ ?_
 · rw [loops]; exact trivial
 · intro args K r h
   unfold bn at h
   split at h
   · rw [P.az9] at h; exact Eq.trans (by kernel_rfl) h
   · cases h
theorem ok : Proved Tryz.prog GLO.gx 72 spec := ok0
end jm

namespace l5
abbrev X3 := P.bxl
def S3 : X3 → ASt := fun (a, b, c) => ⟨[(3, .own 0), (0, .sl (.rows .u8 a)), (4, .v (.int .i64 b))], [(0, some ⟨.row 5 (.ints .u8 c), false⟩)], 1, 18⟩
def V3 : ASt → Option X3
 | ⟨[(3, .own 0), (0, .sl (.rows .u8 a)), (4, .v (.int .i64 b))], [(0, some ⟨.row 5 (.ints .u8 c), false⟩)], 1, 18⟩ => some (a, b, c)
 | _ => none
theorem apg (st) (x) (h : V3 st = some x) : st = S3 x := by
 unfold V3 at h
 split at h
 · cases h; rfl
 · cases h
abbrev Y3 := P.b78
def E3 (K : AExit → ASt → Option R) : Y3 → Option R := (fun x => K (.exit 0) (S3 x))
noncomputable def L3 : p8 := fun st K => acg (V3 st) fun x => P.b31 x (E3 K)
noncomputable def D : Ctx := ({ P := Tryz.prog, G := [], globs := GLO.gx, hints := [(3, ⟨[0, 4], [(3, 5, .ints .u8 [])], [2], [], none, [], []⟩)], loops := [(3, L3)], inl := [] } : Ctx)
theorem aii (K) (next) (x) : jq D (dz Tryz.f44 3) K next (S3 x) = P.bul x (fun x => next (S3 x)) (E3 K) := by kernel_rfl
theorem ap4 : ji D (dz Tryz.f44 3) := gy S3 apg (by kernel_rfl) P.b94 aii
theorem loops : d9 (Tryz.f44.body.getD .skip) = [dz Tryz.f44 3] := by kernel_rfl
noncomputable def bn : Abs.Spec := fun args K => match args with
 | [.sl (.rows .u8 a)] => P.l5 a (fun b => K (.fr 5 (.ints .u8 b)))
 | _ => none
noncomputable def spec : Abs.Spec := fun args K => bn (oh [.sl (.rows .u8 [])] args) K
theorem ok0 : Proved Tryz.prog GLO.gx 44 bn := by
 refine dw (D := D) (fn := Tryz.f44) (c := Tryz.f44.body.getD .skip) [.fr 5 (.ints .u8 [])] (by kernel_rfl) (bf (by kernel_rfl)) (by kernel_rfl) (by kernel_rfl) (by kernel_rfl) trivial trivial ?_ ?_
 · rw [loops]; exact ⟨ap4, trivial⟩
 · intro args K r h
   unfold bn at h
   split at h
   · rw [P.av6] at h; exact Eq.trans (by kernel_rfl) h
   · cases h
theorem ok : Proved Tryz.prog GLO.gx 44 spec := eu _ ok0
end l5

namespace zw
noncomputable def D : Ctx := ({ P := Tryz.prog, G := [], globs := GLO.gx, hints := [], loops := [], inl := [] } : Ctx)
theorem loops : d9 (Tryz.f117.body.getD .skip) = [] := by kernel_rfl
noncomputable def bn : Abs.Spec := fun args K => match args with
 | [.v (.int .i64 a)] => P.zw a (fun b => K (.v (.int .i64 b)))
 | _ => none
noncomputable def spec : Abs.Spec := bn
theorem ok0 : Proved Tryz.prog GLO.gx 117 bn := by
 refine dw (D := D) (fn := Tryz.f117) (c := Tryz.f117.body.getD .skip) [.any] (by kernel_rfl) (bf (by kernel_rfl)) (by kernel_rfl) (by kernel_rfl) (by kernel_rfl) trivial trivial ?_ ?_
 · rw [loops]; exact trivial
 · intro args K r h
   unfold bn at h
   split at h
   · rw [P.auz] at h; exact Eq.trans (by kernel_rfl) h
   · cases h
theorem ok : Proved Tryz.prog GLO.gx 117 spec := ok0
end zw

namespace zu
noncomputable def D : Ctx := ({ P := Tryz.prog, G := [], globs := GLO.gx, hints := [], loops := [], inl := [] } : Ctx)
theorem loops : d9 (Tryz.f150.body.getD .skip) = [] := by kernel_rfl
noncomputable def bn : Abs.Spec := fun args K => match args with
 | [.v (.int .u64 a), .v (.int .i64 b), .v (.bool c)] => P.zu a b c (fun d => K (.v (.int .u64 d)))
 | _ => none
noncomputable def spec : Abs.Spec := bn
theorem ok0 : Proved Tryz.prog GLO.gx 150 bn := by
 refine dw (D := D) (fn := Tryz.f150) (c := Tryz.f150.body.getD .skip) [.any] (by kernel_rfl) (bf (by kernel_rfl)) (by kernel_rfl) (by kernel_rfl) (by kernel_rfl) trivial trivial ?_ ?_
 · rw [loops]; exact trivial
 · intro args K r h
   unfold bn at h
   split at h
   · rw [P.ai2] at h; exact Eq.trans (by kernel_rfl) h
   · cases h
theorem ok : Proved Tryz.prog GLO.gx 150 spec := ok0
end zu

namespace zo
noncomputable def D : Ctx := ({ P := Tryz.prog, G := [(150, zu.spec)], globs := GLO.gx, hints := [], loops := [], inl := [] } : Ctx)
theorem loops : d9 (Tryz.f137.body.getD .skip) = [] := by kernel_rfl
noncomputable def bn : Abs.Spec := fun args K => match args with
 | [.v (.int .u64 a), .v (.int .i64 b), .v (.int .i64 c), .v (.int .i64 d), .v (.bool e), .v (.bool f)] => P.zo a b c d e f (fun g => K (.v (.int .u64 g)))
 | _ => none
noncomputable def spec : Abs.Spec := bn
theorem ok0 : Proved Tryz.prog GLO.gx 137 bn := by
 refine dw (D := D) (fn := Tryz.f137) (c := Tryz.f137.body.getD .skip) [.any] (by kernel_rfl) (bf (by kernel_rfl)) (by kernel_rfl) (by kernel_rfl) (by kernel_rfl) ⟨zu.ok, trivial⟩ trivial ?_ ?_
 · rw [loops]; exact trivial
 · intro args K r h
   unfold bn at h
   split at h
   · rw [P.afr] at h; exact Eq.trans (by kernel_rfl) h
   · cases h
theorem ok : Proved Tryz.prog GLO.gx 137 spec := ok0
end zo

namespace zf
noncomputable def D : Ctx := ({ P := Tryz.prog, G := [], globs := GLO.gx, hints := [], loops := [], inl := [] } : Ctx)
theorem loops : d9 (Tryz.f134.body.getD .skip) = [] := by kernel_rfl
noncomputable def bn : Abs.Spec := fun args K => match args with
 | [] => P.zf (fun a => K (.arr .u64 64 a))
 | _ => none
noncomputable def spec : Abs.Spec := bn
theorem ok0 : Proved Tryz.prog GLO.gx 134 bn := by
 refine dw (D := D) (fn := Tryz.f134) (c := Tryz.f134.body.getD .skip) [.any] (by kernel_rfl) (bf (by kernel_rfl)) (by kernel_rfl) (by kernel_rfl) (by kernel_rfl) trivial trivial ?_ ?_
 · rw [loops]; exact trivial
 · intro args K r h
   unfold bn at h
   split at h
   · rw [P.aia] at h; exact Eq.trans (by kernel_rfl) h
   · cases h
theorem ok : Proved Tryz.prog GLO.gx 134 spec := ok0
end zf

namespace zi
noncomputable def D : Ctx := ({ P := Tryz.prog, G := [], globs := GLO.gx, hints := [], loops := [], inl := [] } : Ctx)
theorem loops : d9 (Tryz.f135.body.getD .skip) = [] := by kernel_rfl
noncomputable def bn : Abs.Spec := fun args K => match args with
 | [] => P.zi (fun a => K (.arr .u64 80 a))
 | _ => none
noncomputable def spec : Abs.Spec := bn
theorem ok0 : Proved Tryz.prog GLO.gx 135 bn := by
 refine dw (D := D) (fn := Tryz.f135) (c := Tryz.f135.body.getD .skip) [.any] (by kernel_rfl) (bf (by kernel_rfl)) (by kernel_rfl) (by kernel_rfl) (by kernel_rfl) trivial trivial ?_ ?_
 · rw [loops]; exact trivial
 · intro args K r h
   unfold bn at h
   split at h
   · rw [P.aiv] at h; exact Eq.trans (by kernel_rfl) h
   · cases h
theorem ok : Proved Tryz.prog GLO.gx 135 spec := ok0
end zi

namespace ad2
abbrev X3 := P.bv6
def S3 : X3 → ASt := fun (a, b, c) => ⟨[(0, .sl (.ints .u8 a)), (3, .v (.int .u64 b)), (4, .v (.int .i64 c))], [], 0, 20⟩
def V3 : ASt → Option X3
 | ⟨[(0, .sl (.ints .u8 a)), (3, .v (.int .u64 b)), (4, .v (.int .i64 c))], [], 0, 20⟩ => some (a, b, c)
 | _ => none
theorem apg (st) (x) (h : V3 st = some x) : st = S3 x := by
 unfold V3 at h
 split at h
 · cases h; rfl
 · cases h
abbrev Y3 := P.b1y
def E3 (K : AExit → ASt → Option R) : Y3 → Option R := (fun x => K (.exit 0) (S3 x))
noncomputable def L3 : p8 := fun st K => acg (V3 st) fun x => P.b5w x (E3 K)
noncomputable def D : Ctx := ({ P := Tryz.prog, G := [], globs := GLO.gx, hints := [(3, ⟨[0, 3, 4], [], [2], [], none, [], []⟩)], loops := [(3, L3)], inl := [] } : Ctx)
theorem aii (K) (next) (x) : jq D (dz Tryz.f105 3) K next (S3 x) = P.bw0 x (fun x => next (S3 x)) (E3 K) := by kernel_rfl
theorem ap4 : ji D (dz Tryz.f105 3) := gy S3 apg (by kernel_rfl) P.b8r aii
theorem loops : d9 (Tryz.f105.body.getD .skip) = [dz Tryz.f105 3] := by kernel_rfl
noncomputable def bn : Abs.Spec := fun args K => match args with
 | [.sl (.ints .u8 a)] => P.ad2 a (fun b => K (.v (.int .u64 b)))
 | _ => none
noncomputable def spec : Abs.Spec := fun args K => bn (oh [.sl (.ints .u8 [])] args) K
theorem ok0 : Proved Tryz.prog GLO.gx 105 bn := by
 refine dw (D := D) (fn := Tryz.f105) (c := Tryz.f105.body.getD .skip) [.any] (by kernel_rfl) (bf (by kernel_rfl)) (by kernel_rfl) (by kernel_rfl) (by kernel_rfl) trivial trivial ?_ ?_
 · rw [loops]; exact ⟨ap4, trivial⟩
 · intro args K r h
   unfold bn at h
   split at h
   · rw [P.ay6] at h; exact Eq.trans (by kernel_rfl) h
   · cases h
theorem ok : Proved Tryz.prog GLO.gx 105 spec := eu _ ok0
end ad2

namespace acv
abbrev X6 := P.bs6
def S6 : X6 → ASt := fun (b, c, d, e, f, a, g) => ⟨[(10, .own 0), (0, .sl (.ints .u8 b)), (1, .v (.bool c)), (2, .v (.int .i64 d)), (3, .v (.int .u64 e)), (9, .v (.int .i64 f)), (11, .v (.int .i64 a))], [(0, some ⟨.row 27 (.ints .u64 g), false⟩)], 1, 82⟩
def V6 : ASt → Option X6
 | ⟨[(10, .own 0), (0, .sl (.ints .u8 b)), (1, .v (.bool c)), (2, .v (.int .i64 d)), (3, .v (.int .u64 e)), (9, .v (.int .i64 f)), (11, .v (.int .i64 a))], [(0, some ⟨.row 27 (.ints .u64 g), false⟩)], 1, 82⟩ => some (b, c, d, e, f, a, g)
 | _ => none
theorem ah4 (st) (x) (h : V6 st = some x) : st = S6 x := by
 unfold V6 at h
 split at h
 · cases h; rfl
 · cases h
abbrev Y6 := P.b1o
def E6 (K : AExit → ASt → Option R) : Y6 → Option R := (fun x => K (.exit 0) (S6 x))
noncomputable def L6 : p8 := fun st K => acg (V6 st) fun x => P.b3v x (E6 K)
noncomputable def D : Ctx := ({ P := Tryz.prog, G := [(105, ad2.spec), (137, zo.spec)], globs := GLO.gx, hints := [(6, ⟨[0, 1, 2, 3, 9, 11], [(10, 27, .ints .u64 [])], [8], [], none, [], []⟩)], loops := [(6, L6)], inl := [] } : Ctx)
theorem ac4 (K) (next) (x) : jq D (dz Tryz.f136 6) K next (S6 x) = P.bsf x (fun x => next (S6 x)) (E6 K) := by kernel_rfl
theorem aiw : ji D (dz Tryz.f136 6) := gy S6 ah4 (by kernel_rfl) P.b83 ac4
theorem loops : d9 (Tryz.f136.body.getD .skip) = [dz Tryz.f136 6] := by kernel_rfl
noncomputable def bn : Abs.Spec := fun args K => match args with
 | [.sl (.ints .u8 a), .v (.bool b), .v (.int .i64 c), .v (.int .u64 d)] => P.acv a b c d (fun e => K (.fr 27 (.ints .u64 e)))
 | _ => none
noncomputable def spec : Abs.Spec := fun args K => bn (oh [.sl (.ints .u8 []), .any, .any, .any] args) K
theorem ok0 : Proved Tryz.prog GLO.gx 136 bn := by
 refine dw (D := D) (fn := Tryz.f136) (c := Tryz.f136.body.getD .skip) [.fr 27 (.ints .u64 [])] (by kernel_rfl) (bf (by kernel_rfl)) (by kernel_rfl) (by kernel_rfl) (by kernel_rfl) ⟨ad2.ok, zo.ok, trivial⟩ trivial ?_ ?_
 · rw [loops]; exact ⟨aiw, trivial⟩
 · intro args K r h
   unfold bn at h
   split at h
   · rw [P.ana] at h; exact Eq.trans (by kernel_rfl) h
   · cases h
theorem ok : Proved Tryz.prog GLO.gx 136 spec := eu _ ok0
end acv

namespace ad4
abbrev X11 := P.bu3
def S11 : X11 → ASt := fun (g, h, i, f, a, b, c, d, j, e) => ⟨[(2, .v (.bool g)), (3, .ptr 0 0), (6, .ptr 1 0), (7, .v (.int .i64 h)), (8, .v (.int .u64 i)), (9, .ptr 2 0), (10, .ptr 3 0), (11, .own 4), (12, .ptr 5 0), (13, .v (.int .i64 f))], [(0, some ⟨.box 115 [.arr .u64 8 a], false⟩), (1, some ⟨.box 115 [.arr .u64 8 b], false⟩), (2, some ⟨.box 140 [.arr .u64 64 c], false⟩), (3, some ⟨.box 142 [.arr .u64 80 d], false⟩), (4, some ⟨.row 27 (.ints .u64 j), false⟩), (5, some ⟨.box 115 [.arr .u64 8 e], false⟩)], 6, 137⟩
def V11 : ASt → Option X11
 | ⟨[(2, .v (.bool g)), (3, .ptr 0 0), (6, .ptr 1 0), (7, .v (.int .i64 h)), (8, .v (.int .u64 i)), (9, .ptr 2 0), (10, .ptr 3 0), (11, .own 4), (12, .ptr 5 0), (13, .v (.int .i64 f))], [(0, some ⟨.box 115 [.arr .u64 8 a], false⟩), (1, some ⟨.box 115 [.arr .u64 8 b], false⟩), (2, some ⟨.box 140 [.arr .u64 64 c], false⟩), (3, some ⟨.box 142 [.arr .u64 80 d], false⟩), (4, some ⟨.row 27 (.ints .u64 j), false⟩), (5, some ⟨.box 115 [.arr .u64 8 e], false⟩)], 6, 137⟩ => some (g, h, i, f, a, b, c, d, j, e)
 | _ => none
theorem bkv (st) (x) (h : V11 st = some x) : st = S11 x := by
 unfold V11 at h
 split at h
 · cases h; rfl
 · cases h
abbrev Y11 := P.b1a
abbrev X25 := P.bw8
def S25 : X25 → ASt := fun (e, d, a, b, c) => ⟨[(3, .ptr 0 0), (6, .ptr 1 0), (8, .v (.int .u64 e)), (12, .ptr 5 0), (19, .v (.int .i64 d))], [(0, some ⟨.box 115 [.arr .u64 8 a], false⟩), (1, some ⟨.box 115 [.arr .u64 8 b], false⟩), (5, some ⟨.box 115 [.arr .u64 8 c], false⟩)], 80, 137⟩
def V25 : ASt → Option X25
 | ⟨[(3, .ptr 0 0), (6, .ptr 1 0), (8, .v (.int .u64 e)), (12, .ptr 5 0), (19, .v (.int .i64 d))], [(0, some ⟨.box 115 [.arr .u64 8 a], false⟩), (1, some ⟨.box 115 [.arr .u64 8 b], false⟩), (5, some ⟨.box 115 [.arr .u64 8 c], false⟩)], 80, 137⟩ => some (e, d, a, b, c)
 | _ => none
theorem byi (st) (x) (h : V25 st = some x) : st = S25 x := by
 unfold V25 at h
 split at h
 · cases h; rfl
 · cases h
abbrev Y25 := P.b5x
def E11 (K : AExit → ASt → Option R) : Y11 → Option R := (fun x => K (.exit 0) (S11 x))
noncomputable def L11 : p8 := fun st K => acg (V11 st) fun x => P.b61 x (E11 K)
def E25 (K : AExit → ASt → Option R) : Y25 → Option R := (fun x => K (.exit 2) (S25 x))
noncomputable def L25 : p8 := fun st K => acg (V25 st) fun x => P.b8b x (E25 K)
noncomputable def D : Ctx := ({ P := Tryz.prog, G := [(134, zf.spec), (135, zi.spec), (136, acv.spec), (137, zo.spec)], globs := GLO.gx, hints := [(25, ⟨[3, 6, 8, 12, 19], [], [6], [], some (80, [0, 1, 5]), [], []⟩), (11, ⟨[2, 3, 6, 7, 8, 9, 10, 11, 12, 13], [], [6], [], none, [], []⟩)], loops := [(11, L11), (25, L25)], inl := [] } : Ctx)
theorem bgr (K) (next) (x) : jq D (dz Tryz.f118 11) K next (S11 x) = P.bsg x (fun x => next (S11 x)) (E11 K) := by kernel_rfl
theorem bmj : ji D (dz Tryz.f118 11) := gy S11 bkv (by kernel_rfl) P.b85 bgr
theorem bqn (K) (next) (x) : jq D (dz Tryz.f118 25) K next (S25 x) = P.bsv x (fun x => next (S25 x)) (E25 K) := by kernel_rfl
theorem bvl : ji D (dz Tryz.f118 25) := gy S25 byi (by kernel_rfl) P.b8t bqn
theorem loops : d9 (Tryz.f118.body.getD .skip) = [dz Tryz.f118 11, dz Tryz.f118 25] := by kernel_rfl
noncomputable def bn : Abs.Spec := fun args K => match args with
 | [.arr .u64 8 a, .sl (.ints .u8 b), .v (.bool c)] => P.ad4 a b c (fun d => K (.arr .u64 8 d))
 | _ => none
noncomputable def spec : Abs.Spec := fun args K => bn (oh [.any, .sl (.ints .u8 []), .any] args) K
theorem ok0 : Proved Tryz.prog GLO.gx 118 bn := by
 refine dw (D := D) (fn := Tryz.f118) (c := Tryz.f118.body.getD .skip) [.any] (by kernel_rfl) (bf (by kernel_rfl)) (by kernel_rfl) (by kernel_rfl) (by kernel_rfl) ⟨zf.ok, zi.ok, acv.ok, zo.ok, trivial⟩ trivial ?_ ?_
 · rw [loops]; exact ⟨bmj, bvl, trivial⟩
 · intro args K r h
   unfold bn at h
   split at h
   · rw [P.ant] at h; exact Eq.trans (by kernel_rfl) h
   · cases h
theorem ok : Proved Tryz.prog GLO.gx 118 spec := eu _ ok0
end ad4

namespace acp
abbrev X4 := P.bw7
def S4 : X4 → ASt := fun (h, i, a, b, c, d, e, f, g) => ⟨[(2, .ptr 0 0), (4, .ptr 1 0), (5, .v (.int .i64 h)), (6, .sl (.ints .u8 i))], [(0, some ⟨.box 117 [.v (.int .i64 a), .arr .u64 8 b, .sl (.ints .u8 c), .v (.int .u64 d)], false⟩), (1, some ⟨.box 117 [.v (.int .i64 e), .arr .u64 8 f, .v (.slice none 0 0), .v (.int .u64 g)], false⟩)], 40, 41⟩
def V4 : ASt → Option X4
 | ⟨[(2, .ptr 0 0), (4, .ptr 1 0), (5, .v (.int .i64 h)), (6, .sl (.ints .u8 i))], [(0, some ⟨.box 117 [.v (.int .i64 a), .arr .u64 8 b, .sl (.ints .u8 c), .v (.int .u64 d)], false⟩), (1, some ⟨.box 117 [.v (.int .i64 e), .arr .u64 8 f, .v (.slice none 0 0), .v (.int .u64 g)], false⟩)], 40, 41⟩ => some (h, i, a, b, c, d, e, f, g)
 | _ => none
theorem asv (st) (x) (h : V4 st = some x) : st = S4 x := by
 unfold V4 at h
 split at h
 · cases h; rfl
 · cases h
abbrev Y4 := P.b1u
def E4 (K : AExit → ASt → Option R) : Y4 → Option R := (fun x => K (.exit 0) (S4 x))
noncomputable def L4 : p8 := fun st K => acg (V4 st) fun x => P.b7w x (E4 K)
noncomputable def D : Ctx := ({ P := Tryz.prog, G := [(44, l5.spec), (117, zw.spec), (118, ad4.spec)], globs := GLO.gx, hints := [(4, ⟨[2, 4, 5, 6], [], [4], [(6, .sl (.ints .u8 []))], some (40, [0, 1]), [], []⟩)], loops := [(4, L4)], inl := [] } : Ctx)
theorem ake (K) (next) (x) : jq D (dz Tryz.f102 4) K next (S4 x) = P.bst x (fun x => next (S4 x)) (E4 K) := by kernel_rfl
theorem asx : ji D (dz Tryz.f102 4) := gy S4 asv (by kernel_rfl) P.cag ake
theorem loops : d9 (Tryz.f102.body.getD .skip) = [dz Tryz.f102 4] := by kernel_rfl
noncomputable def bn : Abs.Spec := fun args K => match args with
 | [.agg [.v (.int .i64 c), .arr .u64 8 a, .sl (.ints .u8 d), .v (.int .u64 e)], .sl (.ints .u8 i)] => P.acp c a d e i (fun f b g h => K (.agg [.v (.int .i64 f), .arr .u64 8 b, .sl (.ints .u8 g), .v (.int .u64 h)]))
 | _ => none
noncomputable def spec : Abs.Spec := fun args K => bn (oh [.agg [.any, .any, .sl (.ints .u8 []), .any], .sl (.ints .u8 [])] args) K
theorem ok0 : Proved Tryz.prog GLO.gx 102 bn := by
 refine dw (D := D) (fn := Tryz.f102) (c := Tryz.f102.body.getD .skip) [.agg [.any, .any, .sl (.ints .u8 []), .any]] (by kernel_rfl) (bf (by kernel_rfl)) (by kernel_rfl) (by kernel_rfl) (by kernel_rfl) ⟨l5.ok, zw.ok, ad4.ok, trivial⟩ trivial ?_ ?_
 · rw [loops]; exact ⟨asx, trivial⟩
 · intro args K r h
   unfold bn at h
   split at h
   · rw [P.azs] at h; exact Eq.trans (by kernel_rfl) h
   · cases h
theorem ok : Proved Tryz.prog GLO.gx 102 spec := eu _ ok0
end acp

end
