/-
  XmssGrows, part 18: an interpreter of my own over abstract values, the pure functions, the walks and the plain law.
-/

import Derived.Test.YtjhnljhjpnjieaaGreatDoorXmssGrowsI
import Derived.Test.YtjhnljhjpnjieaaGreatDoorXmssGrowsG
import Derived.Test.YtjhnljhjpnjieaaGreatDoorXmssGrowsL
import Derived.Test.YtjhnljhjpnjieaaGreatDoorProg
import Derived.Test.YtjhnljhjpnjieaaGreatDoorXmssGrowsH
import Derived.Test.YtjhnljhjpnjieaaGreatDoorXmssGrowsP
import Derived.Test.YtjhnljhjpnjieaaGreatDoorXmssGrowsQ
import Derived.KernelRfl

section
open Go Go.Abs Go.Proofs
set_option maxRecDepth 100000
set_option maxHeartbeats 0
set_option linter.unusedVariables false

namespace ah1
abbrev X4 := P.bt3
def S4 : X4 → ASt := fun (f, g, e, a, b, c, d) => ⟨[(5, .own 40), (1, .ptr 0 0), (3, .v (.int .i64 f)), (4, .v (.int .u64 g))], [(40, some ⟨.row 5 (.ints .u8 e), false⟩), (0, some ⟨.box 117 [.v (.int .i64 a), .arr .u64 8 b, .sl (.ints .u8 c), .v (.int .u64 d)], false⟩)], 41, 77⟩
def V4 : ASt → Option X4
 | ⟨[(5, .own 40), (1, .ptr 0 0), (3, .v (.int .i64 f)), (4, .v (.int .u64 g))], [(40, some ⟨.row 5 (.ints .u8 e), false⟩), (0, some ⟨.box 117 [.v (.int .i64 a), .arr .u64 8 b, .sl (.ints .u8 c), .v (.int .u64 d)], false⟩)], 41, 77⟩ => some (f, g, e, a, b, c, d)
 | _ => none
theorem asv (st) (x) (h : V4 st = some x) : st = S4 x := by
 unfold V4 at h
 split at h
 · cases h; rfl
 · cases h
abbrev Y4 := P.b72
abbrev X8 := P.byc
def S8 : X8 → ASt := fun (f, g, e, a, b, c, d) => ⟨[(5, .own 80), (1, .ptr 0 0), (3, .v (.int .i64 f)), (4, .v (.int .u64 g))], [(80, some ⟨.row 5 (.ints .u8 e), false⟩), (0, some ⟨.box 117 [.v (.int .i64 a), .arr .u64 8 b, .sl (.ints .u8 c), .v (.int .u64 d)], false⟩)], 81, 77⟩
def V8 : ASt → Option X8
 | ⟨[(5, .own 80), (1, .ptr 0 0), (3, .v (.int .i64 f)), (4, .v (.int .u64 g))], [(80, some ⟨.row 5 (.ints .u8 e), false⟩), (0, some ⟨.box 117 [.v (.int .i64 a), .arr .u64 8 b, .sl (.ints .u8 c), .v (.int .u64 d)], false⟩)], 81, 77⟩ => some (f, g, e, a, b, c, d)
 | _ => none
theorem bgj (st) (x) (h : V8 st = some x) : st = S8 x := by
 unfold V8 at h
 split at h
 · cases h; rfl
 · cases h
abbrev Y8 := P.b2r
abbrev X14 := P.bwh
def S14 : X14 → ASt := fun (f, g, a, b, c, d, e) => ⟨[(6, .own 120), (1, .ptr 0 0), (3, .v (.int .i64 f)), (7, .v (.int .i64 g))], [(120, some ⟨.row 5 (.ints .u8 a), false⟩), (0, some ⟨.box 117 [.v (.int .i64 b), .arr .u64 8 c, .sl (.ints .u8 d), .v (.int .u64 e)], false⟩)], 121, 77⟩
def V14 : ASt → Option X14
 | ⟨[(6, .own 120), (1, .ptr 0 0), (3, .v (.int .i64 f)), (7, .v (.int .i64 g))], [(120, some ⟨.row 5 (.ints .u8 a), false⟩), (0, some ⟨.box 117 [.v (.int .i64 b), .arr .u64 8 c, .sl (.ints .u8 d), .v (.int .u64 e)], false⟩)], 121, 77⟩ => some (f, g, a, b, c, d, e)
 | _ => none
theorem bs4 (st) (x) (h : V14 st = some x) : st = S14 x := by
 unfold V14 at h
 split at h
 · cases h; rfl
 · cases h
abbrev Y14 := P.b6l
def E4 (K : AExit → ASt → Option R) : Y4 → Option R := (fun x => K (.exit 0) (S4 x))
noncomputable def L4 : p8 := fun st K => acg (V4 st) fun x => P.b2f x (E4 K)
def E8 (K : AExit → ASt → Option R) : Y8 → Option R := (fun x => K (.exit 2) (S8 x))
noncomputable def L8 : p8 := fun st K => acg (V8 st) fun x => P.b7t x (E8 K)
def E14 (K : AExit → ASt → Option R) : Y14 → Option R := (fun x => K (.exit 4) (S14 x))
noncomputable def L14 : p8 := fun st K => acg (V14 st) fun x => P.b0z x (E14 K)
noncomputable def D : Ctx := ({ P := Tryz.prog, G := [(102, acp.spec), (104, wo.spec), (117, zw.spec)], globs := GLO.gx, hints := [(14, ⟨[1, 3, 7], [(6, 5, .ints .u8 [])], [2], [], some (120, [0]), [0], []⟩), (8, ⟨[1, 3, 4], [(5, 5, .ints .u8 [])], [2], [], some (80, [0]), [0], []⟩), (4, ⟨[1, 3, 4], [(5, 5, .ints .u8 [])], [2], [], some (40, [0]), [0], []⟩)], loops := [(4, L4), (8, L8), (14, L14)], inl := [] } : Ctx)
theorem ake (K) (next) (x) : jq D (dz Tryz.f101 4) K next (S4 x) = P.bvw x (fun x => next (S4 x)) (E4 K) := by kernel_rfl
theorem asx : ji D (dz Tryz.f101 4) := gy S4 asv (by kernel_rfl) P.b9p ake
theorem aw4 (K) (next) (x) : jq D (dz Tryz.f101 8) K next (S8 x) = P.bw9 x (fun x => next (S8 x)) (E8 K) := by kernel_rfl
theorem bgb : ji D (dz Tryz.f101 8) := gy S8 bgj (by kernel_rfl) P.b91 aw4
theorem brv (K) (next) (x) : jq D (dz Tryz.f101 14) K next (S14 x) = P.btc x (fun x => next (S14 x)) (E14 K) := by kernel_rfl
theorem bup : ji D (dz Tryz.f101 14) := gy S14 bs4 (by kernel_rfl) P.b8o brv
theorem loops : d9 (Tryz.f101.body.getD .skip) = [dz Tryz.f101 4, dz Tryz.f101 8, dz Tryz.f101 14] := by kernel_rfl
noncomputable def bn : Abs.Spec := fun args K => match args with
 | [.agg [.v (.int .i64 b), .arr .u64 8 a, .sl (.ints .u8 c), .v (.int .u64 d)]] => P.ah1 b a c d (fun e => K (.fr 5 (.ints .u8 e)))
 | _ => none
noncomputable def spec : Abs.Spec := fun args K => bn (oh [.agg [.any, .any, .sl (.ints .u8 []), .any]] args) K
theorem ok0 : Proved Tryz.prog GLO.gx 101 bn := by
 refine as4 (D := D) (fn := Tryz.f101) (c := Tryz.f101.body.getD .skip) 5 (.ints .u8 []) (by kernel_rfl) (bf (by kernel_rfl)) (by kernel_rfl) (by kernel_rfl) (by kernel_rfl) ⟨acp.ok, wo.ok, zw.ok, trivial⟩ trivial ?_ ?_
 · rw [loops]; exact ⟨asx, bgb, bup, trivial⟩
 · intro args K r h
   unfold bn at h
   split at h
   · rw [P.bab] at h; exact Eq.trans (by kernel_rfl) h
   · cases h
theorem ok : Proved Tryz.prog GLO.gx 101 spec := eu _ ok0
end ah1

namespace ait
noncomputable def D : Ctx := ({ P := Tryz.prog, G := [], globs := GLO.gx, hints := [], loops := [], inl := [] } : Ctx)
theorem loops : d9 (Tryz.f100.body.getD .skip) = [] := by kernel_rfl
noncomputable def bn : Abs.Spec := fun args K => match args with
 | [.v (.int .i64 e)] => P.ait e (fun b a c d f => K (.tuple [.agg [.v (.int .i64 b), .arr .u64 8 a, .fr 5 (.ints .u8 c), .v (.int .u64 d)], .v (.int .i64 f)]))
 | _ => none
noncomputable def spec : Abs.Spec := bn
theorem ok0 : Proved Tryz.prog GLO.gx 100 bn := by
 refine dw (D := D) (fn := Tryz.f100) (c := Tryz.f100.body.getD .skip) [.agg [.any, .any, .fr 5 (.ints .u8 []), .any], .any] (by kernel_rfl) (bf (by kernel_rfl)) (by kernel_rfl) (by kernel_rfl) (by kernel_rfl) trivial trivial ?_ ?_
 · rw [loops]; exact trivial
 · intro args K r h
   unfold bn at h
   split at h
   · rw [P.bal] at h; exact Eq.trans (by kernel_rfl) h
   · cases h
theorem ok : Proved Tryz.prog GLO.gx 100 spec := ok0
end ait

namespace aew
noncomputable def D : Ctx := ({ P := Tryz.prog, G := [(100, ait.spec), (101, ah1.spec), (102, acp.spec)], globs := GLO.gx, hints := [], loops := [], inl := [] } : Ctx)
theorem loops : d9 (Tryz.f70.body.getD .skip) = [] := by kernel_rfl
noncomputable def bn : Abs.Spec := fun args K => match args with
 | [.v (.int .i64 a), .sl (.ints .u8 b)] => P.aew a b (fun c d => K (.tuple [.fr 5 (.ints .u8 c), .v (.int .i64 d)]))
 | _ => none
noncomputable def spec : Abs.Spec := fun args K => bn (oh [.any, .sl (.ints .u8 [])] args) K
theorem ok0 : Proved Tryz.prog GLO.gx 70 bn := by
 refine dw (D := D) (fn := Tryz.f70) (c := Tryz.f70.body.getD .skip) [.fr 5 (.ints .u8 []), .any] (by kernel_rfl) (bf (by kernel_rfl)) (by kernel_rfl) (by kernel_rfl) (by kernel_rfl) ⟨ait.ok, ah1.ok, acp.ok, trivial⟩ trivial ?_ ?_
 · rw [loops]; exact trivial
 · intro args K r h
   unfold bn at h
   split at h
   · rw [P.azd] at h; exact Eq.trans (by kernel_rfl) h
   · cases h
theorem ok : Proved Tryz.prog GLO.gx 70 spec := eu _ ok0
end aew

namespace yu
abbrev X4 := P.bs1
def S4 : X4 → ASt := fun (c, d, a, b) => ⟨[(0, .ptr 0 0), (1, .ptr 1 0), (2, .v (.int .u64 c)), (3, .v (.int .i64 d))], [(0, some ⟨.box 138 [.arr .u64 24 a], false⟩), (1, some ⟨.box 138 [.arr .u64 24 b], false⟩)], 2, 32⟩
def V4 : ASt → Option X4
 | ⟨[(0, .ptr 0 0), (1, .ptr 1 0), (2, .v (.int .u64 c)), (3, .v (.int .i64 d))], [(0, some ⟨.box 138 [.arr .u64 24 a], false⟩), (1, some ⟨.box 138 [.arr .u64 24 b], false⟩)], 2, 32⟩ => some (c, d, a, b)
 | _ => none
theorem asv (st) (x) (h : V4 st = some x) : st = S4 x := by
 unfold V4 at h
 split at h
 · cases h; rfl
 · cases h
abbrev Y4 := P.b3n
def E4 (K : AExit → ASt → Option R) : Y4 → Option R := (fun x => K (.exit 0) (S4 x))
noncomputable def L4 : p8 := fun st K => acg (V4 st) fun x => P.b0w x (E4 K)
noncomputable def D : Ctx := ({ P := Tryz.prog, G := [], globs := GLO.gx, hints := [(4, ⟨[0, 1, 2, 3], [], [0], [], none, [], []⟩)], loops := [(4, L4)], inl := [] } : Ctx)
theorem ake (K) (next) (x) : jq D (dz Tryz.f131 4) K next (S4 x) = P.bsm x (fun x => next (S4 x)) (E4 K) := by kernel_rfl
theorem asx : ji D (dz Tryz.f131 4) := gy S4 asv (by kernel_rfl) P.b9n ake
theorem loops : d9 (Tryz.f131.body.getD .skip) = [dz Tryz.f131 4] := by kernel_rfl
noncomputable def bn : Abs.Spec := fun args K => match args with
 | [] => P.yu (fun a => K (.arr .u64 24 a))
 | _ => none
noncomputable def spec : Abs.Spec := bn
theorem ok0 : Proved Tryz.prog GLO.gx 131 bn := by
 refine dw (D := D) (fn := Tryz.f131) (c := Tryz.f131.body.getD .skip) [.any] (by kernel_rfl) (bf (by kernel_rfl)) (by kernel_rfl) (by kernel_rfl) (by kernel_rfl) trivial trivial ?_ ?_
 · rw [loops]; exact ⟨asx, trivial⟩
 · intro args K r h
   unfold bn at h
   split at h
   · rw [P.alo] at h; exact Eq.trans (by kernel_rfl) h
   · cases h
theorem ok : Proved Tryz.prog GLO.gx 131 spec := ok0
end yu

namespace ae5
noncomputable def D : Ctx := ({ P := Tryz.prog, G := [], globs := GLO.gx, hints := [], loops := [], inl := [] } : Ctx)
theorem loops : d9 (Tryz.f149.body.getD .skip) = [] := by kernel_rfl
noncomputable def bn : Abs.Spec := fun args K => match args with
 | [.v (.int .u64 a), .v (.int .i64 b)] => P.ae5 a b (fun c => K (.v (.int .u64 c)))
 | _ => none
noncomputable def spec : Abs.Spec := bn
theorem ok0 : Proved Tryz.prog GLO.gx 149 bn := by
 refine dw (D := D) (fn := Tryz.f149) (c := Tryz.f149.body.getD .skip) [.any] (by kernel_rfl) (bf (by kernel_rfl)) (by kernel_rfl) (by kernel_rfl) (by kernel_rfl) trivial trivial ?_ ?_
 · rw [loops]; exact trivial
 · intro args K r h
   unfold bn at h
   split at h
   · rw [P.aej] at h; exact Eq.trans (by kernel_rfl) h
   · cases h
theorem ok : Proved Tryz.prog GLO.gx 149 spec := ok0
end ae5

namespace ahq
abbrev X6 := P.bx8
def S6 : X6 → ASt := fun (d, e, f, a, b, c) => ⟨[(1, .ptr 0 0), (2, .ptr 1 0), (3, .ptr 2 0), (4, .v (.int .i64 d)), (5, .v (.int .i64 e)), (6, .v (.int .i64 f))], [(0, some ⟨.box 107 [.arr .u64 25 a], false⟩), (1, some ⟨.box 107 [.arr .u64 25 b], false⟩), (2, some ⟨.box 107 [.arr .u64 25 c], false⟩)], 3, 44⟩
def V6 : ASt → Option X6
 | ⟨[(1, .ptr 0 0), (2, .ptr 1 0), (3, .ptr 2 0), (4, .v (.int .i64 d)), (5, .v (.int .i64 e)), (6, .v (.int .i64 f))], [(0, some ⟨.box 107 [.arr .u64 25 a], false⟩), (1, some ⟨.box 107 [.arr .u64 25 b], false⟩), (2, some ⟨.box 107 [.arr .u64 25 c], false⟩)], 3, 44⟩ => some (d, e, f, a, b, c)
 | _ => none
theorem ah4 (st) (x) (h : V6 st = some x) : st = S6 x := by
 unfold V6 at h
 split at h
 · cases h; rfl
 · cases h
abbrev Y6 := P.b23
def E6 (K : AExit → ASt → Option R) : Y6 → Option R := (fun x => K (.exit 0) (S6 x))
noncomputable def L6 : p8 := fun st K => acg (V6 st) fun x => P.b0f x (E6 K)
noncomputable def D : Ctx := ({ P := Tryz.prog, G := [(149, ae5.spec)], globs := GLO.gx, hints := [(6, ⟨[1, 2, 3, 4, 5, 6], [], [2], [], none, [], []⟩)], loops := [(6, L6)], inl := [] } : Ctx)
theorem ac4 (K) (next) (x) : jq D (dz Tryz.f132 6) K next (S6 x) = P.bsu x (fun x => next (S6 x)) (E6 K) := by kernel_rfl
theorem aiw : ji D (dz Tryz.f132 6) := gy S6 ah4 (by kernel_rfl) P.cac ac4
theorem loops : d9 (Tryz.f132.body.getD .skip) = [dz Tryz.f132 6] := by kernel_rfl
noncomputable def bn : Abs.Spec := fun args K => match args with
 | [.arr .u64 25 a] => P.ahq a (fun b => K (.arr .u64 25 b))
 | _ => none
noncomputable def spec : Abs.Spec := bn
theorem ok0 : Proved Tryz.prog GLO.gx 132 bn := by
 refine dw (D := D) (fn := Tryz.f132) (c := Tryz.f132.body.getD .skip) [.any] (by kernel_rfl) (bf (by kernel_rfl)) (by kernel_rfl) (by kernel_rfl) (by kernel_rfl) ⟨ae5.ok, trivial⟩ trivial ?_ ?_
 · rw [loops]; exact ⟨aiw, trivial⟩
 · intro args K r h
   unfold bn at h
   split at h
   · rw [P.axk] at h; exact Eq.trans (by kernel_rfl) h
   · cases h
theorem ok : Proved Tryz.prog GLO.gx 132 spec := ok0
end ahq

namespace ads
abbrev X3 := P.bwe
def S3 : X3 → ASt := fun (d, a, b, c) => ⟨[(1, .ptr 0 0), (2, .ptr 1 0), (3, .ptr 2 0), (4, .v (.int .i64 d))], [(0, some ⟨.box 107 [.arr .u64 25 a], false⟩), (1, some ⟨.box 107 [.arr .u64 25 b], false⟩), (2, some ⟨.box 167 [.arr .u64 5 c], false⟩)], 3, 44⟩
def V3 : ASt → Option X3
 | ⟨[(1, .ptr 0 0), (2, .ptr 1 0), (3, .ptr 2 0), (4, .v (.int .i64 d))], [(0, some ⟨.box 107 [.arr .u64 25 a], false⟩), (1, some ⟨.box 107 [.arr .u64 25 b], false⟩), (2, some ⟨.box 167 [.arr .u64 5 c], false⟩)], 3, 44⟩ => some (d, a, b, c)
 | _ => none
theorem apg (st) (x) (h : V3 st = some x) : st = S3 x := by
 unfold V3 at h
 split at h
 · cases h; rfl
 · cases h
abbrev Y3 := P.b3a
abbrev X7 := P.bx4
def S7 : X7 → ASt := fun (d, a, b, c) => ⟨[(1, .ptr 0 0), (2, .ptr 1 0), (3, .ptr 2 0), (5, .v (.int .i64 d))], [(2, some ⟨.box 167 [.arr .u64 5 a], false⟩), (1, some ⟨.box 107 [.arr .u64 25 b], false⟩), (0, some ⟨.box 107 [.arr .u64 25 c], false⟩)], 3, 44⟩
def V7 : ASt → Option X7
 | ⟨[(1, .ptr 0 0), (2, .ptr 1 0), (3, .ptr 2 0), (5, .v (.int .i64 d))], [(2, some ⟨.box 167 [.arr .u64 5 a], false⟩), (1, some ⟨.box 107 [.arr .u64 25 b], false⟩), (0, some ⟨.box 107 [.arr .u64 25 c], false⟩)], 3, 44⟩ => some (d, a, b, c)
 | _ => none
theorem bfl (st) (x) (h : V7 st = some x) : st = S7 x := by
 unfold V7 at h
 split at h
 · cases h; rfl
 · cases h
abbrev Y7 := P.b7g
def E3 (K : AExit → ASt → Option R) : Y3 → Option R := (fun x => K (.exit 0) (S3 x))
noncomputable def L3 : p8 := fun st K => acg (V3 st) fun x => P.b3p x (E3 K)
def E7 (K : AExit → ASt → Option R) : Y7 → Option R := (fun x => K (.exit 2) (S7 x))
noncomputable def L7 : p8 := fun st K => acg (V7 st) fun x => P.b5p x (E7 K)
noncomputable def D : Ctx := ({ P := Tryz.prog, G := [(149, ae5.spec)], globs := GLO.gx, hints := [(7, ⟨[1, 2, 3, 5], [], [2], [], none, [], []⟩), (3, ⟨[1, 2, 3, 4], [], [2], [], none, [], []⟩)], loops := [(3, L3), (7, L7)], inl := [] } : Ctx)
theorem aii (K) (next) (x) : jq D (dz Tryz.f133 3) K next (S3 x) = P.bsr x (fun x => next (S3 x)) (E3 K) := by kernel_rfl
theorem ap4 : ji D (dz Tryz.f133 3) := gy S3 apg (by kernel_rfl) P.b9v aii
theorem aws (K) (next) (x) : jq D (dz Tryz.f133 7) K next (S7 x) = P.bsi x (fun x => next (S7 x)) (E7 K) := by kernel_rfl
theorem bf1 : ji D (dz Tryz.f133 7) := gy S7 bfl (by kernel_rfl) P.b9k aws
theorem loops : d9 (Tryz.f133.body.getD .skip) = [dz Tryz.f133 3, dz Tryz.f133 7] := by kernel_rfl
noncomputable def bn : Abs.Spec := fun args K => match args with
 | [.arr .u64 25 a] => P.ads a (fun b => K (.arr .u64 25 b))
 | _ => none
noncomputable def spec : Abs.Spec := bn
theorem ok0 : Proved Tryz.prog GLO.gx 133 bn := by
 refine dw (D := D) (fn := Tryz.f133) (c := Tryz.f133.body.getD .skip) [.any] (by kernel_rfl) (bf (by kernel_rfl)) (by kernel_rfl) (by kernel_rfl) (by kernel_rfl) ⟨ae5.ok, trivial⟩ trivial ?_ ?_
 · rw [loops]; exact ⟨ap4, bf1, trivial⟩
 · intro args K r h
   unfold bn at h
   split at h
   · rw [P.ar4] at h; exact Eq.trans (by kernel_rfl) h
   · cases h
theorem ok : Proved Tryz.prog GLO.gx 133 spec := ok0
end ads

namespace oz
abbrev X7 := P.bvv
def S7 : X7 → ASt := fun (e, f, a, b, c, d) => ⟨[(1, .ptr 0 0), (2, .ptr 1 0), (3, .ptr 2 0), (4, .v (.int .i64 e)), (5, .ptr 3 0), (6, .v (.int .i64 f))], [(2, some ⟨.box 138 [.arr .u64 24 a], false⟩), (1, some ⟨.box 107 [.arr .u64 25 b], false⟩), (0, some ⟨.box 107 [.arr .u64 25 c], false⟩), (3, some ⟨.box 107 [.arr .u64 25 d], false⟩)], 4, 53⟩
def V7 : ASt → Option X7
 | ⟨[(1, .ptr 0 0), (2, .ptr 1 0), (3, .ptr 2 0), (4, .v (.int .i64 e)), (5, .ptr 3 0), (6, .v (.int .i64 f))], [(2, some ⟨.box 138 [.arr .u64 24 a], false⟩), (1, some ⟨.box 107 [.arr .u64 25 b], false⟩), (0, some ⟨.box 107 [.arr .u64 25 c], false⟩), (3, some ⟨.box 107 [.arr .u64 25 d], false⟩)], 4, 53⟩ => some (e, f, a, b, c, d)
 | _ => none
theorem bfl (st) (x) (h : V7 st = some x) : st = S7 x := by
 unfold V7 at h
 split at h
 · cases h; rfl
 · cases h
abbrev Y7 := P.b76
abbrev X3 := P.bum
def S3 : X3 → ASt := fun (d, a, b, c) => ⟨[(1, .ptr 0 0), (2, .ptr 1 0), (3, .ptr 2 0), (4, .v (.int .i64 d))], [(0, some ⟨.box 107 [.arr .u64 25 a], false⟩), (1, some ⟨.box 107 [.arr .u64 25 b], false⟩), (2, some ⟨.box 138 [.arr .u64 24 c], false⟩)], 3, 53⟩
def V3 : ASt → Option X3
 | ⟨[(1, .ptr 0 0), (2, .ptr 1 0), (3, .ptr 2 0), (4, .v (.int .i64 d))], [(0, some ⟨.box 107 [.arr .u64 25 a], false⟩), (1, some ⟨.box 107 [.arr .u64 25 b], false⟩), (2, some ⟨.box 138 [.arr .u64 24 c], false⟩)], 3, 53⟩ => some (d, a, b, c)
 | _ => none
theorem apg (st) (x) (h : V3 st = some x) : st = S3 x := by
 unfold V3 at h
 split at h
 · cases h; rfl
 · cases h
abbrev Y3 := P.b0l
def E7 (K : AExit → ASt → Option R) : Y7 → Option R := (fun x => K (.exit 2) (S7 x))
noncomputable def L7 : p8 := fun st K => acg (V7 st) fun x => P.b5c x (E7 K)
def E3 (K : AExit → ASt → Option R) : Y3 → Option R := (fun x => K (.exit 0) (S3 x))
noncomputable def L3 : p8 := fun st K => acg (V3 st) fun x => P.b7j x (E3 K)
noncomputable def D : Ctx := ({ P := Tryz.prog, G := [(131, yu.spec), (132, ahq.spec), (133, ads.spec)], globs := GLO.gx, hints := [(7, ⟨[1, 2, 3, 4, 5, 6], [], [2], [], none, [], []⟩), (3, ⟨[1, 2, 3, 4], [], [2], [], none, [], []⟩)], loops := [(7, L7), (3, L3)], inl := [] } : Ctx)
theorem aws (K) (next) (x) : jq D (dz Tryz.f115 7) K next (S7 x) = P.bxc x (fun x => next (S7 x)) (E7 K) := by kernel_rfl
theorem bf1 : ji D (dz Tryz.f115 7) := gy S7 bfl (by kernel_rfl) P.b82 aws
theorem aii (K) (next) (x) : jq D (dz Tryz.f115 3) K next (S3 x) = P.bs3 x (fun x => next (S3 x)) (E3 K) := by kernel_rfl
theorem ap4 : ji D (dz Tryz.f115 3) := gy S3 apg (by kernel_rfl) P.b98 aii
theorem loops : d9 (Tryz.f115.body.getD .skip) = [dz Tryz.f115 3, dz Tryz.f115 7] := by kernel_rfl
noncomputable def bn : Abs.Spec := fun args K => match args with
 | [.arr .u64 25 a] => P.oz a (fun b => K (.arr .u64 25 b))
 | _ => none
noncomputable def spec : Abs.Spec := bn
theorem ok0 : Proved Tryz.prog GLO.gx 115 bn := by
 refine dw (D := D) (fn := Tryz.f115) (c := Tryz.f115.body.getD .skip) [.any] (by kernel_rfl) (bf (by kernel_rfl)) (by kernel_rfl) (by kernel_rfl) (by kernel_rfl) ⟨yu.ok, ahq.ok, ads.ok, trivial⟩ trivial ?_ ?_
 · rw [loops]; exact ⟨ap4, bf1, trivial⟩
 · intro args K r h
   unfold bn at h
   split at h
   · rw [P.aop] at h; exact Eq.trans (by kernel_rfl) h
   · cases h
theorem ok : Proved Tryz.prog GLO.gx 115 spec := ok0
end oz

namespace abj
noncomputable def D : Ctx := ({ P := Tryz.prog, G := [], globs := GLO.gx, hints := [], loops := [], inl := [] } : Ctx)
theorem loops : d9 (Tryz.f114.body.getD .skip) = [] := by kernel_rfl
noncomputable def bn : Abs.Spec := fun args K => match args with
 | [.v (.int .i64 a)] => P.abj a (fun b => K (.v (.int .i64 b)))
 | _ => none
noncomputable def spec : Abs.Spec := bn
theorem ok0 : Proved Tryz.prog GLO.gx 114 bn := by
 refine dw (D := D) (fn := Tryz.f114) (c := Tryz.f114.body.getD .skip) [.any] (by kernel_rfl) (bf (by kernel_rfl)) (by kernel_rfl) (by kernel_rfl) (by kernel_rfl) trivial trivial ?_ ?_
 · rw [loops]; exact trivial
 · intro args K r h
   unfold bn at h
   split at h
   · rw [P.av7] at h; exact Eq.trans (by kernel_rfl) h
   · cases h
theorem ok : Proved Tryz.prog GLO.gx 114 spec := ok0
end abj

namespace aaj
noncomputable def D : Ctx := ({ P := Tryz.prog, G := [], globs := GLO.gx, hints := [], loops := [], inl := [] } : Ctx)
theorem loops : d9 (Tryz.f116.body.getD .skip) = [] := by kernel_rfl
noncomputable def bn : Abs.Spec := fun args K => match args with
 | [.arr .u64 25 a, .v (.int .i64 b), .v (.int .u8 c)] => P.aaj a b c (fun d => K (.arr .u64 25 d))
 | _ => none
noncomputable def spec : Abs.Spec := bn
theorem ok0 : Proved Tryz.prog GLO.gx 116 bn := by
 refine dw (D := D) (fn := Tryz.f116) (c := Tryz.f116.body.getD .skip) [.any] (by kernel_rfl) (bf (by kernel_rfl)) (by kernel_rfl) (by kernel_rfl) (by kernel_rfl) trivial trivial ?_ ?_
 · rw [loops]; exact trivial
 · intro args K r h
   unfold bn at h
   split at h
   · rw [P.azb] at h; exact Eq.trans (by kernel_rfl) h
   · cases h
theorem ok : Proved Tryz.prog GLO.gx 116 spec := ok0
end aaj

namespace abb
abbrev X4 := P.buh
def S4 : X4 → ASt := fun (i, j, a, b, c, d, e, f, g, h) => ⟨[(1, .sl (.ints .u8 i)), (2, .ptr 0 0), (4, .ptr 1 0), (5, .v (.int .i64 j))], [(0, some ⟨.box 109 [.v (.int .i64 a), .arr .u64 25 b, .v (.int .i64 c), .v (.bool d)], false⟩), (1, some ⟨.box 109 [.v (.int .i64 e), .arr .u64 25 f, .v (.int .i64 g), .v (.bool h)], false⟩)], 40, 41⟩
def V4 : ASt → Option X4
 | ⟨[(1, .sl (.ints .u8 i)), (2, .ptr 0 0), (4, .ptr 1 0), (5, .v (.int .i64 j))], [(0, some ⟨.box 109 [.v (.int .i64 a), .arr .u64 25 b, .v (.int .i64 c), .v (.bool d)], false⟩), (1, some ⟨.box 109 [.v (.int .i64 e), .arr .u64 25 f, .v (.int .i64 g), .v (.bool h)], false⟩)], 40, 41⟩ => some (i, j, a, b, c, d, e, f, g, h)
 | _ => none
theorem asv (st) (x) (h : V4 st = some x) : st = S4 x := by
 unfold V4 at h
 split at h
 · cases h; rfl
 · cases h
abbrev Y4 := P.b05
def E4 (K : AExit → ASt → Option R) : Y4 → Option R := (fun x => K (.exit 0) (S4 x))
noncomputable def L4 : p8 := fun st K => acg (V4 st) fun x => P.b0q x (E4 K)
noncomputable def D : Ctx := ({ P := Tryz.prog, G := [(114, abj.spec), (115, oz.spec), (116, aaj.spec)], globs := GLO.gx, hints := [(4, ⟨[1, 2, 4, 5], [], [4], [], some (40, [0, 1]), [], []⟩)], loops := [(4, L4)], inl := [] } : Ctx)
theorem ake (K) (next) (x) : jq D (dz Tryz.f99 4) K next (S4 x) = P.bue x (fun x => next (S4 x)) (E4 K) := by kernel_rfl
theorem asx : ji D (dz Tryz.f99 4) := gy S4 asv (by kernel_rfl) P.b8d ake
theorem loops : d9 (Tryz.f99.body.getD .skip) = [dz Tryz.f99 4] := by kernel_rfl
noncomputable def bn : Abs.Spec := fun args K => match args with
 | [.agg [.v (.int .i64 c), .arr .u64 25 a, .v (.int .i64 g), .v (.bool e)], .sl (.ints .u8 i)] => P.abb c a g e i (fun d b h f => K (.agg [.v (.int .i64 d), .arr .u64 25 b, .v (.int .i64 h), .v (.bool f)]))
 | _ => none
noncomputable def spec : Abs.Spec := fun args K => bn (oh [.any, .sl (.ints .u8 [])] args) K
theorem ok0 : Proved Tryz.prog GLO.gx 99 bn := by
 refine dw (D := D) (fn := Tryz.f99) (c := Tryz.f99.body.getD .skip) [.any] (by kernel_rfl) (bf (by kernel_rfl)) (by kernel_rfl) (by kernel_rfl) (by kernel_rfl) ⟨abj.ok, oz.ok, aaj.ok, trivial⟩ trivial ?_ ?_
 · rw [loops]; exact ⟨asx, trivial⟩
 · intro args K r h
   unfold bn at h
   split at h
   · rw [P.arj] at h; exact Eq.trans (by kernel_rfl) h
   · cases h
theorem ok : Proved Tryz.prog GLO.gx 99 spec := eu _ ok0
end abb

namespace anf
noncomputable def D : Ctx := ({ P := Tryz.prog, G := [(114, abj.spec)], globs := GLO.gx, hints := [], loops := [], inl := [] } : Ctx)
theorem loops : d9 (Tryz.f97.body.getD .skip) = [] := by kernel_rfl
noncomputable def bn : Abs.Spec := fun args K => match args with
 | [.v (.int .i64 e)] => P.anf e (fun b a d c f => K (.tuple [.agg [.v (.int .i64 b), .arr .u64 25 a, .v (.int .i64 d), .v (.bool c)], .v (.int .i64 f)]))
 | _ => none
noncomputable def spec : Abs.Spec := bn
theorem ok0 : Proved Tryz.prog GLO.gx 97 bn := by
 refine dw (D := D) (fn := Tryz.f97) (c := Tryz.f97.body.getD .skip) [.any, .any] (by kernel_rfl) (bf (by kernel_rfl)) (by kernel_rfl) (by kernel_rfl) (by kernel_rfl) ⟨abj.ok, trivial⟩ trivial ?_ ?_
 · rw [loops]; exact trivial
 · intro args K r h
   unfold bn at h
   split at h
   · rw [P.ay8] at h; exact Eq.trans (by kernel_rfl) h
   · cases h
theorem ok : Proved Tryz.prog GLO.gx 97 spec := ok0
end anf

namespace aai
abbrev X12 := P.bs8
def S12 : X12 → ASt := fun (j, k, i, a, b, c, d, e, f, g, h) => ⟨[(8, .own 40), (1, .v (.int .i64 j)), (2, .ptr 0 0), (4, .ptr 1 0), (6, .v (.int .i64 k))], [(40, some ⟨.row 5 (.ints .u8 i), false⟩), (0, some ⟨.box 109 [.v (.int .i64 a), .arr .u64 25 b, .v (.int .i64 c), .v (.bool d)], false⟩), (1, some ⟨.box 109 [.v (.int .i64 e), .arr .u64 25 f, .v (.int .i64 g), .v (.bool h)], false⟩)], 41, 73⟩
def V12 : ASt → Option X12
 | ⟨[(8, .own 40), (1, .v (.int .i64 j)), (2, .ptr 0 0), (4, .ptr 1 0), (6, .v (.int .i64 k))], [(40, some ⟨.row 5 (.ints .u8 i), false⟩), (0, some ⟨.box 109 [.v (.int .i64 a), .arr .u64 25 b, .v (.int .i64 c), .v (.bool d)], false⟩), (1, some ⟨.box 109 [.v (.int .i64 e), .arr .u64 25 f, .v (.int .i64 g), .v (.bool h)], false⟩)], 41, 73⟩ => some (j, k, i, a, b, c, d, e, f, g, h)
 | _ => none
theorem be2 (st) (x) (h : V12 st = some x) : st = S12 x := by
 unfold V12 at h
 split at h
 · cases h; rfl
 · cases h
abbrev Y12 := P.b6p
def E12 (K : AExit → ASt → Option R) : Y12 → Option R := (fun x => K (.exit 0) (S12 x))
noncomputable def L12 : p8 := fun st K => acg (V12 st) fun x => P.b7p x (E12 K)
noncomputable def D : Ctx := ({ P := Tryz.prog, G := [(114, abj.spec), (115, oz.spec), (116, aaj.spec)], globs := GLO.gx, hints := [(12, ⟨[1, 2, 4, 6], [(8, 5, .ints .u8 [])], [4, 5], [], some (40, [0, 1]), [], []⟩)], loops := [(12, L12)], inl := [] } : Ctx)
theorem axp (K) (next) (x) : jq D (dz Tryz.f98 12) K next (S12 x) = P.bxs x (fun x => next (S12 x)) (E12 K) := by kernel_rfl
theorem bc7 : ji D (dz Tryz.f98 12) := gy S12 be2 (by kernel_rfl) P.cad axp
theorem loops : d9 (Tryz.f98.body.getD .skip) = [dz Tryz.f98 12] := by kernel_rfl
noncomputable def bn : Abs.Spec := fun args K => match args with
 | [.agg [.v (.int .i64 c), .arr .u64 25 a, .v (.int .i64 g), .v (.bool e)], .v (.int .i64 i)] => P.aai c a g e i (fun d b h f j => K (.tuple [.agg [.v (.int .i64 d), .arr .u64 25 b, .v (.int .i64 h), .v (.bool f)], .fr 5 (.ints .u8 j)]))
 | _ => none
noncomputable def spec : Abs.Spec := bn
theorem ok0 : Proved Tryz.prog GLO.gx 98 bn := by
 refine dw (D := D) (fn := Tryz.f98) (c := Tryz.f98.body.getD .skip) [.any, .fr 5 (.ints .u8 [])] (by kernel_rfl) (bf (by kernel_rfl)) (by kernel_rfl) (by kernel_rfl) (by kernel_rfl) ⟨abj.ok, oz.ok, aaj.ok, trivial⟩ trivial ?_ ?_
 · rw [loops]; exact ⟨bc7, trivial⟩
 · intro args K r h
   unfold bn at h
   split at h
   · rw [P.aoi] at h; exact Eq.trans (by kernel_rfl) h
   · cases h
theorem ok : Proved Tryz.prog GLO.gx 98 spec := ok0
end aai

namespace aip
noncomputable def D : Ctx := ({ P := Tryz.prog, G := [(97, anf.spec), (98, aai.spec), (99, abb.spec)], globs := GLO.gx, hints := [], loops := [], inl := [] } : Ctx)
theorem loops : d9 (Tryz.f69.body.getD .skip) = [] := by kernel_rfl
noncomputable def bn : Abs.Spec := fun args K => match args with
 | [.v (.int .i64 a), .sl (.ints .u8 b), .v (.int .i64 c)] => P.aip a b c (fun d e => K (.tuple [.fr 5 (.ints .u8 d), .v (.int .i64 e)]))
 | _ => none
noncomputable def spec : Abs.Spec := fun args K => bn (oh [.any, .sl (.ints .u8 []), .any] args) K
theorem ok0 : Proved Tryz.prog GLO.gx 69 bn := by
 refine dw (D := D) (fn := Tryz.f69) (c := Tryz.f69.body.getD .skip) [.fr 5 (.ints .u8 []), .any] (by kernel_rfl) (bf (by kernel_rfl)) (by kernel_rfl) (by kernel_rfl) (by kernel_rfl) ⟨anf.ok, aai.ok, abb.ok, trivial⟩ trivial ?_ ?_
 · rw [loops]; exact trivial
 · intro args K r h
   unfold bn at h
   split at h
   · rw [P.bap] at h; exact Eq.trans (by kernel_rfl) h
   · cases h
theorem ok : Proved Tryz.prog GLO.gx 69 spec := eu _ ok0
end aip

end
