/-
  XmssHypers, part 18: an interpreter of my own over abstract values, the pure functions, the walks and the plain law.
-/

import Derived.Test.YtjhnljhjpnjieaaGreatDoorXmssHypersI
import Derived.Test.YtjhnljhjpnjieaaGreatDoorXmssHypersG
import Derived.Test.YtjhnljhjpnjieaaGreatDoorXmssHypersL
import Derived.Test.YtjhnljhjpnjieaaGreatDoorProg
import Derived.Test.YtjhnljhjpnjieaaGreatDoorXmssHypersH
import Derived.Test.YtjhnljhjpnjieaaGreatDoorXmssHypersQ
import Derived.KernelRfl

section
open Go Go.Abs Go.Proofs
set_option maxRecDepth 100000
set_option maxHeartbeats 0
set_option linter.unusedVariables false

namespace aja
abbrev X4 := P.bxt
def S4 : X4 → ASt := fun (f, g, e, a, b, c, d) => ⟨[(5, .own 40), (1, .ptr 0 0), (3, .v (.int .i64 f)), (4, .v (.int .u64 g))], [(40, some ⟨.row 5 (.ints .u8 e), false⟩), (0, some ⟨.box 117 [.v (.int .i64 a), .arr .u64 8 b, .sl (.ints .u8 c), .v (.int .u64 d)], false⟩)], 41, 77⟩
def V4 : ASt → Option X4
 | ⟨[(5, .own 40), (1, .ptr 0 0), (3, .v (.int .i64 f)), (4, .v (.int .u64 g))], [(40, some ⟨.row 5 (.ints .u8 e), false⟩), (0, some ⟨.box 117 [.v (.int .i64 a), .arr .u64 8 b, .sl (.ints .u8 c), .v (.int .u64 d)], false⟩)], 41, 77⟩ => some (f, g, e, a, b, c, d)
 | _ => none
theorem atw (st) (x) (h : V4 st = some x) : st = S4 x := by
 unfold V4 at h
 split at h
 · cases h; rfl
 · cases h
abbrev Y4 := P.b8d
abbrev X8 := P.bzu
def S8 : X8 → ASt := fun (f, g, e, a, b, c, d) => ⟨[(5, .own 80), (1, .ptr 0 0), (3, .v (.int .i64 f)), (4, .v (.int .u64 g))], [(80, some ⟨.row 5 (.ints .u8 e), false⟩), (0, some ⟨.box 117 [.v (.int .i64 a), .arr .u64 8 b, .sl (.ints .u8 c), .v (.int .u64 d)], false⟩)], 81, 77⟩
def V8 : ASt → Option X8
 | ⟨[(5, .own 80), (1, .ptr 0 0), (3, .v (.int .i64 f)), (4, .v (.int .u64 g))], [(80, some ⟨.row 5 (.ints .u8 e), false⟩), (0, some ⟨.box 117 [.v (.int .i64 a), .arr .u64 8 b, .sl (.ints .u8 c), .v (.int .u64 d)], false⟩)], 81, 77⟩ => some (f, g, e, a, b, c, d)
 | _ => none
theorem bht (st) (x) (h : V8 st = some x) : st = S8 x := by
 unfold V8 at h
 split at h
 · cases h; rfl
 · cases h
abbrev Y8 := P.b9k
abbrev X14 := P.byb
def S14 : X14 → ASt := fun (f, g, a, b, c, d, e) => ⟨[(6, .own 120), (1, .ptr 0 0), (3, .v (.int .i64 f)), (7, .v (.int .i64 g))], [(120, some ⟨.row 5 (.ints .u8 a), false⟩), (0, some ⟨.box 117 [.v (.int .i64 b), .arr .u64 8 c, .sl (.ints .u8 d), .v (.int .u64 e)], false⟩)], 121, 77⟩
def V14 : ASt → Option X14
 | ⟨[(6, .own 120), (1, .ptr 0 0), (3, .v (.int .i64 f)), (7, .v (.int .i64 g))], [(120, some ⟨.row 5 (.ints .u8 a), false⟩), (0, some ⟨.box 117 [.v (.int .i64 b), .arr .u64 8 c, .sl (.ints .u8 d), .v (.int .u64 e)], false⟩)], 121, 77⟩ => some (f, g, a, b, c, d, e)
 | _ => none
theorem bw0 (st) (x) (h : V14 st = some x) : st = S14 x := by
 unfold V14 at h
 split at h
 · cases h; rfl
 · cases h
abbrev Y14 := P.b3o
def E4 (K : AExit → ASt → Option R) : Y4 → Option R := (fun x => K (.exit 0) (S4 x))
noncomputable def L4 : oz := fun st K => abx (V4 st) fun x => P.b3s x (E4 K)
def E8 (K : AExit → ASt → Option R) : Y8 → Option R := (fun x => K (.exit 2) (S8 x))
noncomputable def L8 : oz := fun st K => abx (V8 st) fun x => P.b52 x (E8 K)
def E14 (K : AExit → ASt → Option R) : Y14 → Option R := (fun x => K (.exit 4) (S14 x))
noncomputable def L14 : oz := fun st K => abx (V14 st) fun x => P.cbc x (E14 K)
noncomputable def D : Ctx := ({ P := Tryz.prog, G := [(102, ade.spec), (104, w9.spec), (117, zq.spec)], globs := GLO.gx, hints := [(14, ⟨[1, 3, 7], [(6, 5, .ints .u8 [])], [2], [], some (120, [0]), [0], []⟩), (8, ⟨[1, 3, 4], [(5, 5, .ints .u8 [])], [2], [], some (80, [0]), [0], []⟩), (4, ⟨[1, 3, 4], [(5, 5, .ints .u8 [])], [2], [], some (40, [0]), [0], []⟩)], loops := [(4, L4), (8, L8), (14, L14)], inl := [] } : Ctx)
theorem aks (K) (next) (x) : jo D (dz Tryz.f101 4) K next (S4 x) = P.bwf x (fun x => next (S4 x)) (E4 K) := by kernel_rfl
theorem aun : jl D (dz Tryz.f101 4) := gq S4 atw (by kernel_rfl) P.cd5 aks
theorem azu (K) (next) (x) : jo D (dz Tryz.f101 8) K next (S8 x) = P.bvy x (fun x => next (S8 x)) (E8 K) := by kernel_rfl
theorem bhr : jl D (dz Tryz.f101 8) := gq S8 bht (by kernel_rfl) P.cdh azu
theorem buo (K) (next) (x) : jo D (dz Tryz.f101 14) K next (S14 x) = P.bvf x (fun x => next (S14 x)) (E14 K) := by kernel_rfl
theorem bvz : jl D (dz Tryz.f101 14) := gq S14 bw0 (by kernel_rfl) P.cd4 buo
theorem loops : d9 (Tryz.f101.body.getD .skip) = [dz Tryz.f101 4, dz Tryz.f101 8, dz Tryz.f101 14] := by kernel_rfl
noncomputable def bn : Abs.Spec := fun args K => match args with
 | [.agg [.v (.int .i64 b), .arr .u64 8 a, .sl (.ints .u8 c), .v (.int .u64 d)]] => P.aja b a c d (fun e => K (.fr 5 (.ints .u8 e)))
 | _ => none
noncomputable def spec : Abs.Spec := fun args K => bn (og [.agg [.any, .any, .sl (.ints .u8 []), .any]] args) K
theorem ok0 : Proved Tryz.prog GLO.gx 101 bn := by
 refine aup (D := D) (fn := Tryz.f101) (c := Tryz.f101.body.getD .skip) 5 (.ints .u8 []) (by kernel_rfl) (bf (by kernel_rfl)) (by kernel_rfl) (by kernel_rfl) (by kernel_rfl) ⟨ade.ok, w9.ok, zq.ok, trivial⟩ trivial ?_ ?_
 · rw [loops]; exact ⟨aun, bhr, bvz, trivial⟩
 · intro args K r h
   unfold bn at h
   split at h
   · rw [P.ba5] at h; exact Eq.trans (by kernel_rfl) h
   · cases h
theorem ok : Proved Tryz.prog GLO.gx 101 spec := eu _ ok0
end aja

namespace aix
noncomputable def D : Ctx := ({ P := Tryz.prog, G := [], globs := GLO.gx, hints := [], loops := [], inl := [] } : Ctx)
theorem loops : d9 (Tryz.f100.body.getD .skip) = [] := by kernel_rfl
noncomputable def bn : Abs.Spec := fun args K => match args with
 | [.v (.int .i64 e)] => P.aix e (fun b a c d f => K (.tuple [.agg [.v (.int .i64 b), .arr .u64 8 a, .fr 5 (.ints .u8 c), .v (.int .u64 d)], .v (.int .i64 f)]))
 | _ => none
noncomputable def spec : Abs.Spec := bn
theorem ok0 : Proved Tryz.prog GLO.gx 100 bn := by
 refine dh (D := D) (fn := Tryz.f100) (c := Tryz.f100.body.getD .skip) [.agg [.any, .any, .fr 5 (.ints .u8 []), .any], .any] (by kernel_rfl) (bf (by kernel_rfl)) (by kernel_rfl) (by kernel_rfl) (by kernel_rfl) trivial trivial ?_ ?_
 · rw [loops]; exact trivial
 · intro args K r h
   unfold bn at h
   split at h
   · rw [P.bbu] at h; exact Eq.trans (by kernel_rfl) h
   · cases h
theorem ok : Proved Tryz.prog GLO.gx 100 spec := ok0
end aix

namespace afl
noncomputable def D : Ctx := ({ P := Tryz.prog, G := [(100, aix.spec), (101, aja.spec), (102, ade.spec)], globs := GLO.gx, hints := [], loops := [], inl := [] } : Ctx)
theorem loops : d9 (Tryz.f70.body.getD .skip) = [] := by kernel_rfl
noncomputable def bn : Abs.Spec := fun args K => match args with
 | [.v (.int .i64 a), .sl (.ints .u8 b)] => P.afl a b (fun c d => K (.tuple [.fr 5 (.ints .u8 c), .v (.int .i64 d)]))
 | _ => none
noncomputable def spec : Abs.Spec := fun args K => bn (og [.any, .sl (.ints .u8 [])] args) K
theorem ok0 : Proved Tryz.prog GLO.gx 70 bn := by
 refine dh (D := D) (fn := Tryz.f70) (c := Tryz.f70.body.getD .skip) [.fr 5 (.ints .u8 []), .any] (by kernel_rfl) (bf (by kernel_rfl)) (by kernel_rfl) (by kernel_rfl) (by kernel_rfl) ⟨aix.ok, aja.ok, ade.ok, trivial⟩ trivial ?_ ?_
 · rw [loops]; exact trivial
 · intro args K r h
   unfold bn at h
   split at h
   · rw [P.bbv] at h; exact Eq.trans (by kernel_rfl) h
   · cases h
theorem ok : Proved Tryz.prog GLO.gx 70 spec := eu _ ok0
end afl

namespace y9
abbrev X4 := P.by7
def S4 : X4 → ASt := fun (c, d, a, b) => ⟨[(0, .ptr 0 0), (1, .ptr 1 0), (2, .v (.int .u64 c)), (3, .v (.int .i64 d))], [(0, some ⟨.box 138 [.arr .u64 24 a], false⟩), (1, some ⟨.box 138 [.arr .u64 24 b], false⟩)], 2, 32⟩
def V4 : ASt → Option X4
 | ⟨[(0, .ptr 0 0), (1, .ptr 1 0), (2, .v (.int .u64 c)), (3, .v (.int .i64 d))], [(0, some ⟨.box 138 [.arr .u64 24 a], false⟩), (1, some ⟨.box 138 [.arr .u64 24 b], false⟩)], 2, 32⟩ => some (c, d, a, b)
 | _ => none
theorem atw (st) (x) (h : V4 st = some x) : st = S4 x := by
 unfold V4 at h
 split at h
 · cases h; rfl
 · cases h
abbrev Y4 := P.b4w
def E4 (K : AExit → ASt → Option R) : Y4 → Option R := (fun x => K (.exit 0) (S4 x))
noncomputable def L4 : oz := fun st K => abx (V4 st) fun x => P.b8g x (E4 K)
noncomputable def D : Ctx := ({ P := Tryz.prog, G := [], globs := GLO.gx, hints := [(4, ⟨[0, 1, 2, 3], [], [0], [], none, [], []⟩)], loops := [(4, L4)], inl := [] } : Ctx)
theorem aks (K) (next) (x) : jo D (dz Tryz.f131 4) K next (S4 x) = P.buv x (fun x => next (S4 x)) (E4 K) := by kernel_rfl
theorem aun : jl D (dz Tryz.f131 4) := gq S4 atw (by kernel_rfl) P.cdi aks
theorem loops : d9 (Tryz.f131.body.getD .skip) = [dz Tryz.f131 4] := by kernel_rfl
noncomputable def bn : Abs.Spec := fun args K => match args with
 | [] => P.y9 (fun a => K (.arr .u64 24 a))
 | _ => none
noncomputable def spec : Abs.Spec := bn
theorem ok0 : Proved Tryz.prog GLO.gx 131 bn := by
 refine dh (D := D) (fn := Tryz.f131) (c := Tryz.f131.body.getD .skip) [.any] (by kernel_rfl) (bf (by kernel_rfl)) (by kernel_rfl) (by kernel_rfl) (by kernel_rfl) trivial trivial ?_ ?_
 · rw [loops]; exact ⟨aun, trivial⟩
 · intro args K r h
   unfold bn at h
   split at h
   · rw [P.amy] at h; exact Eq.trans (by kernel_rfl) h
   · cases h
theorem ok : Proved Tryz.prog GLO.gx 131 spec := ok0
end y9

namespace ae4
noncomputable def D : Ctx := ({ P := Tryz.prog, G := [], globs := GLO.gx, hints := [], loops := [], inl := [] } : Ctx)
theorem loops : d9 (Tryz.f149.body.getD .skip) = [] := by kernel_rfl
noncomputable def bn : Abs.Spec := fun args K => match args with
 | [.v (.int .u64 a), .v (.int .i64 b)] => P.ae4 a b (fun c => K (.v (.int .u64 c)))
 | _ => none
noncomputable def spec : Abs.Spec := bn
theorem ok0 : Proved Tryz.prog GLO.gx 149 bn := by
 refine dh (D := D) (fn := Tryz.f149) (c := Tryz.f149.body.getD .skip) [.any] (by kernel_rfl) (bf (by kernel_rfl)) (by kernel_rfl) (by kernel_rfl) (by kernel_rfl) trivial trivial ?_ ?_
 · rw [loops]; exact trivial
 · intro args K r h
   unfold bn at h
   split at h
   · rw [P.ael] at h; exact Eq.trans (by kernel_rfl) h
   · cases h
theorem ok : Proved Tryz.prog GLO.gx 149 spec := ok0
end ae4

namespace ahu
abbrev X6 := P.bv4
def S6 : X6 → ASt := fun (d, e, f, a, b, c) => ⟨[(1, .ptr 0 0), (2, .ptr 1 0), (3, .ptr 2 0), (4, .v (.int .i64 d)), (5, .v (.int .i64 e)), (6, .v (.int .i64 f))], [(0, some ⟨.box 107 [.arr .u64 25 a], false⟩), (1, some ⟨.box 107 [.arr .u64 25 b], false⟩), (2, some ⟨.box 107 [.arr .u64 25 c], false⟩)], 3, 44⟩
def V6 : ASt → Option X6
 | ⟨[(1, .ptr 0 0), (2, .ptr 1 0), (3, .ptr 2 0), (4, .v (.int .i64 d)), (5, .v (.int .i64 e)), (6, .v (.int .i64 f))], [(0, some ⟨.box 107 [.arr .u64 25 a], false⟩), (1, some ⟨.box 107 [.arr .u64 25 b], false⟩), (2, some ⟨.box 107 [.arr .u64 25 c], false⟩)], 3, 44⟩ => some (d, e, f, a, b, c)
 | _ => none
theorem ail (st) (x) (h : V6 st = some x) : st = S6 x := by
 unfold V6 at h
 split at h
 · cases h; rfl
 · cases h
abbrev Y6 := P.b30
def E6 (K : AExit → ASt → Option R) : Y6 → Option R := (fun x => K (.exit 0) (S6 x))
noncomputable def L6 : oz := fun st K => abx (V6 st) fun x => P.b7z x (E6 K)
noncomputable def D : Ctx := ({ P := Tryz.prog, G := [(149, ae4.spec)], globs := GLO.gx, hints := [(6, ⟨[1, 2, 3, 4, 5, 6], [], [2], [], none, [], []⟩)], loops := [(6, L6)], inl := [] } : Ctx)
theorem adf (K) (next) (x) : jo D (dz Tryz.f132 6) K next (S6 x) = P.bus x (fun x => next (S6 x)) (E6 K) := by kernel_rfl
theorem aif : jl D (dz Tryz.f132 6) := gq S6 ail (by kernel_rfl) P.cdd adf
theorem loops : d9 (Tryz.f132.body.getD .skip) = [dz Tryz.f132 6] := by kernel_rfl
noncomputable def bn : Abs.Spec := fun args K => match args with
 | [.arr .u64 25 a] => P.ahu a (fun b => K (.arr .u64 25 b))
 | _ => none
noncomputable def spec : Abs.Spec := bn
theorem ok0 : Proved Tryz.prog GLO.gx 132 bn := by
 refine dh (D := D) (fn := Tryz.f132) (c := Tryz.f132.body.getD .skip) [.any] (by kernel_rfl) (bf (by kernel_rfl)) (by kernel_rfl) (by kernel_rfl) (by kernel_rfl) ⟨ae4.ok, trivial⟩ trivial ?_ ?_
 · rw [loops]; exact ⟨aif, trivial⟩
 · intro args K r h
   unfold bn at h
   split at h
   · rw [P.ayy] at h; exact Eq.trans (by kernel_rfl) h
   · cases h
theorem ok : Proved Tryz.prog GLO.gx 132 spec := ok0
end ahu

namespace ado
abbrev X3 := P.by8
def S3 : X3 → ASt := fun (d, a, b, c) => ⟨[(1, .ptr 0 0), (2, .ptr 1 0), (3, .ptr 2 0), (4, .v (.int .i64 d))], [(0, some ⟨.box 107 [.arr .u64 25 a], false⟩), (1, some ⟨.box 107 [.arr .u64 25 b], false⟩), (2, some ⟨.box 167 [.arr .u64 5 c], false⟩)], 3, 44⟩
def V3 : ASt → Option X3
 | ⟨[(1, .ptr 0 0), (2, .ptr 1 0), (3, .ptr 2 0), (4, .v (.int .i64 d))], [(0, some ⟨.box 107 [.arr .u64 25 a], false⟩), (1, some ⟨.box 107 [.arr .u64 25 b], false⟩), (2, some ⟨.box 167 [.arr .u64 5 c], false⟩)], 3, 44⟩ => some (d, a, b, c)
 | _ => none
theorem aq4 (st) (x) (h : V3 st = some x) : st = S3 x := by
 unfold V3 at h
 split at h
 · cases h; rfl
 · cases h
abbrev Y3 := P.b36
abbrev X7 := P.bz1
def S7 : X7 → ASt := fun (d, a, b, c) => ⟨[(1, .ptr 0 0), (2, .ptr 1 0), (3, .ptr 2 0), (5, .v (.int .i64 d))], [(2, some ⟨.box 167 [.arr .u64 5 a], false⟩), (1, some ⟨.box 107 [.arr .u64 25 b], false⟩), (0, some ⟨.box 107 [.arr .u64 25 c], false⟩)], 3, 44⟩
def V7 : ASt → Option X7
 | ⟨[(1, .ptr 0 0), (2, .ptr 1 0), (3, .ptr 2 0), (5, .v (.int .i64 d))], [(2, some ⟨.box 167 [.arr .u64 5 a], false⟩), (1, some ⟨.box 107 [.arr .u64 25 b], false⟩), (0, some ⟨.box 107 [.arr .u64 25 c], false⟩)], 3, 44⟩ => some (d, a, b, c)
 | _ => none
theorem bhu (st) (x) (h : V7 st = some x) : st = S7 x := by
 unfold V7 at h
 split at h
 · cases h; rfl
 · cases h
abbrev Y7 := P.b5g
def E3 (K : AExit → ASt → Option R) : Y3 → Option R := (fun x => K (.exit 0) (S3 x))
noncomputable def L3 : oz := fun st K => abx (V3 st) fun x => P.b6k x (E3 K)
def E7 (K : AExit → ASt → Option R) : Y7 → Option R := (fun x => K (.exit 2) (S7 x))
noncomputable def L7 : oz := fun st K => abx (V7 st) fun x => P.b5u x (E7 K)
noncomputable def D : Ctx := ({ P := Tryz.prog, G := [(149, ae4.spec)], globs := GLO.gx, hints := [(7, ⟨[1, 2, 3, 5], [], [2], [], none, [], []⟩), (3, ⟨[1, 2, 3, 4], [], [2], [], none, [], []⟩)], loops := [(3, L3), (7, L7)], inl := [] } : Ctx)
theorem ais (K) (next) (x) : jo D (dz Tryz.f133 3) K next (S3 x) = P.bva x (fun x => next (S3 x)) (E3 K) := by kernel_rfl
theorem aqb : jl D (dz Tryz.f133 3) := gq S3 aq4 (by kernel_rfl) P.cb6 ais
theorem ayk (K) (next) (x) : jo D (dz Tryz.f133 7) K next (S7 x) = P.bu1 x (fun x => next (S7 x)) (E7 K) := by kernel_rfl
theorem biu : jl D (dz Tryz.f133 7) := gq S7 bhu (by kernel_rfl) P.ccv ayk
theorem loops : d9 (Tryz.f133.body.getD .skip) = [dz Tryz.f133 3, dz Tryz.f133 7] := by kernel_rfl
noncomputable def bn : Abs.Spec := fun args K => match args with
 | [.arr .u64 25 a] => P.ado a (fun b => K (.arr .u64 25 b))
 | _ => none
noncomputable def spec : Abs.Spec := bn
theorem ok0 : Proved Tryz.prog GLO.gx 133 bn := by
 refine dh (D := D) (fn := Tryz.f133) (c := Tryz.f133.body.getD .skip) [.any] (by kernel_rfl) (bf (by kernel_rfl)) (by kernel_rfl) (by kernel_rfl) (by kernel_rfl) ⟨ae4.ok, trivial⟩ trivial ?_ ?_
 · rw [loops]; exact ⟨aqb, biu, trivial⟩
 · intro args K r h
   unfold bn at h
   split at h
   · rw [P.ar4] at h; exact Eq.trans (by kernel_rfl) h
   · cases h
theorem ok : Proved Tryz.prog GLO.gx 133 spec := ok0
end ado

namespace o9
abbrev X7 := P.bw5
def S7 : X7 → ASt := fun (e, f, a, b, c, d) => ⟨[(1, .ptr 0 0), (2, .ptr 1 0), (3, .ptr 2 0), (4, .v (.int .i64 e)), (5, .ptr 3 0), (6, .v (.int .i64 f))], [(2, some ⟨.box 138 [.arr .u64 24 a], false⟩), (1, some ⟨.box 107 [.arr .u64 25 b], false⟩), (0, some ⟨.box 107 [.arr .u64 25 c], false⟩), (3, some ⟨.box 107 [.arr .u64 25 d], false⟩)], 4, 53⟩
def V7 : ASt → Option X7
 | ⟨[(1, .ptr 0 0), (2, .ptr 1 0), (3, .ptr 2 0), (4, .v (.int .i64 e)), (5, .ptr 3 0), (6, .v (.int .i64 f))], [(2, some ⟨.box 138 [.arr .u64 24 a], false⟩), (1, some ⟨.box 107 [.arr .u64 25 b], false⟩), (0, some ⟨.box 107 [.arr .u64 25 c], false⟩), (3, some ⟨.box 107 [.arr .u64 25 d], false⟩)], 4, 53⟩ => some (e, f, a, b, c, d)
 | _ => none
theorem bhu (st) (x) (h : V7 st = some x) : st = S7 x := by
 unfold V7 at h
 split at h
 · cases h; rfl
 · cases h
abbrev Y7 := P.b5q
abbrev X3 := P.bzs
def S3 : X3 → ASt := fun (d, a, b, c) => ⟨[(1, .ptr 0 0), (2, .ptr 1 0), (3, .ptr 2 0), (4, .v (.int .i64 d))], [(0, some ⟨.box 107 [.arr .u64 25 a], false⟩), (1, some ⟨.box 107 [.arr .u64 25 b], false⟩), (2, some ⟨.box 138 [.arr .u64 24 c], false⟩)], 3, 53⟩
def V3 : ASt → Option X3
 | ⟨[(1, .ptr 0 0), (2, .ptr 1 0), (3, .ptr 2 0), (4, .v (.int .i64 d))], [(0, some ⟨.box 107 [.arr .u64 25 a], false⟩), (1, some ⟨.box 107 [.arr .u64 25 b], false⟩), (2, some ⟨.box 138 [.arr .u64 24 c], false⟩)], 3, 53⟩ => some (d, a, b, c)
 | _ => none
theorem aq4 (st) (x) (h : V3 st = some x) : st = S3 x := by
 unfold V3 at h
 split at h
 · cases h; rfl
 · cases h
abbrev Y3 := P.b6f
def E7 (K : AExit → ASt → Option R) : Y7 → Option R := (fun x => K (.exit 2) (S7 x))
noncomputable def L7 : oz := fun st K => abx (V7 st) fun x => P.b5v x (E7 K)
def E3 (K : AExit → ASt → Option R) : Y3 → Option R := (fun x => K (.exit 0) (S3 x))
noncomputable def L3 : oz := fun st K => abx (V3 st) fun x => P.b4l x (E3 K)
noncomputable def D : Ctx := ({ P := Tryz.prog, G := [(131, y9.spec), (132, ahu.spec), (133, ado.spec)], globs := GLO.gx, hints := [(7, ⟨[1, 2, 3, 4, 5, 6], [], [2], [], none, [], []⟩), (3, ⟨[1, 2, 3, 4], [], [2], [], none, [], []⟩)], loops := [(7, L7), (3, L3)], inl := [] } : Ctx)
theorem ayk (K) (next) (x) : jo D (dz Tryz.f115 7) K next (S7 x) = P.bzm x (fun x => next (S7 x)) (E7 K) := by kernel_rfl
theorem biu : jl D (dz Tryz.f115 7) := gq S7 bhu (by kernel_rfl) P.ccr ayk
theorem ais (K) (next) (x) : jo D (dz Tryz.f115 3) K next (S3 x) = P.byc x (fun x => next (S3 x)) (E3 K) := by kernel_rfl
theorem aqb : jl D (dz Tryz.f115 3) := gq S3 aq4 (by kernel_rfl) P.cb7 ais
theorem loops : d9 (Tryz.f115.body.getD .skip) = [dz Tryz.f115 3, dz Tryz.f115 7] := by kernel_rfl
noncomputable def bn : Abs.Spec := fun args K => match args with
 | [.arr .u64 25 a] => P.o9 a (fun b => K (.arr .u64 25 b))
 | _ => none
noncomputable def spec : Abs.Spec := bn
theorem ok0 : Proved Tryz.prog GLO.gx 115 bn := by
 refine dh (D := D) (fn := Tryz.f115) (c := Tryz.f115.body.getD .skip) [.any] (by kernel_rfl) (bf (by kernel_rfl)) (by kernel_rfl) (by kernel_rfl) (by kernel_rfl) ⟨y9.ok, ahu.ok, ado.ok, trivial⟩ trivial ?_ ?_
 · rw [loops]; exact ⟨aqb, biu, trivial⟩
 · intro args K r h
   unfold bn at h
   split at h
   · rw [P.apl] at h; exact Eq.trans (by kernel_rfl) h
   · cases h
theorem ok : Proved Tryz.prog GLO.gx 115 spec := ok0
end o9

namespace abk
noncomputable def D : Ctx := ({ P := Tryz.prog, G := [], globs := GLO.gx, hints := [], loops := [], inl := [] } : Ctx)
theorem loops : d9 (Tryz.f114.body.getD .skip) = [] := by kernel_rfl
noncomputable def bn : Abs.Spec := fun args K => match args with
 | [.v (.int .i64 a)] => P.abk a (fun b => K (.v (.int .i64 b)))
 | _ => none
noncomputable def spec : Abs.Spec := bn
theorem ok0 : Proved Tryz.prog GLO.gx 114 bn := by
 refine dh (D := D) (fn := Tryz.f114) (c := Tryz.f114.body.getD .skip) [.any] (by kernel_rfl) (bf (by kernel_rfl)) (by kernel_rfl) (by kernel_rfl) (by kernel_rfl) trivial trivial ?_ ?_
 · rw [loops]; exact trivial
 · intro args K r h
   unfold bn at h
   split at h
   · rw [P.axm] at h; exact Eq.trans (by kernel_rfl) h
   · cases h
theorem ok : Proved Tryz.prog GLO.gx 114 spec := ok0
end abk

namespace zw
noncomputable def D : Ctx := ({ P := Tryz.prog, G := [], globs := GLO.gx, hints := [], loops := [], inl := [] } : Ctx)
theorem loops : d9 (Tryz.f116.body.getD .skip) = [] := by kernel_rfl
noncomputable def bn : Abs.Spec := fun args K => match args with
 | [.arr .u64 25 a, .v (.int .i64 b), .v (.int .u8 c)] => P.zw a b c (fun d => K (.arr .u64 25 d))
 | _ => none
noncomputable def spec : Abs.Spec := bn
theorem ok0 : Proved Tryz.prog GLO.gx 116 bn := by
 refine dh (D := D) (fn := Tryz.f116) (c := Tryz.f116.body.getD .skip) [.any] (by kernel_rfl) (bf (by kernel_rfl)) (by kernel_rfl) (by kernel_rfl) (by kernel_rfl) trivial trivial ?_ ?_
 · rw [loops]; exact trivial
 · intro args K r h
   unfold bn at h
   split at h
   · rw [P.bcl] at h; exact Eq.trans (by kernel_rfl) h
   · cases h
theorem ok : Proved Tryz.prog GLO.gx 116 spec := ok0
end zw

namespace abe
abbrev X4 := P.bya
def S4 : X4 → ASt := fun (i, j, a, b, c, d, e, f, g, h) => ⟨[(1, .sl (.ints .u8 i)), (2, .ptr 0 0), (4, .ptr 1 0), (5, .v (.int .i64 j))], [(0, some ⟨.box 109 [.v (.int .i64 a), .arr .u64 25 b, .v (.int .i64 c), .v (.bool d)], false⟩), (1, some ⟨.box 109 [.v (.int .i64 e), .arr .u64 25 f, .v (.int .i64 g), .v (.bool h)], false⟩)], 40, 41⟩
def V4 : ASt → Option X4
 | ⟨[(1, .sl (.ints .u8 i)), (2, .ptr 0 0), (4, .ptr 1 0), (5, .v (.int .i64 j))], [(0, some ⟨.box 109 [.v (.int .i64 a), .arr .u64 25 b, .v (.int .i64 c), .v (.bool d)], false⟩), (1, some ⟨.box 109 [.v (.int .i64 e), .arr .u64 25 f, .v (.int .i64 g), .v (.bool h)], false⟩)], 40, 41⟩ => some (i, j, a, b, c, d, e, f, g, h)
 | _ => none
theorem atw (st) (x) (h : V4 st = some x) : st = S4 x := by
 unfold V4 at h
 split at h
 · cases h; rfl
 · cases h
abbrev Y4 := P.b97
def E4 (K : AExit → ASt → Option R) : Y4 → Option R := (fun x => K (.exit 0) (S4 x))
noncomputable def L4 : oz := fun st K => abx (V4 st) fun x => P.b7s x (E4 K)
noncomputable def D : Ctx := ({ P := Tryz.prog, G := [(114, abk.spec), (115, o9.spec), (116, zw.spec)], globs := GLO.gx, hints := [(4, ⟨[1, 2, 4, 5], [], [4], [], some (40, [0, 1]), [], []⟩)], loops := [(4, L4)], inl := [] } : Ctx)
theorem aks (K) (next) (x) : jo D (dz Tryz.f99 4) K next (S4 x) = P.b09 x (fun x => next (S4 x)) (E4 K) := by kernel_rfl
theorem aun : jl D (dz Tryz.f99 4) := gq S4 atw (by kernel_rfl) P.cdf aks
theorem loops : d9 (Tryz.f99.body.getD .skip) = [dz Tryz.f99 4] := by kernel_rfl
noncomputable def bn : Abs.Spec := fun args K => match args with
 | [.agg [.v (.int .i64 c), .arr .u64 25 a, .v (.int .i64 g), .v (.bool e)], .sl (.ints .u8 i)] => P.abe c a g e i (fun d b h f => K (.agg [.v (.int .i64 d), .arr .u64 25 b, .v (.int .i64 h), .v (.bool f)]))
 | _ => none
noncomputable def spec : Abs.Spec := fun args K => bn (og [.any, .sl (.ints .u8 [])] args) K
theorem ok0 : Proved Tryz.prog GLO.gx 99 bn := by
 refine dh (D := D) (fn := Tryz.f99) (c := Tryz.f99.body.getD .skip) [.any] (by kernel_rfl) (bf (by kernel_rfl)) (by kernel_rfl) (by kernel_rfl) (by kernel_rfl) ⟨abk.ok, o9.ok, zw.ok, trivial⟩ trivial ?_ ?_
 · rw [loops]; exact ⟨aun, trivial⟩
 · intro args K r h
   unfold bn at h
   split at h
   · rw [P.atf] at h; exact Eq.trans (by kernel_rfl) h
   · cases h
theorem ok : Proved Tryz.prog GLO.gx 99 spec := eu _ ok0
end abe

namespace anw
noncomputable def D : Ctx := ({ P := Tryz.prog, G := [(114, abk.spec)], globs := GLO.gx, hints := [], loops := [], inl := [] } : Ctx)
theorem loops : d9 (Tryz.f97.body.getD .skip) = [] := by kernel_rfl
noncomputable def bn : Abs.Spec := fun args K => match args with
 | [.v (.int .i64 e)] => P.anw e (fun b a d c f => K (.tuple [.agg [.v (.int .i64 b), .arr .u64 25 a, .v (.int .i64 d), .v (.bool c)], .v (.int .i64 f)]))
 | _ => none
noncomputable def spec : Abs.Spec := bn
theorem ok0 : Proved Tryz.prog GLO.gx 97 bn := by
 refine dh (D := D) (fn := Tryz.f97) (c := Tryz.f97.body.getD .skip) [.any, .any] (by kernel_rfl) (bf (by kernel_rfl)) (by kernel_rfl) (by kernel_rfl) (by kernel_rfl) ⟨abk.ok, trivial⟩ trivial ?_ ?_
 · rw [loops]; exact trivial
 · intro args K r h
   unfold bn at h
   split at h
   · rw [P.bax] at h; exact Eq.trans (by kernel_rfl) h
   · cases h
theorem ok : Proved Tryz.prog GLO.gx 97 spec := ok0
end anw

namespace aaj
abbrev X12 := P.bw6
def S12 : X12 → ASt := fun (j, k, i, a, b, c, d, e, f, g, h) => ⟨[(8, .own 40), (1, .v (.int .i64 j)), (2, .ptr 0 0), (4, .ptr 1 0), (6, .v (.int .i64 k))], [(40, some ⟨.row 5 (.ints .u8 i), false⟩), (0, some ⟨.box 109 [.v (.int .i64 a), .arr .u64 25 b, .v (.int .i64 c), .v (.bool d)], false⟩), (1, some ⟨.box 109 [.v (.int .i64 e), .arr .u64 25 f, .v (.int .i64 g), .v (.bool h)], false⟩)], 41, 73⟩
def V12 : ASt → Option X12
 | ⟨[(8, .own 40), (1, .v (.int .i64 j)), (2, .ptr 0 0), (4, .ptr 1 0), (6, .v (.int .i64 k))], [(40, some ⟨.row 5 (.ints .u8 i), false⟩), (0, some ⟨.box 109 [.v (.int .i64 a), .arr .u64 25 b, .v (.int .i64 c), .v (.bool d)], false⟩), (1, some ⟨.box 109 [.v (.int .i64 e), .arr .u64 25 f, .v (.int .i64 g), .v (.bool h)], false⟩)], 41, 73⟩ => some (j, k, i, a, b, c, d, e, f, g, h)
 | _ => none
theorem bgo (st) (x) (h : V12 st = some x) : st = S12 x := by
 unfold V12 at h
 split at h
 · cases h; rfl
 · cases h
abbrev Y12 := P.b8i
def E12 (K : AExit → ASt → Option R) : Y12 → Option R := (fun x => K (.exit 0) (S12 x))
noncomputable def L12 : oz := fun st K => abx (V12 st) fun x => P.b9n x (E12 K)
noncomputable def D : Ctx := ({ P := Tryz.prog, G := [(114, abk.spec), (115, o9.spec), (116, zw.spec)], globs := GLO.gx, hints := [(12, ⟨[1, 2, 4, 6], [(8, 5, .ints .u8 [])], [4, 5], [], some (40, [0, 1]), [], []⟩)], loops := [(12, L12)], inl := [] } : Ctx)
theorem axx (K) (next) (x) : jo D (dz Tryz.f98 12) K next (S12 x) = P.bwv x (fun x => next (S12 x)) (E12 K) := by kernel_rfl
theorem bga : jl D (dz Tryz.f98 12) := gq S12 bgo (by kernel_rfl) P.cd2 axx
theorem loops : d9 (Tryz.f98.body.getD .skip) = [dz Tryz.f98 12] := by kernel_rfl
noncomputable def bn : Abs.Spec := fun args K => match args with
 | [.agg [.v (.int .i64 c), .arr .u64 25 a, .v (.int .i64 g), .v (.bool e)], .v (.int .i64 i)] => P.aaj c a g e i (fun d b h f j => K (.tuple [.agg [.v (.int .i64 d), .arr .u64 25 b, .v (.int .i64 h), .v (.bool f)], .fr 5 (.ints .u8 j)]))
 | _ => none
noncomputable def spec : Abs.Spec := bn
theorem ok0 : Proved Tryz.prog GLO.gx 98 bn := by
 refine dh (D := D) (fn := Tryz.f98) (c := Tryz.f98.body.getD .skip) [.any, .fr 5 (.ints .u8 [])] (by kernel_rfl) (bf (by kernel_rfl)) (by kernel_rfl) (by kernel_rfl) (by kernel_rfl) ⟨abk.ok, o9.ok, zw.ok, trivial⟩ trivial ?_ ?_
 · rw [loops]; exact ⟨bga, trivial⟩
 · intro args K r h
   unfold bn at h
   split at h
   · rw [P.apv] at h; exact Eq.trans (by kernel_rfl) h
   · cases h
theorem ok : Proved Tryz.prog GLO.gx 98 spec := ok0
end aaj

namespace ai6
noncomputable def D : Ctx := ({ P := Tryz.prog, G := [(97, anw.spec), (98, aaj.spec), (99, abe.spec)], globs := GLO.gx, hints := [], loops := [], inl := [] } : Ctx)
theorem loops : d9 (Tryz.f69.body.getD .skip) = [] := by kernel_rfl
noncomputable def bn : Abs.Spec := fun args K => match args with
 | [.v (.int .i64 a), .sl (.ints .u8 b), .v (.int .i64 c)] => P.ai6 a b c (fun d e => K (.tuple [.fr 5 (.ints .u8 d), .v (.int .i64 e)]))
 | _ => none
noncomputable def spec : Abs.Spec := fun args K => bn (og [.any, .sl (.ints .u8 []), .any] args) K
theorem ok0 : Proved Tryz.prog GLO.gx 69 bn := by
 refine dh (D := D) (fn := Tryz.f69) (c := Tryz.f69.body.getD .skip) [.fr 5 (.ints .u8 []), .any] (by kernel_rfl) (bf (by kernel_rfl)) (by kernel_rfl) (by kernel_rfl) (by kernel_rfl) ⟨anw.ok, aaj.ok, abe.ok, trivial⟩ trivial ?_ ?_
 · rw [loops]; exact trivial
 · intro args K r h
   unfold bn at h
   split at h
   · rw [P.bcd] at h; exact Eq.trans (by kernel_rfl) h
   · cases h
theorem ok : Proved Tryz.prog GLO.gx 69 spec := eu _ ok0
end ai6

end
