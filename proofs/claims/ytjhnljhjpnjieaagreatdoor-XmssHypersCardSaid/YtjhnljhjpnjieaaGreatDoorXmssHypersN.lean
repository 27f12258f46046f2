/-
  XmssHypers, part 14: an interpreter of my own over abstract values, the pure functions, the walks and the plain law.
-/

import Derived.Test.YtjhnljhjpnjieaaGreatDoorXmssHypersH
import Derived.Test.YtjhnljhjpnjieaaGreatDoorXmssHypersG
import Derived.Test.YtjhnljhjpnjieaaGreatDoorProg
import Derived.Test.YtjhnljhjpnjieaaGreatDoorXmssHypersM
import Derived.KernelRfl
import Derived.Test.YtjhnljhjpnjieaaGreatDoorXmssHypersL
import Derived.Test.YtjhnljhjpnjieaaGreatDoorXmssHypersK

section
open Go Go.Abs Go.Proofs
set_option maxRecDepth 100000
set_option maxHeartbeats 0
set_option linter.unusedVariables false

namespace j5
noncomputable def D : Ctx := ({ P := Tryz.prog, G := [(156, pq.spec), (164, dx.spec)], globs := GLO.gx, hints := [], loops := [], inl := [] } : Ctx)
theorem loops : d9 (Tryz.f161.body.getD .skip) = [] := by kernel_rfl
noncomputable def bn : Abs.Spec := fun args K => match args with
 | [.agg [.v (.int .i64 f), .v (.int .i64 e), .arr .i64 3 a, .arr .i64 3 b, .arr .i64 3 c, .arr .i64 3 d, .fn (.func 156) [] []], .v (.int .u64 g), .v (.int .i64 h)] => P.j5 f e a b c d g h (fun i => K (.v (.int .u64 i)))
 | _ => none
noncomputable def spec : Abs.Spec := bn
theorem ok0 : Proved Tryz.prog GLO.gx 161 bn := by
 refine dh (D := D) (fn := Tryz.f161) (c := Tryz.f161.body.getD .skip) [.any] (by kernel_rfl) (bf (by kernel_rfl)) (by kernel_rfl) (by kernel_rfl) (by kernel_rfl) ⟨pq.ok, dx.ok, trivial⟩ trivial ?_ ?_
 · rw [loops]; exact trivial
 · intro args K r h
   unfold bn at h
   split at h
   · rw [P.aaz] at h; exact Eq.trans (by kernel_rfl) h
   · cases h
theorem ok : Proved Tryz.prog GLO.gx 161 spec := ok0
end j5

namespace lu
noncomputable def D : Ctx := ({ P := Tryz.prog, G := [(156, pq.spec), (164, dx.spec)], globs := GLO.gx, hints := [], loops := [], inl := [] } : Ctx)
theorem loops : d9 (Tryz.f162.body.getD .skip) = [] := by kernel_rfl
noncomputable def bn : Abs.Spec := fun args K => match args with
 | [.agg [.v (.int .i64 f), .v (.int .i64 e), .arr .i64 3 a, .arr .i64 3 b, .arr .i64 3 c, .arr .i64 3 d, .fn (.func 156) [] []], .v (.int .u64 g), .v (.int .i64 h)] => P.lu f e a b c d g h (fun i => K (.v (.int .u64 i)))
 | _ => none
noncomputable def spec : Abs.Spec := bn
theorem ok0 : Proved Tryz.prog GLO.gx 162 bn := by
 refine dh (D := D) (fn := Tryz.f162) (c := Tryz.f162.body.getD .skip) [.any] (by kernel_rfl) (bf (by kernel_rfl)) (by kernel_rfl) (by kernel_rfl) (by kernel_rfl) ⟨pq.ok, dx.ok, trivial⟩ trivial ?_ ?_
 · rw [loops]; exact trivial
 · intro args K r h
   unfold bn at h
   split at h
   · rw [P.abg] at h; exact Eq.trans (by kernel_rfl) h
   · cases h
theorem ok : Proved Tryz.prog GLO.gx 162 spec := ok0
end lu

namespace mh
abbrev X4 := P.byd
def S4 : X4 → ASt := fun (k, l, j, a, b, c, d, e, f, g, h, i) => ⟨[(2, .sl (.ints .u8 k)), (3, .ptr 0 0), (4, .ptr 1 0), (6, .ptr 2 0), (7, .ptr 3 0), (8, .v (.int .i64 l)), (19, .v (.int .i64 j))], [(0, some ⟨.box 164 [.v (.int .i64 a), .v (.int .i64 b), .arr .i64 3 c, .arr .i64 3 d, .arr .i64 3 e, .arr .i64 3 f, .fn (.func 156) [] []], false⟩), (1, some ⟨.box 115 [.arr .u64 8 g], false⟩), (2, some ⟨.box 115 [.arr .u64 8 h], false⟩), (3, some ⟨.box 181 [.arr .u64 16 i], false⟩)], 4, 142⟩
def V4 : ASt → Option X4
 | ⟨[(2, .sl (.ints .u8 k)), (3, .ptr 0 0), (4, .ptr 1 0), (6, .ptr 2 0), (7, .ptr 3 0), (8, .v (.int .i64 l)), (19, .v (.int .i64 j))], [(0, some ⟨.box 164 [.v (.int .i64 a), .v (.int .i64 b), .arr .i64 3 c, .arr .i64 3 d, .arr .i64 3 e, .arr .i64 3 f, .fn (.func 156) [] []], false⟩), (1, some ⟨.box 115 [.arr .u64 8 g], false⟩), (2, some ⟨.box 115 [.arr .u64 8 h], false⟩), (3, some ⟨.box 181 [.arr .u64 16 i], false⟩)], 4, 142⟩ => some (k, l, j, a, b, c, d, e, f, g, h, i)
 | _ => none
theorem atw (st) (x) (h : V4 st = some x) : st = S4 x := by
 unfold V4 at h
 split at h
 · cases h; rfl
 · cases h
abbrev Y4 := P.b5t
abbrev X10 := P.bwx
def S10 : X10 → ASt := fun (k, l, a, b, c, d, e, f, g, h, i, j) => ⟨[(3, .ptr 0 0), (4, .ptr 1 0), (6, .ptr 2 0), (7, .ptr 3 0), (10, .ptr 4 0), (37, .v (.int .i64 k)), (38, .v (.int .i64 l))], [(3, some ⟨.box 181 [.arr .u64 16 a], false⟩), (2, some ⟨.box 115 [.arr .u64 8 b], false⟩), (1, some ⟨.box 115 [.arr .u64 8 c], false⟩), (0, some ⟨.box 164 [.v (.int .i64 d), .v (.int .i64 e), .arr .i64 3 f, .arr .i64 3 g, .arr .i64 3 h, .arr .i64 3 i, .fn (.func 156) [] []], false⟩), (4, some ⟨.box 115 [.arr .u64 8 j], false⟩)], 5, 142⟩
def V10 : ASt → Option X10
 | ⟨[(3, .ptr 0 0), (4, .ptr 1 0), (6, .ptr 2 0), (7, .ptr 3 0), (10, .ptr 4 0), (37, .v (.int .i64 k)), (38, .v (.int .i64 l))], [(3, some ⟨.box 181 [.arr .u64 16 a], false⟩), (2, some ⟨.box 115 [.arr .u64 8 b], false⟩), (1, some ⟨.box 115 [.arr .u64 8 c], false⟩), (0, some ⟨.box 164 [.v (.int .i64 d), .v (.int .i64 e), .arr .i64 3 f, .arr .i64 3 g, .arr .i64 3 h, .arr .i64 3 i, .fn (.func 156) [] []], false⟩), (4, some ⟨.box 115 [.arr .u64 8 j], false⟩)], 5, 142⟩ => some (k, l, a, b, c, d, e, f, g, h, i, j)
 | _ => none
theorem bf5 (st) (x) (h : V10 st = some x) : st = S10 x := by
 unfold V10 at h
 split at h
 · cases h; rfl
 · cases h
abbrev Y10 := P.cbs
abbrev X21 := P.bvl
def S21 : X21 → ASt := fun (a, b, c, d) => ⟨[(4, .ptr 1 0), (6, .ptr 2 0), (10, .ptr 4 0), (129, .v (.int .i64 a))], [(1, some ⟨.box 115 [.arr .u64 8 b], false⟩), (2, some ⟨.box 115 [.arr .u64 8 c], false⟩), (4, some ⟨.box 115 [.arr .u64 8 d], false⟩)], 120, 142⟩
def V21 : ASt → Option X21
 | ⟨[(4, .ptr 1 0), (6, .ptr 2 0), (10, .ptr 4 0), (129, .v (.int .i64 a))], [(1, some ⟨.box 115 [.arr .u64 8 b], false⟩), (2, some ⟨.box 115 [.arr .u64 8 c], false⟩), (4, some ⟨.box 115 [.arr .u64 8 d], false⟩)], 120, 142⟩ => some (a, b, c, d)
 | _ => none
theorem bm0 (st) (x) (h : V21 st = some x) : st = S21 x := by
 unfold V21 at h
 split at h
 · cases h; rfl
 · cases h
abbrev Y21 := P.b6b
def E4 (K : AExit → ASt → Option R) : Y4 → Option R := (fun x => K (.exit 0) (S4 x))
noncomputable def L4 : oz := fun st K => abx (V4 st) fun x => P.b51 x (E4 K)
def E10 (K : AExit → ASt → Option R) : Y10 → Option R := (fun x => K (.exit 2) (S10 x))
noncomputable def L10 : oz := fun st K => abx (V10 st) fun x => P.b5z x (E10 K)
def E21 (K : AExit → ASt → Option R) : Y21 → Option R := (fun x => K (.exit 4) (S21 x))
noncomputable def L21 : oz := fun st K => abx (V21 st) fun x => P.b8z x (E21 K)
noncomputable def D : Ctx := ({ P := Tryz.prog, G := [(106, zf.spec), (156, pq.spec), (161, j5.spec), (162, lu.spec)], globs := GLO.gx, hints := [(21, ⟨[4, 6, 10, 129], [], [6], [], some (120, [1, 2, 4]), [], []⟩), (10, ⟨[3, 4, 6, 7, 10, 37, 38], [], [6], [], none, [], []⟩), (4, ⟨[2, 3, 4, 6, 7, 8, 19], [], [6], [], none, [], []⟩)], loops := [(4, L4), (10, L10), (21, L21)], inl := [] } : Ctx)
theorem aks (K) (next) (x) : jo D (dz Tryz.f155 4) K next (S4 x) = P.bxo x (fun x => next (S4 x)) (E4 K) := by kernel_rfl
theorem aun : jl D (dz Tryz.f155 4) := gq S4 atw (by kernel_rfl) P.ccs aks
theorem ax8 (K) (next) (x) : jo D (dz Tryz.f155 10) K next (S10 x) = P.bzx x (fun x => next (S10 x)) (E10 K) := by kernel_rfl
theorem bfw : jl D (dz Tryz.f155 10) := gq S10 bf5 (by kernel_rfl) P.cca ax8
theorem bh0 (K) (next) (x) : jo D (dz Tryz.f155 21) K next (S21 x) = P.bwm x (fun x => next (S21 x)) (E21 K) := by kernel_rfl
theorem bnp : jl D (dz Tryz.f155 21) := gq S21 bm0 (by kernel_rfl) P.cco bh0
theorem loops : d9 (Tryz.f155.body.getD .skip) = [dz Tryz.f155 4, dz Tryz.f155 10, dz Tryz.f155 21] := by kernel_rfl
noncomputable def bn : Abs.Spec := fun args K => match args with
 | [.agg [.v (.int .i64 f), .v (.int .i64 e), .arr .i64 3 a, .arr .i64 3 b, .arr .i64 3 c, .arr .i64 3 d, .fn (.func 156) [] []], .arr .u64 8 g, .sl (.ints .u8 h)] => P.mh f e a b c d g h (fun i => K (.arr .u64 8 i))
 | _ => none
noncomputable def spec : Abs.Spec := fun args K => bn (og [.any, .any, .sl (.ints .u8 [])] args) K
theorem ok0 : Proved Tryz.prog GLO.gx 155 bn := by
 refine dh (D := D) (fn := Tryz.f155) (c := Tryz.f155.body.getD .skip) [.any] (by kernel_rfl) (bf (by kernel_rfl)) (by kernel_rfl) (by kernel_rfl) (by kernel_rfl) ⟨zf.ok, pq.ok, j5.ok, lu.ok, trivial⟩ trivial ?_ ?_
 · rw [loops]; exact ⟨aun, bfw, bnp, trivial⟩
 · intro args K r h
   unfold bn at h
   split at h
   · rw [P.ad1] at h; exact Eq.trans (by kernel_rfl) h
   · cases h
theorem ok : Proved Tryz.prog GLO.gx 155 spec := eu _ ok0
end mh

namespace ql
abbrev X3 := P.by0
def S3 : X3 → ASt := fun (l, j, k, a, b, c, d, e, f, g, h, i) => ⟨[(2, .sl (.ints .u8 l)), (3, .ptr 0 0), (4, .ptr 1 0), (6, .ptr 2 0), (8, .ptr 3 0), (14, .arr .u64 8 j), (15, .v (.int .i64 k))], [(0, some ⟨.box 164 [.v (.int .i64 a), .v (.int .i64 b), .arr .i64 3 c, .arr .i64 3 d, .arr .i64 3 e, .arr .i64 3 f, .fn (.func 156) [] []], false⟩), (1, some ⟨.box 115 [.arr .u64 8 g], false⟩), (2, some ⟨.box 115 [.arr .u64 8 h], false⟩), (3, some ⟨.box 115 [.arr .u64 8 i], false⟩)], 4, 50⟩
def V3 : ASt → Option X3
 | ⟨[(2, .sl (.ints .u8 l)), (3, .ptr 0 0), (4, .ptr 1 0), (6, .ptr 2 0), (8, .ptr 3 0), (14, .arr .u64 8 j), (15, .v (.int .i64 k))], [(0, some ⟨.box 164 [.v (.int .i64 a), .v (.int .i64 b), .arr .i64 3 c, .arr .i64 3 d, .arr .i64 3 e, .arr .i64 3 f, .fn (.func 156) [] []], false⟩), (1, some ⟨.box 115 [.arr .u64 8 g], false⟩), (2, some ⟨.box 115 [.arr .u64 8 h], false⟩), (3, some ⟨.box 115 [.arr .u64 8 i], false⟩)], 4, 50⟩ => some (l, j, k, a, b, c, d, e, f, g, h, i)
 | _ => none
theorem aq4 (st) (x) (h : V3 st = some x) : st = S3 x := by
 unfold V3 at h
 split at h
 · cases h; rfl
 · cases h
abbrev Y3 := P.b9p
abbrev X8 := P.bvh
def S8 : X8 → ASt := fun (k, j, a, b, c, d, e, f, g, h, i) => ⟨[(2, .sl (.ints .u8 k)), (3, .ptr 0 0), (4, .ptr 1 0), (6, .ptr 2 0), (8, .ptr 3 0), (11, .v (.int .i64 j))], [(3, some ⟨.box 115 [.arr .u64 8 a], false⟩), (2, some ⟨.box 115 [.arr .u64 8 b], false⟩), (1, some ⟨.box 115 [.arr .u64 8 c], false⟩), (0, some ⟨.box 164 [.v (.int .i64 d), .v (.int .i64 e), .arr .i64 3 f, .arr .i64 3 g, .arr .i64 3 h, .arr .i64 3 i, .fn (.func 156) [] []], false⟩)], 4, 50⟩
def V8 : ASt → Option X8
 | ⟨[(2, .sl (.ints .u8 k)), (3, .ptr 0 0), (4, .ptr 1 0), (6, .ptr 2 0), (8, .ptr 3 0), (11, .v (.int .i64 j))], [(3, some ⟨.box 115 [.arr .u64 8 a], false⟩), (2, some ⟨.box 115 [.arr .u64 8 b], false⟩), (1, some ⟨.box 115 [.arr .u64 8 c], false⟩), (0, some ⟨.box 164 [.v (.int .i64 d), .v (.int .i64 e), .arr .i64 3 f, .arr .i64 3 g, .arr .i64 3 h, .arr .i64 3 i, .fn (.func 156) [] []], false⟩)], 4, 50⟩ => some (k, j, a, b, c, d, e, f, g, h, i)
 | _ => none
theorem bht (st) (x) (h : V8 st = some x) : st = S8 x := by
 unfold V8 at h
 split at h
 · cases h; rfl
 · cases h
abbrev Y8 := P.b70
abbrev X12 := P.b0d
def S12 : X12 → ASt := fun (e, c, d, a, b) => ⟨[(2, .sl (.ints .u8 e)), (4, .ptr 1 0), (6, .ptr 2 0), (39, .arr .u64 8 c), (40, .v (.int .i64 d))], [(1, some ⟨.box 115 [.arr .u64 8 a], false⟩), (2, some ⟨.box 115 [.arr .u64 8 b], false⟩)], 120, 50⟩
def V12 : ASt → Option X12
 | ⟨[(2, .sl (.ints .u8 e)), (4, .ptr 1 0), (6, .ptr 2 0), (39, .arr .u64 8 c), (40, .v (.int .i64 d))], [(1, some ⟨.box 115 [.arr .u64 8 a], false⟩), (2, some ⟨.box 115 [.arr .u64 8 b], false⟩)], 120, 50⟩ => some (e, c, d, a, b)
 | _ => none
theorem bgo (st) (x) (h : V12 st = some x) : st = S12 x := by
 unfold V12 at h
 split at h
 · cases h; rfl
 · cases h
abbrev Y12 := P.b74
def E3 (K : AExit → ASt → Option R) : Y3 → Option R := (fun x => K (.exit 0) (S3 x))
noncomputable def L3 : oz := fun st K => abx (V3 st) fun x => P.ca3 x (E3 K)
def E8 (K : AExit → ASt → Option R) : Y8 → Option R := (fun x => K (.exit 2) (S8 x))
noncomputable def L8 : oz := fun st K => abx (V8 st) fun x => P.caz x (E8 K)
def E12 (K : AExit → ASt → Option R) : Y12 → Option R := (fun x => K (.exit 4) (S12 x))
noncomputable def L12 : oz := fun st K => abx (V12 st) fun x => P.b6u x (E12 K)
noncomputable def D : Ctx := ({ P := Tryz.prog, G := [(155, mh.spec), (156, pq.spec)], globs := GLO.gx, hints := [(12, ⟨[2, 4, 6, 39, 40], [], [6, 7], [], some (120, [1, 2]), [], []⟩), (8, ⟨[2, 3, 4, 6, 8, 11], [], [6, 7], [(2, .sl (.ints .u8 []))], none, [], []⟩), (3, ⟨[2, 3, 4, 6, 8, 14, 15], [], [6, 7], [], none, [], []⟩)], loops := [(3, L3), (8, L8), (12, L12)], inl := [] } : Ctx)
theorem ais (K) (next) (x) : jo D (dz Tryz.f146 3) K next (S3 x) = P.b07 x (fun x => next (S3 x)) (E3 K) := by kernel_rfl
theorem aqb : jl D (dz Tryz.f146 3) := gq S3 aq4 (by kernel_rfl) P.cds ais
theorem azu (K) (next) (x) : jo D (dz Tryz.f146 8) K next (S8 x) = P.bz6 x (fun x => next (S8 x)) (E8 K) := by kernel_rfl
theorem bhr : jl D (dz Tryz.f146 8) := gq S8 bht (by kernel_rfl) P.cb1 azu
theorem axx (K) (next) (x) : jo D (dz Tryz.f146 12) K next (S12 x) = P.b0w x (fun x => next (S12 x)) (E12 K) := by kernel_rfl
theorem bga : jl D (dz Tryz.f146 12) := gq S12 bgo (by kernel_rfl) P.cb0 axx
theorem loops : d9 (Tryz.f146.body.getD .skip) = [dz Tryz.f146 3, dz Tryz.f146 8, dz Tryz.f146 12] := by kernel_rfl
noncomputable def bn : Abs.Spec := fun args K => match args with
 | [.agg [.v (.int .i64 f), .v (.int .i64 e), .arr .i64 3 a, .arr .i64 3 b, .arr .i64 3 c, .arr .i64 3 d, .fn (.func 156) [] []], .arr .u64 8 g, .sl (.ints .u8 h)] => P.ql f e a b c d g h (fun i j => K (.tuple [.arr .u64 8 i, .sl (.ints .u8 j)]))
 | _ => none
noncomputable def spec : Abs.Spec := fun args K => bn (og [.any, .any, .sl (.ints .u8 [])] args) K
theorem ok0 : Proved Tryz.prog GLO.gx 146 bn := by
 refine dh (D := D) (fn := Tryz.f146) (c := Tryz.f146.body.getD .skip) [.any, .sl (.ints .u8 [])] (by kernel_rfl) (bf (by kernel_rfl)) (by kernel_rfl) (by kernel_rfl) (by kernel_rfl) ⟨mh.ok, pq.ok, trivial⟩ trivial ?_ ?_
 · rw [loops]; exact ⟨aqb, bhr, bga, trivial⟩
 · intro args K r h
   unfold bn at h
   split at h
   · rw [P.ag0] at h; exact Eq.trans (by kernel_rfl) h
   · cases h
theorem ok : Proved Tryz.prog GLO.gx 146 spec := eu _ ok0
end ql

namespace qg
noncomputable def D : Ctx := { P := Tryz.prog, G := [], globs := GLO.gx, hints := [], loops := [] }
noncomputable def c : Code := Tryz.f148.body.getD .skip
noncomputable def o0 : Oper := (bjd (sq1 c)).getD 0 bjs
noncomputable def o1 : Oper := (bjd (sq1 (sq1 (sq2 c)))).getD 0 bjs
noncomputable def o2 : Oper := (bjd (sq1 (sq1 (sq2 c)))).getD 1 bjs
noncomputable def X : Code := b50 (sq2 (sq1 (sq2 c)))
noncomputable def rest : Code := sq2 (sq2 c)
noncomputable def ox : Oper := (bjd (sq1 X)).getD 0 bjs
theorem bse (a : List Int) : aex D rest ⟨[(0, .sl (.ints .u8 a)), (2, .v (.slice none 0 0))], [], 0, Tryz.f148.ntmps⟩ (cd9 D [.fr 5 (.ints .u8 a)] Tryz.f148) = br (decide ((0 + a.length) * 1 ≤ 140737488355328)) (some (.fr 5 (.ints .u8 a))) none := by kernel_rfl
noncomputable def bn : Abs.Spec := fun args K => match args with
  | [.sl (.ints .u8 a)] => P.qg a (fun a => K (.fr 5 (.ints .u8 a)))
  | _ => none
theorem bth : Tryz.f148.body = some (.seq (.region 0 #[o0] false) (.seq (.seq (.region 1 #[o1, o2] false) (.cond (.tmp 4) X .skip)) rest)) := by kernel_rfl
theorem ok0 : Proved Tryz.prog GLO.gx 148 bn := by
  refine ⟨⟨Tryz.f148, by kernel_rfl, by kernel_rfl, by kernel_rfl⟩, fun args K r h => ?_⟩
  unfold bn at h
  split at h
  · rename_i a
    unfold P.qg at h
    obtain ⟨hp, hK⟩ := pre_some h
    refine ⟨_, hK, bph (D := D) (fn := Tryz.f148) (t := 26) (e := 5) trivial (bf (by kernel_rfl)) trivial (by kernel_rfl) (by kernel_rfl) bth ⟨by kernel_rfl, by kernel_rfl, by kernel_rfl⟩ ⟨by kernel_rfl, by kernel_rfl, by kernel_rfl⟩ ⟨by kernel_rfl, by kernel_rfl, by kernel_rfl⟩ (by kernel_rfl) (by decide +kernel) (by kernel_rfl) (by kernel_rfl) ⟨2, ox, by kernel_rfl, by kernel_rfl, by kernel_rfl, by kernel_rfl⟩ (by kernel_rfl) rfl rfl rfl ?_⟩
    rw [bse, bg (by omega)]
  · cases h
noncomputable def spec : Abs.Spec := fun args K => bn (og [.sl (.ints .u8 [])] args) K
theorem ok : Proved Tryz.prog GLO.gx 148 spec := eu _ ok0
end qg

namespace aak
noncomputable def D : Ctx := ({ P := Tryz.prog, G := [(113, jq.spec), (144, qj.spec), (145, acs.spec), (146, ql.spec), (147, acv.spec), (148, qg.spec)], globs := GLO.gx, hints := [], loops := [], inl := [] } : Ctx)
theorem loops : d9 (Tryz.f128.body.getD .skip) = [] := by kernel_rfl
noncomputable def bn : Abs.Spec := fun args K => match args with
 | [.agg [.v (.int .i64 c), .arr .u64 8 a, .sl (.ints .u8 d), .v (.int .u64 e)], .sl (.ints .u8 i)] => P.aak c a d e i (fun f b g h => K (.agg [.v (.int .i64 f), .arr .u64 8 b, .fr 5 (.ints .u8 g), .v (.int .u64 h)]))
 | _ => none
noncomputable def spec : Abs.Spec := fun args K => bn (og [.agg [.any, .any, .sl (.ints .u8 []), .any], .sl (.ints .u8 [])] args) K
theorem ok0 : Proved Tryz.prog GLO.gx 128 bn := by
 refine dh (D := D) (fn := Tryz.f128) (c := Tryz.f128.body.getD .skip) [.agg [.any, .any, .fr 5 (.ints .u8 []), .any]] (by kernel_rfl) (bf (by kernel_rfl)) (by kernel_rfl) (by kernel_rfl) (by kernel_rfl) ⟨jq.ok, qj.ok, acs.ok, ql.ok, acv.ok, qg.ok, trivial⟩ trivial ?_ ?_
 · rw [loops]; exact trivial
 · intro args K r h
   unfold bn at h
   split at h
   · rw [P.bcw] at h; exact Eq.trans (by kernel_rfl) h
   · cases h
theorem ok : Proved Tryz.prog GLO.gx 128 spec := eu _ ok0
end aak

namespace afh
noncomputable def D : Ctx := ({ P := Tryz.prog, G := [], globs := GLO.gx, hints := [], loops := [], inl := [] } : Ctx)
theorem loops : d9 (Tryz.f152.body.getD .skip) = [] := by kernel_rfl
noncomputable def bn : Abs.Spec := fun args K => match args with
 | [.v (.int .i64 a)] => P.afh a (fun b c => K (.tuple [.arr .u64 8 b, .v (.bool c)]))
 | _ => none
noncomputable def spec : Abs.Spec := bn
theorem ok0 : Proved Tryz.prog GLO.gx 152 bn := by
 refine dh (D := D) (fn := Tryz.f152) (c := Tryz.f152.body.getD .skip) [.any, .any] (by kernel_rfl) (bf (by kernel_rfl)) (by kernel_rfl) (by kernel_rfl) (by kernel_rfl) trivial trivial ?_ ?_
 · rw [loops]; exact trivial
 · intro args K r h
   unfold bn at h
   split at h
   · rw [P.avh] at h; exact Eq.trans (by kernel_rfl) h
   · cases h
theorem ok : Proved Tryz.prog GLO.gx 152 spec := ok0
end afh

namespace aiv
noncomputable def D : Ctx := ({ P := Tryz.prog, G := [(152, afh.spec)], globs := GLO.gx, hints := [], loops := [], inl := [] } : Ctx)
theorem loops : d9 (Tryz.f142.body.getD .skip) = [] := by kernel_rfl
noncomputable def bn : Abs.Spec := fun args K => match args with
 | [.v (.int .i64 e)] => P.aiv e (fun b a c d f => K (.tuple [.agg [.v (.int .i64 b), .arr .u64 8 a, .fr 5 (.ints .u8 c), .v (.int .u64 d)], .v (.int .i64 f)]))
 | _ => none
noncomputable def spec : Abs.Spec := bn
theorem ok0 : Proved Tryz.prog GLO.gx 142 bn := by
 refine dh (D := D) (fn := Tryz.f142) (c := Tryz.f142.body.getD .skip) [.agg [.any, .any, .fr 5 (.ints .u8 []), .any], .any] (by kernel_rfl) (bf (by kernel_rfl)) (by kernel_rfl) (by kernel_rfl) (by kernel_rfl) ⟨afh.ok, trivial⟩ trivial ?_ ?_
 · rw [loops]; exact trivial
 · intro args K r h
   unfold bn at h
   split at h
   · rw [P.bbm] at h; exact Eq.trans (by kernel_rfl) h
   · cases h
theorem ok : Proved Tryz.prog GLO.gx 142 spec := ok0
end aiv

namespace xg
noncomputable def D : Ctx := ({ P := Tryz.prog, G := [(94, l5.spec), (128, aak.spec), (142, aiv.spec)], globs := GLO.gx, hints := [], loops := [], inl := [] } : Ctx)
theorem loops : d9 (Tryz.f125.body.getD .skip) = [] := by kernel_rfl
noncomputable def bn : Abs.Spec := fun args K => match args with
 | [.v (.int .i64 e), .v (.int .i64 f), .sl (.ints .u8 g)] => P.xg e f g (fun b a c d => K (.agg [.v (.int .i64 b), .arr .u64 8 a, .fr 5 (.ints .u8 c), .v (.int .u64 d)]))
 | _ => none
noncomputable def spec : Abs.Spec := fun args K => bn (og [.any, .any, .sl (.ints .u8 [])] args) K
theorem ok0 : Proved Tryz.prog GLO.gx 125 bn := by
 refine dh (D := D) (fn := Tryz.f125) (c := Tryz.f125.body.getD .skip) [.agg [.any, .any, .fr 5 (.ints .u8 []), .any]] (by kernel_rfl) (bf (by kernel_rfl)) (by kernel_rfl) (by kernel_rfl) (by kernel_rfl) ⟨l5.ok, aak.ok, aiv.ok, trivial⟩ trivial ?_ ?_
 · rw [loops]; exact trivial
 · intro args K r h
   unfold bn at h
   split at h
   · rw [P.ap6] at h; exact Eq.trans (by kernel_rfl) h
   · cases h
theorem ok : Proved Tryz.prog GLO.gx 125 spec := eu _ ok0
end xg

namespace vg
noncomputable def D : Ctx := ({ P := Tryz.prog, G := [], globs := GLO.gx, hints := [], loops := [], inl := [] } : Ctx)
theorem loops : d9 (Tryz.f143.body.getD .skip) = [] := by kernel_rfl
noncomputable def bn : Abs.Spec := fun args K => match args with
 | [.v (.int .i64 a)] => P.vg a (fun b => K (.v (.int .i64 b)))
 | _ => none
noncomputable def spec : Abs.Spec := bn
theorem ok0 : Proved Tryz.prog GLO.gx 143 bn := by
 refine dh (D := D) (fn := Tryz.f143) (c := Tryz.f143.body.getD .skip) [.any] (by kernel_rfl) (bf (by kernel_rfl)) (by kernel_rfl) (by kernel_rfl) (by kernel_rfl) trivial trivial ?_ ?_
 · rw [loops]; exact trivial
 · intro args K r h
   unfold bn at h
   split at h
   · rw [P.amj] at h; exact Eq.trans (by kernel_rfl) h
   · cases h
theorem ok : Proved Tryz.prog GLO.gx 143 spec := ok0
end vg

namespace ae0
abbrev X10 := P.bv5
def S10 : X10 → ASt := fun (g, d, e, f, a, b, c, h) => ⟨[(7, .own 40), (1, .ptr 0 0), (3, .v (.int .i64 g)), (45, .arr .u64 8 d), (46, .v (.int .i64 e))], [(40, some ⟨.row 5 (.ints .u8 f), false⟩), (0, some ⟨.box 117 [.v (.int .i64 a), .arr .u64 8 b, .own 5, .v (.int .u64 c)], false⟩), (5, some ⟨.row 5 (.ints .u8 h), false⟩)], 41, 62⟩
def V10 : ASt → Option X10
 | ⟨[(7, .own 40), (1, .ptr 0 0), (3, .v (.int .i64 g)), (45, .arr .u64 8 d), (46, .v (.int .i64 e))], [(40, some ⟨.row 5 (.ints .u8 f), false⟩), (0, some ⟨.box 117 [.v (.int .i64 a), .arr .u64 8 b, .own 5, .v (.int .u64 c)], false⟩), (5, some ⟨.row 5 (.ints .u8 h), false⟩)], 41, 62⟩ => some (g, d, e, f, a, b, c, h)
 | _ => none
theorem bf5 (st) (x) (h : V10 st = some x) : st = S10 x := by
 unfold V10 at h
 split at h
 · cases h; rfl
 · cases h
abbrev Y10 := P.cao
def E10 (K : AExit → ASt → Option R) : Y10 → Option R := (fun x => K (.exit 0) (S10 x))
noncomputable def L10 : oz := fun st K => abx (V10 st) fun x => P.b9j x (E10 K)
noncomputable def D : Ctx := ({ P := Tryz.prog, G := [(108, yg.spec), (128, aak.spec), (143, vg.spec)], globs := GLO.gx, hints := [(10, ⟨[1, 3, 45, 46], [(7, 5, .ints .u8 [])], [2], [], some (40, [0, 5]), [], []⟩)], loops := [(10, L10)], inl := [] } : Ctx)
theorem ax8 (K) (next) (x) : jo D (dz Tryz.f127 10) K next (S10 x) = P.bxc x (fun x => next (S10 x)) (E10 K) := by kernel_rfl
theorem bfw : jl D (dz Tryz.f127 10) := gq S10 bf5 (by kernel_rfl) P.cd1 ax8
theorem loops : d9 (Tryz.f127.body.getD .skip) = [dz Tryz.f127 10] := by kernel_rfl
noncomputable def bn : Abs.Spec := fun args K => match args with
 | [.agg [.v (.int .i64 b), .arr .u64 8 a, .sl (.ints .u8 c), .v (.int .u64 d)]] => P.ae0 b a c d (fun e => K (.fr 5 (.ints .u8 e)))
 | _ => none
noncomputable def spec : Abs.Spec := fun args K => bn (og [.agg [.any, .any, .sl (.ints .u8 []), .any]] args) K
theorem ok0 : Proved Tryz.prog GLO.gx 127 bn := by
 refine aup (D := D) (fn := Tryz.f127) (c := Tryz.f127.body.getD .skip) 5 (.ints .u8 []) (by kernel_rfl) (bf (by kernel_rfl)) (by kernel_rfl) (by kernel_rfl) (by kernel_rfl) ⟨yg.ok, aak.ok, vg.ok, trivial⟩ trivial ?_ ?_
 · rw [loops]; exact ⟨bfw, trivial⟩
 · intro args K r h
   unfold bn at h
   split at h
   · rw [P.bas] at h; exact Eq.trans (by kernel_rfl) h
   · cases h
theorem ok : Proved Tryz.prog GLO.gx 127 spec := eu _ ok0
end ae0

namespace xq
noncomputable def D : Ctx := ({ P := Tryz.prog, G := [(94, l5.spec)], globs := GLO.gx, hints := [], loops := [], inl := [] } : Ctx)
theorem loops : d9 (Tryz.f129.body.getD .skip) = [] := by kernel_rfl
noncomputable def bn : Abs.Spec := fun args K => match args with
 | [.arr .u8 32 a] => P.xq a (fun b => K (.fr 5 (.ints .u8 b)))
 | _ => none
noncomputable def spec : Abs.Spec := bn
theorem ok0 : Proved Tryz.prog GLO.gx 129 bn := by
 refine dh (D := D) (fn := Tryz.f129) (c := Tryz.f129.body.getD .skip) [.fr 5 (.ints .u8 [])] (by kernel_rfl) (bf (by kernel_rfl)) (by kernel_rfl) (by kernel_rfl) (by kernel_rfl) ⟨l5.ok, trivial⟩ trivial ?_ ?_
 · rw [loops]; exact trivial
 · intro args K r h
   unfold bn at h
   split at h
   · rw [P.as1] at h; exact Eq.trans (by kernel_rfl) h
   · cases h
theorem ok : Proved Tryz.prog GLO.gx 129 spec := ok0
end xq

namespace je
noncomputable def D : Ctx := ({ P := Tryz.prog, G := [(94, l5.spec), (127, ae0.spec), (128, aak.spec), (129, xq.spec)], globs := GLO.gx, hints := [], loops := [], inl := [] } : Ctx)
theorem loops : d9 (Tryz.f126.body.getD .skip) = [] := by kernel_rfl
noncomputable def bn : Abs.Spec := fun args K => match args with
 | [.arr .u8 32 i, .sl (.ints .u8 j), .sta [.v (.int .i64 c), .arr .u64 8 a, .sl (.ints .u8 d), .v (.int .u64 e)], .sta [.v (.int .i64 k)], .sta [.v (.int .i64 f), .arr .u64 8 b, .sl (.ints .u8 g), .v (.int .u64 h)]] => P.je i j c a d e k f b g h (fun l => K (.sl (.ints .u8 l)))
 | _ => none
noncomputable def spec : Abs.Spec := fun args K => bn (og [.any, .sl (.ints .u8 []), .agg [.any, .any, .sl (.ints .u8 []), .any], .any, .agg [.any, .any, .sl (.ints .u8 []), .any]] args) K
theorem ok0 : Proved Tryz.prog GLO.gx 126 bn := by
 refine dh (D := D) (fn := Tryz.f126) (c := Tryz.f126.body.getD .skip) [.sl (.ints .u8 [])] (by kernel_rfl) (bf (by kernel_rfl)) (by kernel_rfl) (by kernel_rfl) (by kernel_rfl) ⟨l5.ok, ae0.ok, aak.ok, xq.ok, trivial⟩ trivial ?_ ?_
 · rw [loops]; exact trivial
 · intro args K r h
   unfold bn at h
   split at h
   · rw [P.ak3] at h; exact Eq.trans (by kernel_rfl) h
   · cases h
theorem ok : Proved Tryz.prog GLO.gx 126 spec := eu _ ok0
end je

namespace acp
noncomputable def D : Ctx := ({ P := Tryz.prog, G := [(125, xg.spec), (126, je.spec)], globs := GLO.gx, hints := [], loops := [], inl := [], sta := true } : Ctx)
theorem loops : d9 (Tryz.f111.body.getD .skip) = [] := by kernel_rfl
noncomputable def bn : Abs.Spec := fun args K => match args with
 | [.v (.int .i64 j), .sl (.ints .u8 k)] => P.acp j k (fun c a d e i f b g h => K (.fn (.func 126) [] [.sta [.v (.int .i64 c), .arr .u64 8 a, .sl (.ints .u8 d), .v (.int .u64 e)], .sta [.v (.int .i64 i)], .sta [.v (.int .i64 f), .arr .u64 8 b, .sl (.ints .u8 g), .v (.int .u64 h)]]))
 | _ => none
noncomputable def spec : Abs.Spec := fun args K => bn (og [.any, .sl (.ints .u8 [])] args) K
theorem ok0 : Proved Tryz.prog GLO.gx 111 bn := by
 refine dh (D := D) (fn := Tryz.f111) (c := Tryz.f111.body.getD .skip) [.agg [.agg [.any, .any, .sl (.ints .u8 []), .any], .any, .agg [.any, .any, .sl (.ints .u8 []), .any]]] (by kernel_rfl) (bf (by kernel_rfl)) (by kernel_rfl) (by kernel_rfl) (by kernel_rfl) ⟨xg.ok, je.ok, trivial⟩ trivial ?_ ?_
 · rw [loops]; exact trivial
 · intro args K r h
   unfold bn at h
   split at h
   · rw [P.ap3] at h; exact Eq.trans (by kernel_rfl) h
   · cases h
theorem ok : Proved Tryz.prog GLO.gx 111 spec := eu _ ok0
end acp

namespace jk
noncomputable def D : Ctx := ({ P := Tryz.prog, G := [], globs := GLO.gx, hints := [], loops := [], inl := [] } : Ctx)
theorem loops : d9 (Tryz.f158.body.getD .skip) = [] := by kernel_rfl
noncomputable def bn : Abs.Spec := fun args K => match args with
 | [.v (.int .u64 a), .v (.int .i64 b)] => P.jk a b (fun c => K (.v (.int .u64 c)))
 | _ => none
noncomputable def spec : Abs.Spec := bn
theorem ok0 : Proved Tryz.prog GLO.gx 158 bn := by
 refine dh (D := D) (fn := Tryz.f158) (c := Tryz.f158.body.getD .skip) [.any] (by kernel_rfl) (bf (by kernel_rfl)) (by kernel_rfl) (by kernel_rfl) (by kernel_rfl) trivial trivial ?_ ?_
 · rw [loops]; exact trivial
 · intro args K r h
   unfold bn at h
   split at h
   · rw [P.ru] at h; exact Eq.trans (by kernel_rfl) h
   · cases h
theorem ok : Proved Tryz.prog GLO.gx 158 spec := ok0
end jk

end
