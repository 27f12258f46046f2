/-
  XmssGrows, part 14: an interpreter of my own over abstract values, the pure functions, the walks and the plain law.
-/

import Derived.Test.YtjhnljhjpnjieaaGreatDoorXmssGrowsH
import Derived.Test.YtjhnljhjpnjieaaGreatDoorXmssGrowsG
import Derived.Test.YtjhnljhjpnjieaaGreatDoorProg
import Derived.Test.YtjhnljhjpnjieaaGreatDoorXmssGrowsM
import Derived.KernelRfl
import Derived.Test.YtjhnljhjpnjieaaGreatDoorXmssGrowsL
import Derived.Test.YtjhnljhjpnjieaaGreatDoorXmssGrowsK

section
open Go Go.Abs Go.Proofs
set_option maxRecDepth 100000
set_option maxHeartbeats 0
set_option linter.unusedVariables false

namespace jo
noncomputable def D : Ctx := ({ P := Tryz.prog, G := [(156, ou.spec), (164, dh.spec)], globs := GLO.gx, hints := [], loops := [], inl := [] } : Ctx)
theorem loops : d9 (Tryz.f161.body.getD .skip) = [] := by kernel_rfl
noncomputable def bn : Abs.Spec := fun args K => match args with
 | [.agg [.v (.int .i64 f), .v (.int .i64 e), .arr .i64 3 a, .arr .i64 3 b, .arr .i64 3 c, .arr .i64 3 d, .fn (.func 156) [] []], .v (.int .u64 g), .v (.int .i64 h)] => P.jo f e a b c d g h (fun i => K (.v (.int .u64 i)))
 | _ => none
noncomputable def spec : Abs.Spec := bn
theorem ok0 : Proved Tryz.prog GLO.gx 161 bn := by
 refine dw (D := D) (fn := Tryz.f161) (c := Tryz.f161.body.getD .skip) [.any] (by kernel_rfl) (bf (by kernel_rfl)) (by kernel_rfl) (by kernel_rfl) (by kernel_rfl) ⟨ou.ok, dh.ok, trivial⟩ trivial ?_ ?_
 · rw [loops]; exact trivial
 · intro args K r h
   unfold bn at h
   split at h
   · rw [P.aax] at h; exact Eq.trans (by kernel_rfl) h
   · cases h
theorem ok : Proved Tryz.prog GLO.gx 161 spec := ok0
end jo

namespace ko
noncomputable def D : Ctx := ({ P := Tryz.prog, G := [(156, ou.spec), (164, dh.spec)], globs := GLO.gx, hints := [], loops := [], inl := [] } : Ctx)
theorem loops : d9 (Tryz.f162.body.getD .skip) = [] := by kernel_rfl
noncomputable def bn : Abs.Spec := fun args K => match args with
 | [.agg [.v (.int .i64 f), .v (.int .i64 e), .arr .i64 3 a, .arr .i64 3 b, .arr .i64 3 c, .arr .i64 3 d, .fn (.func 156) [] []], .v (.int .u64 g), .v (.int .i64 h)] => P.ko f e a b c d g h (fun i => K (.v (.int .u64 i)))
 | _ => none
noncomputable def spec : Abs.Spec := bn
theorem ok0 : Proved Tryz.prog GLO.gx 162 bn := by
 refine dw (D := D) (fn := Tryz.f162) (c := Tryz.f162.body.getD .skip) [.any] (by kernel_rfl) (bf (by kernel_rfl)) (by kernel_rfl) (by kernel_rfl) (by kernel_rfl) ⟨ou.ok, dh.ok, trivial⟩ trivial ?_ ?_
 · rw [loops]; exact trivial
 · intro args K r h
   unfold bn at h
   split at h
   · rw [P.aa9] at h; exact Eq.trans (by kernel_rfl) h
   · cases h
theorem ok : Proved Tryz.prog GLO.gx 162 spec := ok0
end ko

namespace l9
abbrev X4 := P.byg
def S4 : X4 → ASt := fun (k, l, j, a, b, c, d, e, f, g, h, i) => ⟨[(2, .sl (.ints .u8 k)), (3, .ptr 0 0), (4, .ptr 1 0), (6, .ptr 2 0), (7, .ptr 3 0), (8, .v (.int .i64 l)), (19, .v (.int .i64 j))], [(0, some ⟨.box 164 [.v (.int .i64 a), .v (.int .i64 b), .arr .i64 3 c, .arr .i64 3 d, .arr .i64 3 e, .arr .i64 3 f, .fn (.func 156) [] []], false⟩), (1, some ⟨.box 115 [.arr .u64 8 g], false⟩), (2, some ⟨.box 115 [.arr .u64 8 h], false⟩), (3, some ⟨.box 181 [.arr .u64 16 i], false⟩)], 4, 142⟩
def V4 : ASt → Option X4
 | ⟨[(2, .sl (.ints .u8 k)), (3, .ptr 0 0), (4, .ptr 1 0), (6, .ptr 2 0), (7, .ptr 3 0), (8, .v (.int .i64 l)), (19, .v (.int .i64 j))], [(0, some ⟨.box 164 [.v (.int .i64 a), .v (.int .i64 b), .arr .i64 3 c, .arr .i64 3 d, .arr .i64 3 e, .arr .i64 3 f, .fn (.func 156) [] []], false⟩), (1, some ⟨.box 115 [.arr .u64 8 g], false⟩), (2, some ⟨.box 115 [.arr .u64 8 h], false⟩), (3, some ⟨.box 181 [.arr .u64 16 i], false⟩)], 4, 142⟩ => some (k, l, j, a, b, c, d, e, f, g, h, i)
 | _ => none
theorem asv (st) (x) (h : V4 st = some x) : st = S4 x := by
 unfold V4 at h
 split at h
 · cases h; rfl
 · cases h
abbrev Y4 := P.b67
abbrev X10 := P.bxo
def S10 : X10 → ASt := fun (k, l, a, b, c, d, e, f, g, h, i, j) => ⟨[(3, .ptr 0 0), (4, .ptr 1 0), (6, .ptr 2 0), (7, .ptr 3 0), (10, .ptr 4 0), (37, .v (.int .i64 k)), (38, .v (.int .i64 l))], [(3, some ⟨.box 181 [.arr .u64 16 a], false⟩), (2, some ⟨.box 115 [.arr .u64 8 b], false⟩), (1, some ⟨.box 115 [.arr .u64 8 c], false⟩), (0, some ⟨.box 164 [.v (.int .i64 d), .v (.int .i64 e), .arr .i64 3 f, .arr .i64 3 g, .arr .i64 3 h, .arr .i64 3 i, .fn (.func 156) [] []], false⟩), (4, some ⟨.box 115 [.arr .u64 8 j], false⟩)], 5, 142⟩
def V10 : ASt → Option X10
 | ⟨[(3, .ptr 0 0), (4, .ptr 1 0), (6, .ptr 2 0), (7, .ptr 3 0), (10, .ptr 4 0), (37, .v (.int .i64 k)), (38, .v (.int .i64 l))], [(3, some ⟨.box 181 [.arr .u64 16 a], false⟩), (2, some ⟨.box 115 [.arr .u64 8 b], false⟩), (1, some ⟨.box 115 [.arr .u64 8 c], false⟩), (0, some ⟨.box 164 [.v (.int .i64 d), .v (.int .i64 e), .arr .i64 3 f, .arr .i64 3 g, .arr .i64 3 h, .arr .i64 3 i, .fn (.func 156) [] []], false⟩), (4, some ⟨.box 115 [.arr .u64 8 j], false⟩)], 5, 142⟩ => some (k, l, a, b, c, d, e, f, g, h, i, j)
 | _ => none
theorem bd6 (st) (x) (h : V10 st = some x) : st = S10 x := by
 unfold V10 at h
 split at h
 · cases h; rfl
 · cases h
abbrev Y10 := P.b7s
abbrev X21 := P.byk
def S21 : X21 → ASt := fun (a, b, c, d) => ⟨[(4, .ptr 1 0), (6, .ptr 2 0), (10, .ptr 4 0), (129, .v (.int .i64 a))], [(1, some ⟨.box 115 [.arr .u64 8 b], false⟩), (2, some ⟨.box 115 [.arr .u64 8 c], false⟩), (4, some ⟨.box 115 [.arr .u64 8 d], false⟩)], 120, 142⟩
def V21 : ASt → Option X21
 | ⟨[(4, .ptr 1 0), (6, .ptr 2 0), (10, .ptr 4 0), (129, .v (.int .i64 a))], [(1, some ⟨.box 115 [.arr .u64 8 b], false⟩), (2, some ⟨.box 115 [.arr .u64 8 c], false⟩), (4, some ⟨.box 115 [.arr .u64 8 d], false⟩)], 120, 142⟩ => some (a, b, c, d)
 | _ => none
theorem bj8 (st) (x) (h : V21 st = some x) : st = S21 x := by
 unfold V21 at h
 split at h
 · cases h; rfl
 · cases h
abbrev Y21 := P.b2h
def E4 (K : AExit → ASt → Option R) : Y4 → Option R := (fun x => K (.exit 0) (S4 x))
noncomputable def L4 : p8 := fun st K => acg (V4 st) fun x => P.b50 x (E4 K)
def E10 (K : AExit → ASt → Option R) : Y10 → Option R := (fun x => K (.exit 2) (S10 x))
noncomputable def L10 : p8 := fun st K => acg (V10 st) fun x => P.b6d x (E10 K)
def E21 (K : AExit → ASt → Option R) : Y21 → Option R := (fun x => K (.exit 4) (S21 x))
noncomputable def L21 : p8 := fun st K => acg (V21 st) fun x => P.b07 x (E21 K)
noncomputable def D : Ctx := ({ P := Tryz.prog, G := [(106, yx.spec), (156, ou.spec), (161, jo.spec), (162, ko.spec)], globs := GLO.gx, hints := [(21, ⟨[4, 6, 10, 129], [], [6], [], some (120, [1, 2, 4]), [], []⟩), (10, ⟨[3, 4, 6, 7, 10, 37, 38], [], [6], [], none, [], []⟩), (4, ⟨[2, 3, 4, 6, 7, 8, 19], [], [6], [], none, [], []⟩)], loops := [(4, L4), (10, L10), (21, L21)], inl := [] } : Ctx)
theorem ake (K) (next) (x) : jq D (dz Tryz.f155 4) K next (S4 x) = P.bvp x (fun x => next (S4 x)) (E4 K) := by kernel_rfl
theorem asx : ji D (dz Tryz.f155 4) := gy S4 asv (by kernel_rfl) P.b92 ake
theorem aye (K) (next) (x) : jq D (dz Tryz.f155 10) K next (S10 x) = P.bt7 x (fun x => next (S10 x)) (E10 K) := by kernel_rfl
theorem beh : ji D (dz Tryz.f155 10) := gy S10 bd6 (by kernel_rfl) P.b8n aye
theorem bgl (K) (next) (x) : jq D (dz Tryz.f155 21) K next (S21 x) = P.bx5 x (fun x => next (S21 x)) (E21 K) := by kernel_rfl
theorem bjz : ji D (dz Tryz.f155 21) := gy S21 bj8 (by kernel_rfl) P.b96 bgl
theorem loops : d9 (Tryz.f155.body.getD .skip) = [dz Tryz.f155 4, dz Tryz.f155 10, dz Tryz.f155 21] := by kernel_rfl
noncomputable def bn : Abs.Spec := fun args K => match args with
 | [.agg [.v (.int .i64 f), .v (.int .i64 e), .arr .i64 3 a, .arr .i64 3 b, .arr .i64 3 c, .arr .i64 3 d, .fn (.func 156) [] []], .arr .u64 8 g, .sl (.ints .u8 h)] => P.l9 f e a b c d g h (fun i => K (.arr .u64 8 i))
 | _ => none
noncomputable def spec : Abs.Spec := fun args K => bn (oh [.any, .any, .sl (.ints .u8 [])] args) K
theorem ok0 : Proved Tryz.prog GLO.gx 155 bn := by
 refine dw (D := D) (fn := Tryz.f155) (c := Tryz.f155.body.getD .skip) [.any] (by kernel_rfl) (bf (by kernel_rfl)) (by kernel_rfl) (by kernel_rfl) (by kernel_rfl) ⟨yx.ok, ou.ok, jo.ok, ko.ok, trivial⟩ trivial ?_ ?_
 · rw [loops]; exact ⟨asx, beh, bjz, trivial⟩
 · intro args K r h
   unfold bn at h
   split at h
   · rw [P.adu] at h; exact Eq.trans (by kernel_rfl) h
   · cases h
theorem ok : Proved Tryz.prog GLO.gx 155 spec := eu _ ok0
end l9

namespace qc
abbrev X3 := P.bu9
def S3 : X3 → ASt := fun (l, j, k, a, b, c, d, e, f, g, h, i) => ⟨[(2, .sl (.ints .u8 l)), (3, .ptr 0 0), (4, .ptr 1 0), (6, .ptr 2 0), (8, .ptr 3 0), (14, .arr .u64 8 j), (15, .v (.int .i64 k))], [(0, some ⟨.box 164 [.v (.int .i64 a), .v (.int .i64 b), .arr .i64 3 c, .arr .i64 3 d, .arr .i64 3 e, .arr .i64 3 f, .fn (.func 156) [] []], false⟩), (1, some ⟨.box 115 [.arr .u64 8 g], false⟩), (2, some ⟨.box 115 [.arr .u64 8 h], false⟩), (3, some ⟨.box 115 [.arr .u64 8 i], false⟩)], 4, 50⟩
def V3 : ASt → Option X3
 | ⟨[(2, .sl (.ints .u8 l)), (3, .ptr 0 0), (4, .ptr 1 0), (6, .ptr 2 0), (8, .ptr 3 0), (14, .arr .u64 8 j), (15, .v (.int .i64 k))], [(0, some ⟨.box 164 [.v (.int .i64 a), .v (.int .i64 b), .arr .i64 3 c, .arr .i64 3 d, .arr .i64 3 e, .arr .i64 3 f, .fn (.func 156) [] []], false⟩), (1, some ⟨.box 115 [.arr .u64 8 g], false⟩), (2, some ⟨.box 115 [.arr .u64 8 h], false⟩), (3, some ⟨.box 115 [.arr .u64 8 i], false⟩)], 4, 50⟩ => some (l, j, k, a, b, c, d, e, f, g, h, i)
 | _ => none
theorem apg (st) (x) (h : V3 st = some x) : st = S3 x := by
 unfold V3 at h
 split at h
 · cases h; rfl
 · cases h
abbrev Y3 := P.b4z
abbrev X8 := P.bwu
def S8 : X8 → ASt := fun (k, j, a, b, c, d, e, f, g, h, i) => ⟨[(2, .sl (.ints .u8 k)), (3, .ptr 0 0), (4, .ptr 1 0), (6, .ptr 2 0), (8, .ptr 3 0), (11, .v (.int .i64 j))], [(3, some ⟨.box 115 [.arr .u64 8 a], false⟩), (2, some ⟨.box 115 [.arr .u64 8 b], false⟩), (1, some ⟨.box 115 [.arr .u64 8 c], false⟩), (0, some ⟨.box 164 [.v (.int .i64 d), .v (.int .i64 e), .arr .i64 3 f, .arr .i64 3 g, .arr .i64 3 h, .arr .i64 3 i, .fn (.func 156) [] []], false⟩)], 4, 50⟩
def V8 : ASt → Option X8
 | ⟨[(2, .sl (.ints .u8 k)), (3, .ptr 0 0), (4, .ptr 1 0), (6, .ptr 2 0), (8, .ptr 3 0), (11, .v (.int .i64 j))], [(3, some ⟨.box 115 [.arr .u64 8 a], false⟩), (2, some ⟨.box 115 [.arr .u64 8 b], false⟩), (1, some ⟨.box 115 [.arr .u64 8 c], false⟩), (0, some ⟨.box 164 [.v (.int .i64 d), .v (.int .i64 e), .arr .i64 3 f, .arr .i64 3 g, .arr .i64 3 h, .arr .i64 3 i, .fn (.func 156) [] []], false⟩)], 4, 50⟩ => some (k, j, a, b, c, d, e, f, g, h, i)
 | _ => none
theorem bgj (st) (x) (h : V8 st = some x) : st = S8 x := by
 unfold V8 at h
 split at h
 · cases h; rfl
 · cases h
abbrev Y8 := P.b1s
abbrev X12 := P.bwn
def S12 : X12 → ASt := fun (e, c, d, a, b) => ⟨[(2, .sl (.ints .u8 e)), (4, .ptr 1 0), (6, .ptr 2 0), (39, .arr .u64 8 c), (40, .v (.int .i64 d))], [(1, some ⟨.box 115 [.arr .u64 8 a], false⟩), (2, some ⟨.box 115 [.arr .u64 8 b], false⟩)], 120, 50⟩
def V12 : ASt → Option X12
 | ⟨[(2, .sl (.ints .u8 e)), (4, .ptr 1 0), (6, .ptr 2 0), (39, .arr .u64 8 c), (40, .v (.int .i64 d))], [(1, some ⟨.box 115 [.arr .u64 8 a], false⟩), (2, some ⟨.box 115 [.arr .u64 8 b], false⟩)], 120, 50⟩ => some (e, c, d, a, b)
 | _ => none
theorem be2 (st) (x) (h : V12 st = some x) : st = S12 x := by
 unfold V12 at h
 split at h
 · cases h; rfl
 · cases h
abbrev Y12 := P.b3r
def E3 (K : AExit → ASt → Option R) : Y3 → Option R := (fun x => K (.exit 0) (S3 x))
noncomputable def L3 : p8 := fun st K => acg (V3 st) fun x => P.b2i x (E3 K)
def E8 (K : AExit → ASt → Option R) : Y8 → Option R := (fun x => K (.exit 2) (S8 x))
noncomputable def L8 : p8 := fun st K => acg (V8 st) fun x => P.b6g x (E8 K)
def E12 (K : AExit → ASt → Option R) : Y12 → Option R := (fun x => K (.exit 4) (S12 x))
noncomputable def L12 : p8 := fun st K => acg (V12 st) fun x => P.b7b x (E12 K)
noncomputable def D : Ctx := ({ P := Tryz.prog, G := [(155, l9.spec), (156, ou.spec)], globs := GLO.gx, hints := [(12, ⟨[2, 4, 6, 39, 40], [], [6, 7], [], some (120, [1, 2]), [], []⟩), (8, ⟨[2, 3, 4, 6, 8, 11], [], [6, 7], [(2, .sl (.ints .u8 []))], none, [], []⟩), (3, ⟨[2, 3, 4, 6, 8, 14, 15], [], [6, 7], [], none, [], []⟩)], loops := [(3, L3), (8, L8), (12, L12)], inl := [] } : Ctx)
theorem aii (K) (next) (x) : jq D (dz Tryz.f146 3) K next (S3 x) = P.bym x (fun x => next (S3 x)) (E3 K) := by kernel_rfl
theorem ap4 : ji D (dz Tryz.f146 3) := gy S3 apg (by kernel_rfl) P.b8v aii
theorem aw4 (K) (next) (x) : jq D (dz Tryz.f146 8) K next (S8 x) = P.bud x (fun x => next (S8 x)) (E8 K) := by kernel_rfl
theorem bgb : ji D (dz Tryz.f146 8) := gy S8 bgj (by kernel_rfl) P.b8s aw4
theorem axp (K) (next) (x) : jq D (dz Tryz.f146 12) K next (S12 x) = P.bt0 x (fun x => next (S12 x)) (E12 K) := by kernel_rfl
theorem bc7 : ji D (dz Tryz.f146 12) := gy S12 be2 (by kernel_rfl) P.b9j axp
theorem loops : d9 (Tryz.f146.body.getD .skip) = [dz Tryz.f146 3, dz Tryz.f146 8, dz Tryz.f146 12] := by kernel_rfl
noncomputable def bn : Abs.Spec := fun args K => match args with
 | [.agg [.v (.int .i64 f), .v (.int .i64 e), .arr .i64 3 a, .arr .i64 3 b, .arr .i64 3 c, .arr .i64 3 d, .fn (.func 156) [] []], .arr .u64 8 g, .sl (.ints .u8 h)] => P.qc f e a b c d g h (fun i j => K (.tuple [.arr .u64 8 i, .sl (.ints .u8 j)]))
 | _ => none
noncomputable def spec : Abs.Spec := fun args K => bn (oh [.any, .any, .sl (.ints .u8 [])] args) K
theorem ok0 : Proved Tryz.prog GLO.gx 146 bn := by
 refine dw (D := D) (fn := Tryz.f146) (c := Tryz.f146.body.getD .skip) [.any, .sl (.ints .u8 [])] (by kernel_rfl) (bf (by kernel_rfl)) (by kernel_rfl) (by kernel_rfl) (by kernel_rfl) ⟨l9.ok, ou.ok, trivial⟩ trivial ?_ ?_
 · rw [loops]; exact ⟨ap4, bgb, bc7, trivial⟩
 · intro args K r h
   unfold bn at h
   split at h
   · rw [P.agm] at h; exact Eq.trans (by kernel_rfl) h
   · cases h
theorem ok : Proved Tryz.prog GLO.gx 146 spec := eu _ ok0
end qc

namespace pq
noncomputable def D : Ctx := { P := Tryz.prog, G := [], globs := GLO.gx, hints := [], loops := [] }
noncomputable def c : Code := Tryz.f148.body.getD .skip
noncomputable def o0 : Oper := (bhw (sq1 c)).getD 0 bg5
noncomputable def o1 : Oper := (bhw (sq1 (sq1 (sq2 c)))).getD 0 bg5
noncomputable def o2 : Oper := (bhw (sq1 (sq1 (sq2 c)))).getD 1 bg5
noncomputable def X : Code := b5k (sq2 (sq1 (sq2 c)))
noncomputable def rest : Code := sq2 (sq2 c)
noncomputable def ox : Oper := (bhw (sq1 X)).getD 0 bg5
theorem br1 (a : List Int) : afx D rest ⟨[(0, .sl (.ints .u8 a)), (2, .v (.slice none 0 0))], [], 0, Tryz.f148.ntmps⟩ (b90 D [.fr 5 (.ints .u8 a)] Tryz.f148) = br (decide ((0 + a.length) * 1 ≤ 140737488355328)) (some (.fr 5 (.ints .u8 a))) none := by kernel_rfl
noncomputable def bn : Abs.Spec := fun args K => match args with
  | [.sl (.ints .u8 a)] => P.pq a (fun a => K (.fr 5 (.ints .u8 a)))
  | _ => none
theorem bqg : Tryz.f148.body = some (.seq (.region 0 #[o0] false) (.seq (.seq (.region 1 #[o1, o2] false) (.cond (.tmp 4) X .skip)) rest)) := by kernel_rfl
theorem ok0 : Proved Tryz.prog GLO.gx 148 bn := by
  refine ⟨⟨Tryz.f148, by kernel_rfl, by kernel_rfl, by kernel_rfl⟩, fun args K r h => ?_⟩
  unfold bn at h
  split at h
  · rename_i a
    unfold P.pq at h
    obtain ⟨hp, hK⟩ := pre_some h
    refine ⟨_, hK, bnu (D := D) (fn := Tryz.f148) (t := 26) (e := 5) trivial (bf (by kernel_rfl)) trivial (by kernel_rfl) (by kernel_rfl) bqg ⟨by kernel_rfl, by kernel_rfl, by kernel_rfl⟩ ⟨by kernel_rfl, by kernel_rfl, by kernel_rfl⟩ ⟨by kernel_rfl, by kernel_rfl, by kernel_rfl⟩ (by kernel_rfl) (by decide +kernel) (by kernel_rfl) (by kernel_rfl) ⟨2, ox, by kernel_rfl, by kernel_rfl, by kernel_rfl, by kernel_rfl⟩ (by kernel_rfl) rfl rfl rfl ?_⟩
    rw [br1, bg (by omega)]
  · cases h
noncomputable def spec : Abs.Spec := fun args K => bn (oh [.sl (.ints .u8 [])] args) K
theorem ok : Proved Tryz.prog GLO.gx 148 spec := eu _ ok0
end pq

namespace aac
noncomputable def D : Ctx := ({ P := Tryz.prog, G := [(113, jk.spec), (144, qb.spec), (145, acw.spec), (146, qc.spec), (147, acy.spec), (148, pq.spec)], globs := GLO.gx, hints := [], loops := [], inl := [] } : Ctx)
theorem loops : d9 (Tryz.f128.body.getD .skip) = [] := by kernel_rfl
noncomputable def bn : Abs.Spec := fun args K => match args with
 | [.agg [.v (.int .i64 c), .arr .u64 8 a, .sl (.ints .u8 d), .v (.int .u64 e)], .sl (.ints .u8 i)] => P.aac c a d e i (fun f b g h => K (.agg [.v (.int .i64 f), .arr .u64 8 b, .fr 5 (.ints .u8 g), .v (.int .u64 h)]))
 | _ => none
noncomputable def spec : Abs.Spec := fun args K => bn (oh [.agg [.any, .any, .sl (.ints .u8 []), .any], .sl (.ints .u8 [])] args) K
theorem ok0 : Proved Tryz.prog GLO.gx 128 bn := by
 refine dw (D := D) (fn := Tryz.f128) (c := Tryz.f128.body.getD .skip) [.agg [.any, .any, .fr 5 (.ints .u8 []), .any]] (by kernel_rfl) (bf (by kernel_rfl)) (by kernel_rfl) (by kernel_rfl) (by kernel_rfl) ⟨jk.ok, qb.ok, acw.ok, qc.ok, acy.ok, pq.ok, trivial⟩ trivial ?_ ?_
 · rw [loops]; exact trivial
 · intro args K r h
   unfold bn at h
   split at h
   · rw [P.azk] at h; exact Eq.trans (by kernel_rfl) h
   · cases h
theorem ok : Proved Tryz.prog GLO.gx 128 spec := eu _ ok0
end aac

namespace afa
noncomputable def D : Ctx := ({ P := Tryz.prog, G := [], globs := GLO.gx, hints := [], loops := [], inl := [] } : Ctx)
theorem loops : d9 (Tryz.f152.body.getD .skip) = [] := by kernel_rfl
noncomputable def bn : Abs.Spec := fun args K => match args with
 | [.v (.int .i64 a)] => P.afa a (fun b c => K (.tuple [.arr .u64 8 b, .v (.bool c)]))
 | _ => none
noncomputable def spec : Abs.Spec := bn
theorem ok0 : Proved Tryz.prog GLO.gx 152 bn := by
 refine dw (D := D) (fn := Tryz.f152) (c := Tryz.f152.body.getD .skip) [.any, .any] (by kernel_rfl) (bf (by kernel_rfl)) (by kernel_rfl) (by kernel_rfl) (by kernel_rfl) trivial trivial ?_ ?_
 · rw [loops]; exact trivial
 · intro args K r h
   unfold bn at h
   split at h
   · rw [P.au5] at h; exact Eq.trans (by kernel_rfl) h
   · cases h
theorem ok : Proved Tryz.prog GLO.gx 152 spec := ok0
end afa

namespace ai0
noncomputable def D : Ctx := ({ P := Tryz.prog, G := [(152, afa.spec)], globs := GLO.gx, hints := [], loops := [], inl := [] } : Ctx)
theorem loops : d9 (Tryz.f142.body.getD .skip) = [] := by kernel_rfl
noncomputable def bn : Abs.Spec := fun args K => match args with
 | [.v (.int .i64 e)] => P.ai0 e (fun b a c d f => K (.tuple [.agg [.v (.int .i64 b), .arr .u64 8 a, .fr 5 (.ints .u8 c), .v (.int .u64 d)], .v (.int .i64 f)]))
 | _ => none
noncomputable def spec : Abs.Spec := bn
theorem ok0 : Proved Tryz.prog GLO.gx 142 bn := by
 refine dw (D := D) (fn := Tryz.f142) (c := Tryz.f142.body.getD .skip) [.agg [.any, .any, .fr 5 (.ints .u8 []), .any], .any] (by kernel_rfl) (bf (by kernel_rfl)) (by kernel_rfl) (by kernel_rfl) (by kernel_rfl) ⟨afa.ok, trivial⟩ trivial ?_ ?_
 · rw [loops]; exact trivial
 · intro args K r h
   unfold bn at h
   split at h
   · rw [P.azx] at h; exact Eq.trans (by kernel_rfl) h
   · cases h
theorem ok : Proved Tryz.prog GLO.gx 142 spec := ok0
end ai0

namespace xg
noncomputable def D : Ctx := ({ P := Tryz.prog, G := [(94, j6.spec), (128, aac.spec), (142, ai0.spec)], globs := GLO.gx, hints := [], loops := [], inl := [] } : Ctx)
theorem loops : d9 (Tryz.f125.body.getD .skip) = [] := by kernel_rfl
noncomputable def bn : Abs.Spec := fun args K => match args with
 | [.v (.int .i64 e), .v (.int .i64 f), .sl (.ints .u8 g)] => P.xg e f g (fun b a c d => K (.agg [.v (.int .i64 b), .arr .u64 8 a, .fr 5 (.ints .u8 c), .v (.int .u64 d)]))
 | _ => none
noncomputable def spec : Abs.Spec := fun args K => bn (oh [.any, .any, .sl (.ints .u8 [])] args) K
theorem ok0 : Proved Tryz.prog GLO.gx 125 bn := by
 refine dw (D := D) (fn := Tryz.f125) (c := Tryz.f125.body.getD .skip) [.agg [.any, .any, .fr 5 (.ints .u8 []), .any]] (by kernel_rfl) (bf (by kernel_rfl)) (by kernel_rfl) (by kernel_rfl) (by kernel_rfl) ⟨j6.ok, aac.ok, ai0.ok, trivial⟩ trivial ?_ ?_
 · rw [loops]; exact trivial
 · intro args K r h
   unfold bn at h
   split at h
   · rw [P.aow] at h; exact Eq.trans (by kernel_rfl) h
   · cases h
theorem ok : Proved Tryz.prog GLO.gx 125 spec := eu _ ok0
end xg

namespace uo
noncomputable def D : Ctx := ({ P := Tryz.prog, G := [], globs := GLO.gx, hints := [], loops := [], inl := [] } : Ctx)
theorem loops : d9 (Tryz.f143.body.getD .skip) = [] := by kernel_rfl
noncomputable def bn : Abs.Spec := fun args K => match args with
 | [.v (.int .i64 a)] => P.uo a (fun b => K (.v (.int .i64 b)))
 | _ => none
noncomputable def spec : Abs.Spec := bn
theorem ok0 : Proved Tryz.prog GLO.gx 143 bn := by
 refine dw (D := D) (fn := Tryz.f143) (c := Tryz.f143.body.getD .skip) [.any] (by kernel_rfl) (bf (by kernel_rfl)) (by kernel_rfl) (by kernel_rfl) (by kernel_rfl) trivial trivial ?_ ?_
 · rw [loops]; exact trivial
 · intro args K r h
   unfold bn at h
   split at h
   · rw [P.al5] at h; exact Eq.trans (by kernel_rfl) h
   · cases h
theorem ok : Proved Tryz.prog GLO.gx 143 spec := ok0
end uo

namespace afe
abbrev X10 := P.bwl
def S10 : X10 → ASt := fun (g, d, e, f, a, b, c, h) => ⟨[(7, .own 40), (1, .ptr 0 0), (3, .v (.int .i64 g)), (45, .arr .u64 8 d), (46, .v (.int .i64 e))], [(40, some ⟨.row 5 (.ints .u8 f), false⟩), (0, some ⟨.box 117 [.v (.int .i64 a), .arr .u64 8 b, .own 5, .v (.int .u64 c)], false⟩), (5, some ⟨.row 5 (.ints .u8 h), false⟩)], 41, 62⟩
def V10 : ASt → Option X10
 | ⟨[(7, .own 40), (1, .ptr 0 0), (3, .v (.int .i64 g)), (45, .arr .u64 8 d), (46, .v (.int .i64 e))], [(40, some ⟨.row 5 (.ints .u8 f), false⟩), (0, some ⟨.box 117 [.v (.int .i64 a), .arr .u64 8 b, .own 5, .v (.int .u64 c)], false⟩), (5, some ⟨.row 5 (.ints .u8 h), false⟩)], 41, 62⟩ => some (g, d, e, f, a, b, c, h)
 | _ => none
theorem bd6 (st) (x) (h : V10 st = some x) : st = S10 x := by
 unfold V10 at h
 split at h
 · cases h; rfl
 · cases h
abbrev Y10 := P.b39
def E10 (K : AExit → ASt → Option R) : Y10 → Option R := (fun x => K (.exit 0) (S10 x))
noncomputable def L10 : p8 := fun st K => acg (V10 st) fun x => P.b3m x (E10 K)
noncomputable def D : Ctx := ({ P := Tryz.prog, G := [(108, yc.spec), (128, aac.spec), (143, uo.spec)], globs := GLO.gx, hints := [(10, ⟨[1, 3, 45, 46], [(7, 5, .ints .u8 [])], [2], [], some (40, [0, 5]), [], []⟩)], loops := [(10, L10)], inl := [] } : Ctx)
theorem aye (K) (next) (x) : jq D (dz Tryz.f127 10) K next (S10 x) = P.bye x (fun x => next (S10 x)) (E10 K) := by kernel_rfl
theorem beh : ji D (dz Tryz.f127 10) := gy S10 bd6 (by kernel_rfl) P.b99 aye
theorem loops : d9 (Tryz.f127.body.getD .skip) = [dz Tryz.f127 10] := by kernel_rfl
noncomputable def bn : Abs.Spec := fun args K => match args with
 | [.agg [.v (.int .i64 b), .arr .u64 8 a, .sl (.ints .u8 c), .v (.int .u64 d)]] => P.afe b a c d (fun e => K (.fr 5 (.ints .u8 e)))
 | _ => none
noncomputable def spec : Abs.Spec := fun args K => bn (oh [.agg [.any, .any, .sl (.ints .u8 []), .any]] args) K
theorem ok0 : Proved Tryz.prog GLO.gx 127 bn := by
 refine as4 (D := D) (fn := Tryz.f127) (c := Tryz.f127.body.getD .skip) 5 (.ints .u8 []) (by kernel_rfl) (bf (by kernel_rfl)) (by kernel_rfl) (by kernel_rfl) (by kernel_rfl) ⟨yc.ok, aac.ok, uo.ok, trivial⟩ trivial ?_ ?_
 · rw [loops]; exact ⟨beh, trivial⟩
 · intro args K r h
   unfold bn at h
   split at h
   · rw [P.azz] at h; exact Eq.trans (by kernel_rfl) h
   · cases h
theorem ok : Proved Tryz.prog GLO.gx 127 spec := eu _ ok0
end afe

namespace w9
noncomputable def D : Ctx := ({ P := Tryz.prog, G := [(94, j6.spec)], globs := GLO.gx, hints := [], loops := [], inl := [] } : Ctx)
theorem loops : d9 (Tryz.f129.body.getD .skip) = [] := by kernel_rfl
noncomputable def bn : Abs.Spec := fun args K => match args with
 | [.arr .u8 32 a] => P.w9 a (fun b => K (.fr 5 (.ints .u8 b)))
 | _ => none
noncomputable def spec : Abs.Spec := bn
theorem ok0 : Proved Tryz.prog GLO.gx 129 bn := by
 refine dw (D := D) (fn := Tryz.f129) (c := Tryz.f129.body.getD .skip) [.fr 5 (.ints .u8 [])] (by kernel_rfl) (bf (by kernel_rfl)) (by kernel_rfl) (by kernel_rfl) (by kernel_rfl) ⟨j6.ok, trivial⟩ trivial ?_ ?_
 · rw [loops]; exact trivial
 · intro args K r h
   unfold bn at h
   split at h
   · rw [P.ar0] at h; exact Eq.trans (by kernel_rfl) h
   · cases h
theorem ok : Proved Tryz.prog GLO.gx 129 spec := ok0
end w9

namespace jc
noncomputable def D : Ctx := ({ P := Tryz.prog, G := [(94, j6.spec), (127, afe.spec), (128, aac.spec), (129, w9.spec)], globs := GLO.gx, hints := [], loops := [], inl := [] } : Ctx)
theorem loops : d9 (Tryz.f126.body.getD .skip) = [] := by kernel_rfl
noncomputable def bn : Abs.Spec := fun args K => match args with
 | [.arr .u8 32 i, .sl (.ints .u8 j), .sta [.v (.int .i64 c), .arr .u64 8 a, .sl (.ints .u8 d), .v (.int .u64 e)], .sta [.v (.int .i64 k)], .sta [.v (.int .i64 f), .arr .u64 8 b, .sl (.ints .u8 g), .v (.int .u64 h)]] => P.jc i j c a d e k f b g h (fun l => K (.sl (.ints .u8 l)))
 | _ => none
noncomputable def spec : Abs.Spec := fun args K => bn (oh [.any, .sl (.ints .u8 []), .agg [.any, .any, .sl (.ints .u8 []), .any], .any, .agg [.any, .any, .sl (.ints .u8 []), .any]] args) K
theorem ok0 : Proved Tryz.prog GLO.gx 126 bn := by
 refine dw (D := D) (fn := Tryz.f126) (c := Tryz.f126.body.getD .skip) [.sl (.ints .u8 [])] (by kernel_rfl) (bf (by kernel_rfl)) (by kernel_rfl) (by kernel_rfl) (by kernel_rfl) ⟨j6.ok, afe.ok, aac.ok, w9.ok, trivial⟩ trivial ?_ ?_
 · rw [loops]; exact trivial
 · intro args K r h
   unfold bn at h
   split at h
   · rw [P.aj6] at h; exact Eq.trans (by kernel_rfl) h
   · cases h
theorem ok : Proved Tryz.prog GLO.gx 126 spec := eu _ ok0
end jc

namespace ac8
noncomputable def D : Ctx := ({ P := Tryz.prog, G := [(125, xg.spec), (126, jc.spec)], globs := GLO.gx, hints := [], loops := [], inl := [], sta := true } : Ctx)
theorem loops : d9 (Tryz.f111.body.getD .skip) = [] := by kernel_rfl
noncomputable def bn : Abs.Spec := fun args K => match args with
 | [.v (.int .i64 j), .sl (.ints .u8 k)] => P.ac8 j k (fun c a d e i f b g h => K (.fn (.func 126) [] [.sta [.v (.int .i64 c), .arr .u64 8 a, .sl (.ints .u8 d), .v (.int .u64 e)], .sta [.v (.int .i64 i)], .sta [.v (.int .i64 f), .arr .u64 8 b, .sl (.ints .u8 g), .v (.int .u64 h)]]))
 | _ => none
noncomputable def spec : Abs.Spec := fun args K => bn (oh [.any, .sl (.ints .u8 [])] args) K
theorem ok0 : Proved Tryz.prog GLO.gx 111 bn := by
 refine dw (D := D) (fn := Tryz.f111) (c := Tryz.f111.body.getD .skip) [.agg [.agg [.any, .any, .sl (.ints .u8 []), .any], .any, .agg [.any, .any, .sl (.ints .u8 []), .any]]] (by kernel_rfl) (bf (by kernel_rfl)) (by kernel_rfl) (by kernel_rfl) (by kernel_rfl) ⟨xg.ok, jc.ok, trivial⟩ trivial ?_ ?_
 · rw [loops]; exact trivial
 · intro args K r h
   unfold bn at h
   split at h
   · rw [P.ao1] at h; exact Eq.trans (by kernel_rfl) h
   · cases h
theorem ok : Proved Tryz.prog GLO.gx 111 spec := eu _ ok0
end ac8

namespace jg
noncomputable def D : Ctx := ({ P := Tryz.prog, G := [], globs := GLO.gx, hints := [], loops := [], inl := [] } : Ctx)
theorem loops : d9 (Tryz.f158.body.getD .skip) = [] := by kernel_rfl
noncomputable def bn : Abs.Spec := fun args K => match args with
 | [.v (.int .u64 a), .v (.int .i64 b)] => P.jg a b (fun c => K (.v (.int .u64 c)))
 | _ => none
noncomputable def spec : Abs.Spec := bn
theorem ok0 : Proved Tryz.prog GLO.gx 158 bn := by
 refine dw (D := D) (fn := Tryz.f158) (c := Tryz.f158.body.getD .skip) [.any] (by kernel_rfl) (bf (by kernel_rfl)) (by kernel_rfl) (by kernel_rfl) (by kernel_rfl) trivial trivial ?_ ?_
 · rw [loops]; exact trivial
 · intro args K r h
   unfold bn at h
   split at h
   · rw [P.rz] at h; exact Eq.trans (by kernel_rfl) h
   · cases h
theorem ok : Proved Tryz.prog GLO.gx 158 spec := ok0
end jg

end
