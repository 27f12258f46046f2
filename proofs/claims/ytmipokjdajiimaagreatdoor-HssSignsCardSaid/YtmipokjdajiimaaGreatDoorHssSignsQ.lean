/-
  HssSigns, part 17: an interpreter of my own over abstract values, the pure functions, the walks and the plain law.
-/

import Derived.Test.YtmipokjdajiimaaGreatDoorHssSignsI
import Derived.Test.YtmipokjdajiimaaGreatDoorHssSignsH
import Derived.Test.YtmipokjdajiimaaGreatDoorProg
import Derived.Test.YtmipokjdajiimaaGreatDoorHssSignsJ
import Derived.Test.YtmipokjdajiimaaGreatDoorHssSignsP
import Derived.KernelRfl
import Derived.Test.YtmipokjdajiimaaGreatDoorHssSignsL
import Derived.Test.YtmipokjdajiimaaGreatDoorHssSignsK

section
open Go Go.Abs Go.Proofs
set_option maxRecDepth 100000
set_option maxHeartbeats 0
set_option linter.unusedVariables false

namespace ad7
abbrev X6 := P.zt2
def S6 : X6 → ASt := fun (d, e, f, i, j, a, b, c, g, h) => ⟨[(1, .ptr 0 0), (13, .sl (.cols d [.ints .i64 e, .ints .i64 f])), (14, .v (.int .i64 i)), (15, .v (.int .i64 j))], [(0, some ⟨.box 25 [.sl (.cols a [.ints .i64 b, .ints .i64 c]), .sl (.ints .u8 g), .sl (.ints .u8 h)], false⟩)], 1, 32⟩
def V6 : ASt → Option X6
 | ⟨[(1, .ptr 0 0), (13, .sl (.cols d [.ints .i64 e, .ints .i64 f])), (14, .v (.int .i64 i)), (15, .v (.int .i64 j))], [(0, some ⟨.box 25 [.sl (.cols a [.ints .i64 b, .ints .i64 c]), .sl (.ints .u8 g), .sl (.ints .u8 h)], false⟩)], 1, 32⟩ => some (d, e, f, i, j, a, b, c, g, h)
 | _ => none
theorem bfz (st) (x) (h : V6 st = some x) : st = S6 x := by
 unfold V6 at h
 split at h
 · cases h; rfl
 · cases h
abbrev Y6 := P.zy2
def E6 (K : AExit → ASt → Option R) : Y6 → Option R := (Sum.elim (fun x => K (.exit 0) (S6 x)) (fun (j, f, g, a, b, c, d, e, h, i) => K .ret ⟨[(2, .v (.bool j))], [(1, some ⟨.box 40 [.v (.int .i64 f), .v (.int .i64 g)], false⟩), (1, some ⟨.box 40 [.v (.int .i64 a), .v (.int .i64 b)], false⟩), (0, some ⟨.box 25 [.sl (.cols c [.ints .i64 d, .ints .i64 e]), .sl (.ints .u8 h), .sl (.ints .u8 i)], false⟩)], 2, 32⟩))
noncomputable def L6 : qb := fun st K => adk (V6 st) fun x => P.zm2 x (E6 K)
noncomputable def D : Ctx := ({ P := Tryz.prog, G := [(24, zm.spec)], globs := GLO.gB, hints := [(6, ⟨[1, 13, 14, 15], [], [2], [], none, [], [], []⟩)], loops := [(6, L6)], inl := [] } : Ctx)
theorem axh (K) (next) (x) : lu D (cu Tryz.f5 6) K next (S6 x) = P.zs2 x (fun x => next (S6 x)) (E6 K) := by kernel_rfl
theorem bgd : jq D (cu Tryz.f5 6) := eu S6 bfz (by kernel_rfl) P.ze2 axh
theorem loops : bg (Tryz.f5.body.getD .skip) = [cu Tryz.f5 6] := by kernel_rfl
noncomputable def ak : Abs.Spec := fun args K => match args with
 | [.agg [.sl (.cols a [.ints .i64 b, .ints .i64 c]), .sl (.ints .u8 e), .sl (.ints .u8 d)]] => P.ad7 a b c e d (fun f => K (.v (.bool f)))
 | _ => none
noncomputable def spec : Abs.Spec := fun args K => ak (kg [.agg [.sl (.cols 0 [.ints .i64 [], .ints .i64 []]), .sl (.ints .u8 []), .sl (.ints .u8 [])]] args) K
theorem ok0 : Proved Tryz.prog GLO.gB 5 ak := by
 refine bf (D := D) (fn := Tryz.f5) (c := Tryz.f5.body.getD .skip) [.any] (by kernel_rfl) (ah (by kernel_rfl)) (by kernel_rfl) (by kernel_rfl) (by kernel_rfl) ⟨zm.ok, trivial⟩ trivial ?_ ?_
 · rw [loops]; exact ⟨bgd, trivial⟩
 · intro args K r h
   unfold ak at h
   split at h
   · rw [P.afg] at h; exact Eq.trans (by kernel_rfl) h
   · cases h
theorem ok : Proved Tryz.prog GLO.gB 5 spec := bn _ ok0
end ad7

namespace y8
abbrev X4 := P.by2
def S4 : X4 → ASt := fun (a, b, c) => ⟨[(0, .sl (.ints .u8 a)), (1, .sl (.ints .u8 b)), (5, .v (.int .i64 c))], [], 0, 26⟩
def V4 : ASt → Option X4
 | ⟨[(0, .sl (.ints .u8 a)), (1, .sl (.ints .u8 b)), (5, .v (.int .i64 c))], [], 0, 26⟩ => some (a, b, c)
 | _ => none
theorem avh (st) (x) (h : V4 st = some x) : st = S4 x := by
 unfold V4 at h
 split at h
 · cases h; rfl
 · cases h
abbrev Y4 := P.b5g
def E4 (K : AExit → ASt → Option R) : Y4 → Option R := (Sum.elim (fun x => K (.exit 0) (S4 x)) (fun a => K .ret ⟨[(4, .v (.bool a))], [], 0, 26⟩))
noncomputable def L4 : qb := fun st K => adk (V4 st) fun x => P.b3b x (E4 K)
noncomputable def D : Ctx := ({ P := Tryz.prog, G := [], globs := GLO.gB, hints := [(4, ⟨[0, 1, 5], [], [4], [], none, [], [], []⟩)], loops := [(4, L4)], inl := [] } : Ctx)
theorem ak5 (K) (next) (x) : lu D (cu Tryz.f12 4) K next (S4 x) = P.bwi x (fun x => next (S4 x)) (E4 K) := by kernel_rfl
theorem avs : jq D (cu Tryz.f12 4) := eu S4 avh (by kernel_rfl) P.b5p ak5
theorem loops : bg (Tryz.f12.body.getD .skip) = [cu Tryz.f12 4] := by kernel_rfl
noncomputable def ak : Abs.Spec := fun args K => match args with
 | [.sl (.ints .u8 a), .sl (.ints .u8 b)] => P.y8 a b (fun c => K (.v (.bool c)))
 | _ => none
noncomputable def spec : Abs.Spec := fun args K => ak (kg [.sl (.ints .u8 []), .sl (.ints .u8 [])] args) K
theorem ok0 : Proved Tryz.prog GLO.gB 12 ak := by
 refine bf (D := D) (fn := Tryz.f12) (c := Tryz.f12.body.getD .skip) [.any] (by kernel_rfl) (ah (by kernel_rfl)) (by kernel_rfl) (by kernel_rfl) (by kernel_rfl) trivial trivial ?_ ?_
 · rw [loops]; exact ⟨avs, trivial⟩
 · intro args K r h
   unfold ak at h
   split at h
   · rw [P.axo] at h; exact Eq.trans (by kernel_rfl) h
   · cases h
theorem ok : Proved Tryz.prog GLO.gB 12 spec := bn _ ok0
end y8

namespace gy
abbrev X5 := P.bur
def S5 : X5 → ASt := fun (a, b, c) => ⟨[(0, .v (.int .u64 a)), (5, .own 0), (6, .v (.int .i64 b))], [(0, some ⟨.row 5 (.ints .u8 c), false⟩)], 1, 30⟩
def V5 : ASt → Option X5
 | ⟨[(0, .v (.int .u64 a)), (5, .own 0), (6, .v (.int .i64 b))], [(0, some ⟨.row 5 (.ints .u8 c), false⟩)], 1, 30⟩ => some (a, b, c)
 | _ => none
theorem av2 (st) (x) (h : V5 st = some x) : st = S5 x := by
 unfold V5 at h
 split at h
 · cases h; rfl
 · cases h
abbrev Y5 := P.b1n
def E5 (K : AExit → ASt → Option R) : Y5 → Option R := (fun x => K (.exit 0) (S5 x))
noncomputable def L5 : qb := fun st K => adk (V5 st) fun x => P.b5e x (E5 K)
noncomputable def D : Ctx := ({ P := Tryz.prog, G := [], globs := GLO.gB, hints := [(5, ⟨[0, 5, 6], [], [4], [], none, [], [], []⟩)], loops := [(5, L5)], inl := [] } : Ctx)
theorem ale (K) (next) (x) : lu D (cu Tryz.f32 5) K next (S5 x) = P.bwk x (fun x => next (S5 x)) (E5 K) := by kernel_rfl
theorem aw4 : jq D (cu Tryz.f32 5) := eu S5 av2 (by kernel_rfl) P.b51 ale
theorem loops : bg (Tryz.f32.body.getD .skip) = [cu Tryz.f32 5] := by kernel_rfl
noncomputable def ak : Abs.Spec := fun args K => match args with
 | [.v (.int .u64 a), .v (.int .i64 b)] => P.gy a b (fun c => K (.fr 5 (.ints .u8 c)))
 | _ => none
noncomputable def spec : Abs.Spec := ak
theorem ok0 : Proved Tryz.prog GLO.gB 32 ak := by
 refine bf (D := D) (fn := Tryz.f32) (c := Tryz.f32.body.getD .skip) [.fr 5 (.ints .u8 [])] (by kernel_rfl) (ah (by kernel_rfl)) (by kernel_rfl) (by kernel_rfl) (by kernel_rfl) trivial trivial ?_ ?_
 · rw [loops]; exact ⟨aw4, trivial⟩
 · intro args K r h
   unfold ak at h
   split at h
   · rw [P.bda] at h; exact Eq.trans (by kernel_rfl) h
   · cases h
theorem ok : Proved Tryz.prog GLO.gB 32 spec := ok0
end gy

namespace kr
abbrev X3 := P.bwf
def S3 : X3 → ASt := fun (a, b, c) => ⟨[(3, .own 0), (0, .sl (.rows .u8 a)), (4, .v (.int .i64 b))], [(0, some ⟨.row 5 (.ints .u8 c), false⟩)], 1, 18⟩
def V3 : ASt → Option X3
 | ⟨[(3, .own 0), (0, .sl (.rows .u8 a)), (4, .v (.int .i64 b))], [(0, some ⟨.row 5 (.ints .u8 c), false⟩)], 1, 18⟩ => some (a, b, c)
 | _ => none
theorem anu (st) (x) (h : V3 st = some x) : st = S3 x := by
 unfold V3 at h
 split at h
 · cases h; rfl
 · cases h
abbrev Y3 := P.b0e
def E3 (K : AExit → ASt → Option R) : Y3 → Option R := (fun x => K (.exit 0) (S3 x))
noncomputable def L3 : qb := fun st K => adk (V3 st) fun x => P.b35 x (E3 K)
noncomputable def D : Ctx := ({ P := Tryz.prog, G := [], globs := GLO.gB, hints := [(3, ⟨[0, 4], [(3, 5, .ints .u8 [])], [2], [], none, [], [], []⟩)], loops := [(3, L3)], inl := [] } : Ctx)
theorem ahi (K) (next) (x) : lu D (cu Tryz.f37 3) K next (S3 x) = P.bus x (fun x => next (S3 x)) (E3 K) := by kernel_rfl
theorem an2 : jq D (cu Tryz.f37 3) := eu S3 anu (by kernel_rfl) P.b65 ahi
theorem loops : bg (Tryz.f37.body.getD .skip) = [cu Tryz.f37 3] := by kernel_rfl
noncomputable def ak : Abs.Spec := fun args K => match args with
 | [.sl (.rows .u8 a)] => P.kr a (fun b => K (.fr 5 (.ints .u8 b)))
 | _ => none
noncomputable def spec : Abs.Spec := fun args K => ak (kg [.sl (.rows .u8 [])] args) K
theorem ok0 : Proved Tryz.prog GLO.gB 37 ak := by
 refine bf (D := D) (fn := Tryz.f37) (c := Tryz.f37.body.getD .skip) [.fr 5 (.ints .u8 [])] (by kernel_rfl) (ah (by kernel_rfl)) (by kernel_rfl) (by kernel_rfl) (by kernel_rfl) trivial trivial ?_ ?_
 · rw [loops]; exact ⟨an2, trivial⟩
 · intro args K r h
   unfold ak at h
   split at h
   · rw [P.av9] at h; exact Eq.trans (by kernel_rfl) h
   · cases h
theorem ok : Proved Tryz.prog GLO.gB 37 spec := bn _ ok0
end kr

namespace af6
noncomputable def D : Ctx := ({ P := Tryz.prog, G := [(32, gy.spec), (49, uw.spec), (70, om.spec)], globs := GLO.gB, hints := [], loops := [], inl := [] } : Ctx)
theorem loops : bg (Tryz.f43.body.getD .skip) = [] := by kernel_rfl
noncomputable def ak : Abs.Spec := fun args K => match args with
 | [.agg [.v (.int .i64 a), .v (.int .i64 b)]] => P.af6 a b (fun c => K (.fr 5 (.ints .u8 c)))
 | _ => none
noncomputable def spec : Abs.Spec := ak
theorem ok0 : Proved Tryz.prog GLO.gB 43 ak := by
 refine bf (D := D) (fn := Tryz.f43) (c := Tryz.f43.body.getD .skip) [.fr 5 (.ints .u8 [])] (by kernel_rfl) (ah (by kernel_rfl)) (by kernel_rfl) (by kernel_rfl) (by kernel_rfl) ⟨gy.ok, uw.ok, om.ok, trivial⟩ trivial ?_ ?_
 · rw [loops]; exact trivial
 · intro args K r h
   unfold ak at h
   split at h
   · rw [P.axb] at h; exact Eq.trans (by kernel_rfl) h
   · cases h
theorem ok : Proved Tryz.prog GLO.gB 43 spec := ok0
end af6

namespace wz
noncomputable def D : Ctx := ({ P := Tryz.prog, G := [], globs := GLO.gB, hints := [], loops := [], inl := [] } : Ctx)
theorem loops : bg (Tryz.f110.body.getD .skip) = [] := by kernel_rfl
noncomputable def ak : Abs.Spec := fun args K => match args with
 | [.v (.int .i64 a)] => P.wz a (fun b => K (.v (.int .i64 b)))
 | _ => none
noncomputable def spec : Abs.Spec := ak
theorem ok0 : Proved Tryz.prog GLO.gB 110 ak := by
 refine bf (D := D) (fn := Tryz.f110) (c := Tryz.f110.body.getD .skip) [.any] (by kernel_rfl) (ah (by kernel_rfl)) (by kernel_rfl) (by kernel_rfl) (by kernel_rfl) trivial trivial ?_ ?_
 · rw [loops]; exact trivial
 · intro args K r h
   unfold ak at h
   split at h
   · rw [P.ato] at h; exact Eq.trans (by kernel_rfl) h
   · cases h
theorem ok : Proved Tryz.prog GLO.gB 110 spec := ok0
end wz

namespace yc
noncomputable def D : Ctx := ({ P := Tryz.prog, G := [], globs := GLO.gB, hints := [], loops := [], inl := [] } : Ctx)
theorem loops : bg (Tryz.f126.body.getD .skip) = [] := by kernel_rfl
noncomputable def ak : Abs.Spec := fun args K => match args with
 | [.v (.int .u64 a), .v (.int .i64 b), .v (.bool c)] => P.yc a b c (fun d => K (.v (.int .u64 d)))
 | _ => none
noncomputable def spec : Abs.Spec := ak
theorem ok0 : Proved Tryz.prog GLO.gB 126 ak := by
 refine bf (D := D) (fn := Tryz.f126) (c := Tryz.f126.body.getD .skip) [.any] (by kernel_rfl) (ah (by kernel_rfl)) (by kernel_rfl) (by kernel_rfl) (by kernel_rfl) trivial trivial ?_ ?_
 · rw [loops]; exact trivial
 · intro args K r h
   unfold ak at h
   split at h
   · rw [P.ahx] at h; exact Eq.trans (by kernel_rfl) h
   · cases h
theorem ok : Proved Tryz.prog GLO.gB 126 spec := ok0
end yc

namespace xu
noncomputable def D : Ctx := ({ P := Tryz.prog, G := [(126, yc.spec)], globs := GLO.gB, hints := [], loops := [], inl := [] } : Ctx)
theorem loops : bg (Tryz.f120.body.getD .skip) = [] := by kernel_rfl
noncomputable def ak : Abs.Spec := fun args K => match args with
 | [.v (.int .u64 a), .v (.int .i64 b), .v (.int .i64 c), .v (.int .i64 d), .v (.bool e), .v (.bool f)] => P.xu a b c d e f (fun g => K (.v (.int .u64 g)))
 | _ => none
noncomputable def spec : Abs.Spec := ak
theorem ok0 : Proved Tryz.prog GLO.gB 120 ak := by
 refine bf (D := D) (fn := Tryz.f120) (c := Tryz.f120.body.getD .skip) [.any] (by kernel_rfl) (ah (by kernel_rfl)) (by kernel_rfl) (by kernel_rfl) (by kernel_rfl) ⟨yc.ok, trivial⟩ trivial ?_ ?_
 · rw [loops]; exact trivial
 · intro args K r h
   unfold ak at h
   split at h
   · rw [P.aer] at h; exact Eq.trans (by kernel_rfl) h
   · cases h
theorem ok : Proved Tryz.prog GLO.gB 120 spec := ok0
end xu

namespace vv
noncomputable def D : Ctx := ({ P := Tryz.prog, G := [], globs := GLO.gB, hints := [], loops := [], inl := [] } : Ctx)
theorem loops : bg (Tryz.f117.body.getD .skip) = [] := by kernel_rfl
noncomputable def ak : Abs.Spec := fun args K => match args with
 | [] => P.vv (fun a => K (.arr .u64 64 a))
 | _ => none
noncomputable def spec : Abs.Spec := ak
theorem ok0 : Proved Tryz.prog GLO.gB 117 ak := by
 refine bf (D := D) (fn := Tryz.f117) (c := Tryz.f117.body.getD .skip) [.any] (by kernel_rfl) (ah (by kernel_rfl)) (by kernel_rfl) (by kernel_rfl) (by kernel_rfl) trivial trivial ?_ ?_
 · rw [loops]; exact trivial
 · intro args K r h
   unfold ak at h
   split at h
   · rw [P.ahj] at h; exact Eq.trans (by kernel_rfl) h
   · cases h
theorem ok : Proved Tryz.prog GLO.gB 117 spec := ok0
end vv

namespace vo
noncomputable def D : Ctx := ({ P := Tryz.prog, G := [], globs := GLO.gB, hints := [], loops := [], inl := [] } : Ctx)
theorem loops : bg (Tryz.f118.body.getD .skip) = [] := by kernel_rfl
noncomputable def ak : Abs.Spec := fun args K => match args with
 | [] => P.vo (fun a => K (.arr .u64 80 a))
 | _ => none
noncomputable def spec : Abs.Spec := ak
theorem ok0 : Proved Tryz.prog GLO.gB 118 ak := by
 refine bf (D := D) (fn := Tryz.f118) (c := Tryz.f118.body.getD .skip) [.any] (by kernel_rfl) (ah (by kernel_rfl)) (by kernel_rfl) (by kernel_rfl) (by kernel_rfl) trivial trivial ?_ ?_
 · rw [loops]; exact trivial
 · intro args K r h
   unfold ak at h
   split at h
   · rw [P.ag8] at h; exact Eq.trans (by kernel_rfl) h
   · cases h
theorem ok : Proved Tryz.prog GLO.gB 118 spec := ok0
end vo

namespace aft
abbrev X3 := P.btq
def S3 : X3 → ASt := fun (a, b, c) => ⟨[(0, .sl (.ints .u8 a)), (3, .v (.int .u64 b)), (4, .v (.int .i64 c))], [], 0, 20⟩
def V3 : ASt → Option X3
 | ⟨[(0, .sl (.ints .u8 a)), (3, .v (.int .u64 b)), (4, .v (.int .i64 c))], [], 0, 20⟩ => some (a, b, c)
 | _ => none
theorem anu (st) (x) (h : V3 st = some x) : st = S3 x := by
 unfold V3 at h
 split at h
 · cases h; rfl
 · cases h
abbrev Y3 := P.b1e
def E3 (K : AExit → ASt → Option R) : Y3 → Option R := (fun x => K (.exit 0) (S3 x))
noncomputable def L3 : qb := fun st K => adk (V3 st) fun x => P.b21 x (E3 K)
noncomputable def D : Ctx := ({ P := Tryz.prog, G := [], globs := GLO.gB, hints := [(3, ⟨[0, 3, 4], [], [2], [], none, [], [], []⟩)], loops := [(3, L3)], inl := [] } : Ctx)
theorem ahi (K) (next) (x) : lu D (cu Tryz.f125 3) K next (S3 x) = P.bw6 x (fun x => next (S3 x)) (E3 K) := by kernel_rfl
theorem an2 : jq D (cu Tryz.f125 3) := eu S3 anu (by kernel_rfl) P.b7e ahi
theorem loops : bg (Tryz.f125.body.getD .skip) = [cu Tryz.f125 3] := by kernel_rfl
noncomputable def ak : Abs.Spec := fun args K => match args with
 | [.sl (.ints .u8 a)] => P.aft a (fun b => K (.v (.int .u64 b)))
 | _ => none
noncomputable def spec : Abs.Spec := fun args K => ak (kg [.sl (.ints .u8 [])] args) K
theorem ok0 : Proved Tryz.prog GLO.gB 125 ak := by
 refine bf (D := D) (fn := Tryz.f125) (c := Tryz.f125.body.getD .skip) [.any] (by kernel_rfl) (ah (by kernel_rfl)) (by kernel_rfl) (by kernel_rfl) (by kernel_rfl) trivial trivial ?_ ?_
 · rw [loops]; exact ⟨an2, trivial⟩
 · intro args K r h
   unfold ak at h
   split at h
   · rw [P.ay9] at h; exact Eq.trans (by kernel_rfl) h
   · cases h
theorem ok : Proved Tryz.prog GLO.gB 125 spec := bn _ ok0
end aft

namespace abd
abbrev X6 := P.bv2
def S6 : X6 → ASt := fun (b, c, d, e, f, a, g) => ⟨[(10, .own 0), (0, .sl (.ints .u8 b)), (1, .v (.bool c)), (2, .v (.int .i64 d)), (3, .v (.int .u64 e)), (9, .v (.int .i64 f)), (11, .v (.int .i64 a))], [(0, some ⟨.row 26 (.ints .u64 g), false⟩)], 1, 82⟩
def V6 : ASt → Option X6
 | ⟨[(10, .own 0), (0, .sl (.ints .u8 b)), (1, .v (.bool c)), (2, .v (.int .i64 d)), (3, .v (.int .u64 e)), (9, .v (.int .i64 f)), (11, .v (.int .i64 a))], [(0, some ⟨.row 26 (.ints .u64 g), false⟩)], 1, 82⟩ => some (b, c, d, e, f, a, g)
 | _ => none
theorem bfz (st) (x) (h : V6 st = some x) : st = S6 x := by
 unfold V6 at h
 split at h
 · cases h; rfl
 · cases h
abbrev Y6 := P.bzz
def E6 (K : AExit → ASt → Option R) : Y6 → Option R := (fun x => K (.exit 0) (S6 x))
noncomputable def L6 : qb := fun st K => adk (V6 st) fun x => P.bzh x (E6 K)
noncomputable def D : Ctx := ({ P := Tryz.prog, G := [(120, xu.spec), (125, aft.spec)], globs := GLO.gB, hints := [(6, ⟨[0, 1, 2, 3, 9, 11], [(10, 26, .ints .u64 [])], [8], [], none, [], [], []⟩)], loops := [(6, L6)], inl := [] } : Ctx)
theorem axh (K) (next) (x) : lu D (cu Tryz.f119 6) K next (S6 x) = P.btb x (fun x => next (S6 x)) (E6 K) := by kernel_rfl
theorem bgd : jq D (cu Tryz.f119 6) := eu S6 bfz (by kernel_rfl) P.b7b axh
theorem loops : bg (Tryz.f119.body.getD .skip) = [cu Tryz.f119 6] := by kernel_rfl
noncomputable def ak : Abs.Spec := fun args K => match args with
 | [.sl (.ints .u8 a), .v (.bool b), .v (.int .i64 c), .v (.int .u64 d)] => P.abd a b c d (fun e => K (.fr 26 (.ints .u64 e)))
 | _ => none
noncomputable def spec : Abs.Spec := fun args K => ak (kg [.sl (.ints .u8 []), .any, .any, .any] args) K
theorem ok0 : Proved Tryz.prog GLO.gB 119 ak := by
 refine bf (D := D) (fn := Tryz.f119) (c := Tryz.f119.body.getD .skip) [.fr 26 (.ints .u64 [])] (by kernel_rfl) (ah (by kernel_rfl)) (by kernel_rfl) (by kernel_rfl) (by kernel_rfl) ⟨xu.ok, aft.ok, trivial⟩ trivial ?_ ?_
 · rw [loops]; exact ⟨bgd, trivial⟩
 · intro args K r h
   unfold ak at h
   split at h
   · rw [P.alo] at h; exact Eq.trans (by kernel_rfl) h
   · cases h
theorem ok : Proved Tryz.prog GLO.gB 119 spec := bn _ ok0
end abd

namespace acz
abbrev X11 := P.bv7
def S11 : X11 → ASt := fun (g, h, i, f, a, b, c, d, j, e) => ⟨[(2, .v (.bool g)), (3, .ptr 0 0), (6, .ptr 1 0), (7, .v (.int .i64 h)), (8, .v (.int .u64 i)), (9, .ptr 2 0), (10, .ptr 3 0), (11, .own 4), (12, .ptr 5 0), (13, .v (.int .i64 f))], [(0, some ⟨.box 125 [.arr .u64 8 a], false⟩), (1, some ⟨.box 125 [.arr .u64 8 b], false⟩), (2, some ⟨.box 158 [.arr .u64 64 c], false⟩), (3, some ⟨.box 160 [.arr .u64 80 d], false⟩), (4, some ⟨.row 26 (.ints .u64 j), false⟩), (5, some ⟨.box 125 [.arr .u64 8 e], false⟩)], 6, 137⟩
def V11 : ASt → Option X11
 | ⟨[(2, .v (.bool g)), (3, .ptr 0 0), (6, .ptr 1 0), (7, .v (.int .i64 h)), (8, .v (.int .u64 i)), (9, .ptr 2 0), (10, .ptr 3 0), (11, .own 4), (12, .ptr 5 0), (13, .v (.int .i64 f))], [(0, some ⟨.box 125 [.arr .u64 8 a], false⟩), (1, some ⟨.box 125 [.arr .u64 8 b], false⟩), (2, some ⟨.box 158 [.arr .u64 64 c], false⟩), (3, some ⟨.box 160 [.arr .u64 80 d], false⟩), (4, some ⟨.row 26 (.ints .u64 j), false⟩), (5, some ⟨.box 125 [.arr .u64 8 e], false⟩)], 6, 137⟩ => some (g, h, i, f, a, b, c, d, j, e)
 | _ => none
theorem bnq (st) (x) (h : V11 st = some x) : st = S11 x := by
 unfold V11 at h
 split at h
 · cases h; rfl
 · cases h
abbrev Y11 := P.b4k
abbrev X25 := P.bt0
def S25 : X25 → ASt := fun (e, d, a, b, c) => ⟨[(3, .ptr 0 0), (6, .ptr 1 0), (8, .v (.int .u64 e)), (12, .ptr 5 0), (19, .v (.int .i64 d))], [(0, some ⟨.box 125 [.arr .u64 8 a], false⟩), (1, some ⟨.box 125 [.arr .u64 8 b], false⟩), (5, some ⟨.box 125 [.arr .u64 8 c], false⟩)], 80, 137⟩
def V25 : ASt → Option X25
 | ⟨[(3, .ptr 0 0), (6, .ptr 1 0), (8, .v (.int .u64 e)), (12, .ptr 5 0), (19, .v (.int .i64 d))], [(0, some ⟨.box 125 [.arr .u64 8 a], false⟩), (1, some ⟨.box 125 [.arr .u64 8 b], false⟩), (5, some ⟨.box 125 [.arr .u64 8 c], false⟩)], 80, 137⟩ => some (e, d, a, b, c)
 | _ => none
theorem bvc (st) (x) (h : V25 st = some x) : st = S25 x := by
 unfold V25 at h
 split at h
 · cases h; rfl
 · cases h
abbrev Y25 := P.b2c
def E11 (K : AExit → ASt → Option R) : Y11 → Option R := (fun x => K (.exit 0) (S11 x))
noncomputable def L11 : qb := fun st K => adk (V11 st) fun x => P.b2t x (E11 K)
def E25 (K : AExit → ASt → Option R) : Y25 → Option R := (fun x => K (.exit 2) (S25 x))
noncomputable def L25 : qb := fun st K => adk (V25 st) fun x => P.b5m x (E25 K)
noncomputable def D : Ctx := ({ P := Tryz.prog, G := [(117, vv.spec), (118, vo.spec), (119, abd.spec), (120, xu.spec)], globs := GLO.gB, hints := [(25, ⟨[3, 6, 8, 12, 19], [], [6], [], some (80, [0, 1, 5]), [], [], []⟩), (11, ⟨[2, 3, 6, 7, 8, 9, 10, 11, 12, 13], [], [6], [], none, [], [], []⟩)], loops := [(11, L11), (25, L25)], inl := [] } : Ctx)
theorem bgh (K) (next) (x) : lu D (cu Tryz.f111 11) K next (S11 x) = P.bti x (fun x => next (S11 x)) (E11 K) := by kernel_rfl
theorem blo : jq D (cu Tryz.f111 11) := eu S11 bnq (by kernel_rfl) P.b6h bgh
theorem brf (K) (next) (x) : lu D (cu Tryz.f111 25) K next (S25 x) = P.btd x (fun x => next (S25 x)) (E25 K) := by kernel_rfl
theorem bw1 : jq D (cu Tryz.f111 25) := eu S25 bvc (by kernel_rfl) P.b5r brf
theorem loops : bg (Tryz.f111.body.getD .skip) = [cu Tryz.f111 11, cu Tryz.f111 25] := by kernel_rfl
noncomputable def ak : Abs.Spec := fun args K => match args with
 | [.arr .u64 8 a, .sl (.ints .u8 b), .v (.bool c)] => P.acz a b c (fun d => K (.arr .u64 8 d))
 | _ => none
noncomputable def spec : Abs.Spec := fun args K => ak (kg [.any, .sl (.ints .u8 []), .any] args) K
theorem ok0 : Proved Tryz.prog GLO.gB 111 ak := by
 refine bf (D := D) (fn := Tryz.f111) (c := Tryz.f111.body.getD .skip) [.any] (by kernel_rfl) (ah (by kernel_rfl)) (by kernel_rfl) (by kernel_rfl) (by kernel_rfl) ⟨vv.ok, vo.ok, abd.ok, xu.ok, trivial⟩ trivial ?_ ?_
 · rw [loops]; exact ⟨blo, bw1, trivial⟩
 · intro args K r h
   unfold ak at h
   split at h
   · rw [P.aky] at h; exact Eq.trans (by kernel_rfl) h
   · cases h
theorem ok : Proved Tryz.prog GLO.gB 111 spec := bn _ ok0
end acz

namespace abf
abbrev X4 := P.bwr
def S4 : X4 → ASt := fun (h, i, a, b, c, d, e, f, g) => ⟨[(2, .ptr 0 0), (4, .ptr 1 0), (5, .v (.int .i64 h)), (6, .sl (.ints .u8 i))], [(0, some ⟨.box 127 [.v (.int .i64 a), .arr .u64 8 b, .sl (.ints .u8 c), .v (.int .u64 d)], false⟩), (1, some ⟨.box 127 [.v (.int .i64 e), .arr .u64 8 f, .v (.slice none 0 0), .v (.int .u64 g)], false⟩)], 40, 41⟩
def V4 : ASt → Option X4
 | ⟨[(2, .ptr 0 0), (4, .ptr 1 0), (5, .v (.int .i64 h)), (6, .sl (.ints .u8 i))], [(0, some ⟨.box 127 [.v (.int .i64 a), .arr .u64 8 b, .sl (.ints .u8 c), .v (.int .u64 d)], false⟩), (1, some ⟨.box 127 [.v (.int .i64 e), .arr .u64 8 f, .v (.slice none 0 0), .v (.int .u64 g)], false⟩)], 40, 41⟩ => some (h, i, a, b, c, d, e, f, g)
 | _ => none
theorem avh (st) (x) (h : V4 st = some x) : st = S4 x := by
 unfold V4 at h
 split at h
 · cases h; rfl
 · cases h
abbrev Y4 := P.b1i
def E4 (K : AExit → ASt → Option R) : Y4 → Option R := (fun x => K (.exit 0) (S4 x))
noncomputable def L4 : qb := fun st K => adk (V4 st) fun x => P.bzf x (E4 K)
noncomputable def D : Ctx := ({ P := Tryz.prog, G := [(37, kr.spec), (110, wz.spec), (111, acz.spec)], globs := GLO.gB, hints := [(4, ⟨[2, 4, 5, 6], [], [4], [(6, .sl (.ints .u8 []))], some (40, [0, 1]), [], [], []⟩)], loops := [(4, L4)], inl := [] } : Ctx)
theorem ak5 (K) (next) (x) : lu D (cu Tryz.f100 4) K next (S4 x) = P.btf x (fun x => next (S4 x)) (E4 K) := by kernel_rfl
theorem avs : jq D (cu Tryz.f100 4) := eu S4 avh (by kernel_rfl) P.b6a ak5
theorem loops : bg (Tryz.f100.body.getD .skip) = [cu Tryz.f100 4] := by kernel_rfl
noncomputable def ak : Abs.Spec := fun args K => match args with
 | [.agg [.v (.int .i64 c), .arr .u64 8 a, .sl (.ints .u8 d), .v (.int .u64 e)], .sl (.ints .u8 i)] => P.abf c a d e i (fun f b g h => K (.agg [.v (.int .i64 f), .arr .u64 8 b, .sl (.ints .u8 g), .v (.int .u64 h)]))
 | _ => none
noncomputable def spec : Abs.Spec := fun args K => ak (kg [.agg [.any, .any, .sl (.ints .u8 []), .any], .sl (.ints .u8 [])] args) K
theorem ok0 : Proved Tryz.prog GLO.gB 100 ak := by
 refine bf (D := D) (fn := Tryz.f100) (c := Tryz.f100.body.getD .skip) [.agg [.any, .any, .sl (.ints .u8 []), .any]] (by kernel_rfl) (ah (by kernel_rfl)) (by kernel_rfl) (by kernel_rfl) (by kernel_rfl) ⟨kr.ok, wz.ok, acz.ok, trivial⟩ trivial ?_ ?_
 · rw [loops]; exact ⟨avs, trivial⟩
 · intro args K r h
   unfold ak at h
   split at h
   · rw [P.ay3] at h; exact Eq.trans (by kernel_rfl) h
   · cases h
theorem ok : Proved Tryz.prog GLO.gB 100 spec := bn _ ok0
end abf

end
