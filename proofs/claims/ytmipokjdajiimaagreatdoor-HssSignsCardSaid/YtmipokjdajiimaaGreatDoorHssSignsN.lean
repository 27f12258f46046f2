/-
  HssSigns, part 14: an interpreter of my own over abstract values, the pure functions, the walks and the plain law.
-/

import Derived.Test.YtmipokjdajiimaaGreatDoorHssSignsI
import Derived.Test.YtmipokjdajiimaaGreatDoorHssSignsH
import Derived.Test.YtmipokjdajiimaaGreatDoorProg
import Derived.Test.YtmipokjdajiimaaGreatDoorHssSignsJ
import Derived.Test.YtmipokjdajiimaaGreatDoorHssSignsM
import Derived.KernelRfl
import Derived.Test.YtmipokjdajiimaaGreatDoorHssSignsK

section
open Go Go.Abs Go.Proofs
set_option maxRecDepth 100000
set_option maxHeartbeats 0
set_option linter.unusedVariables false

namespace gu
abbrev b59 := P.bxa
def bu7 : b59 → ASt := fun (a, b, c) => ⟨[(0, .own 0), (2, .v (.int .i64 a)), (3, .v (.int .i64 b))], [(0, some ⟨.row 5 (.ints .u8 c), false⟩)], 1, 28⟩
def b4j : ASt → Option b59
 | ⟨[(0, .own 0), (2, .v (.int .i64 a)), (3, .v (.int .i64 b))], [(0, some ⟨.row 5 (.ints .u8 c), false⟩)], 1, 28⟩ => some (a, b, c)
 | _ => none
theorem brs (st) (x) (h : b4j st = some x) : st = bu7 x := by
 unfold b4j at h
 split at h
 · cases h; rfl
 · cases h
abbrev Y1_1 := P.b24
def b62 (K : AExit → ASt → Option R) : Y1_1 → Option R := (fun x => K (.exit 0) (bu7 x))
noncomputable def L1_1 : qb := fun st K => adk (b4j st) fun x => P.b5c x (b62 K)
noncomputable def D1 : Ctx := ({ P := Tryz.prog, G := [(57, aes.spec)], globs := GLO.gB, hints := [(1, ⟨[0, 2, 3], [], [], [], none, [], [], []⟩)], loops := [(1, L1_1)], inl := [] } : Ctx)
noncomputable def D : Ctx := ({ P := Tryz.prog, G := [(57, aes.spec)], globs := GLO.gB, hints := [], loops := [], inl := [(58, ahe D1 Tryz.f58)] } : Ctx)
theorem bog (K) (next) (x) : lu D1 (cu Tryz.f58 1) K next (bu7 x) = P.bvs x (fun x => next (bu7 x)) (b62 K) := by kernel_rfl
theorem brh : jq D1 (cu Tryz.f58 1) := eu bu7 brs (by kernel_rfl) P.b5t bog
theorem loops : bg (Tryz.f30.body.getD .skip) = [] := by kernel_rfl
theorem ava : bg (Tryz.f58.body.getD .skip) = [cu Tryz.f58 1] := by kernel_rfl
noncomputable def ak : Abs.Spec := fun args K => match args with
 | [.v (.int .u64 a), .v (.int .i64 b)] => P.gu a b (fun c => K (.fr 5 (.ints .u8 c)))
 | _ => none
noncomputable def spec : Abs.Spec := ak
theorem ok0 : Proved Tryz.prog GLO.gB 30 ak := by
 refine bf (D := D) (fn := Tryz.f30) (c := Tryz.f30.body.getD .skip) [.fr 5 (.ints .u8 [])] (by kernel_rfl) (ah (by kernel_rfl)) (by kernel_rfl) (by kernel_rfl) (by kernel_rfl) ⟨aes.ok, trivial⟩ ⟨axj (D := D1) (D' := D) (fn := Tryz.f58) (c := Tryz.f58.body.getD .skip) rfl rfl (by kernel_rfl) (ah (by kernel_rfl)) (by kernel_rfl) (by kernel_rfl) (by kernel_rfl) ⟨aes.ok, trivial⟩ trivial (by rw [ava]; exact ⟨brh, trivial⟩) (fun _ _ _ _ _ h => h), trivial⟩ ?_ ?_
 · rw [loops]; exact trivial
 · intro args K r h
   unfold ak at h
   split at h
   · rw [P.az6] at h; exact Eq.trans (by kernel_rfl) h
   · cases h
theorem ok : Proved Tryz.prog GLO.gB 30 spec := ok0
end gu

namespace ac2
noncomputable def D : Ctx := ({ P := Tryz.prog, G := [(29, fq.spec), (30, gu.spec), (46, o8.spec), (50, qc.spec)], globs := GLO.gB, hints := [], loops := [], inl := [] } : Ctx)
theorem loops : bg (Tryz.f40.body.getD .skip) = [] := by kernel_rfl
noncomputable def ak : Abs.Spec := fun args K => match args with
 | [.agg [.v (.int .i64 a), .v (.int .i64 b)]] => P.ac2 a b (fun c => K (.fr 5 (.ints .u8 c)))
 | _ => none
noncomputable def spec : Abs.Spec := ak
theorem ok0 : Proved Tryz.prog GLO.gB 40 ak := by
 refine bf (D := D) (fn := Tryz.f40) (c := Tryz.f40.body.getD .skip) [.fr 5 (.ints .u8 [])] (by kernel_rfl) (ah (by kernel_rfl)) (by kernel_rfl) (by kernel_rfl) (by kernel_rfl) ⟨fq.ok, gu.ok, o8.ok, qc.ok, trivial⟩ trivial ?_ ?_
 · rw [loops]; exact trivial
 · intro args K r h
   unfold ak at h
   split at h
   · rw [P.awy] at h; exact Eq.trans (by kernel_rfl) h
   · cases h
theorem ok : Proved Tryz.prog GLO.gB 40 spec := ok0
end ac2

namespace uy
noncomputable def D : Ctx := ({ P := Tryz.prog, G := [(84, ng.spec)], globs := GLO.gB, hints := [], loops := [], inl := [] } : Ctx)
theorem loops : bg (Tryz.f95.body.getD .skip) = [] := by kernel_rfl
noncomputable def ak : Abs.Spec := fun args K => match args with
 | [.v (.int .i64 g), .sl (.ints .u8 h), .v (.int .u32 i)] => P.uy g h i (fun e d f a b c j => K (.tuple [.agg [.v (.int .i64 e), .sl (.ints .u8 d), .v (.int .u32 f), .v (.int .i64 a), .v (.int .i64 b), .v (.int .i64 c)], .v (.int .i64 j)]))
 | _ => none
noncomputable def spec : Abs.Spec := fun args K => ak (kg [.any, .sl (.ints .u8 []), .any] args) K
theorem ok0 : Proved Tryz.prog GLO.gB 95 ak := by
 refine bf (D := D) (fn := Tryz.f95) (c := Tryz.f95.body.getD .skip) [.agg [.any, .sl (.ints .u8 []), .any, .any, .any, .any], .any] (by kernel_rfl) (ah (by kernel_rfl)) (by kernel_rfl) (by kernel_rfl) (by kernel_rfl) ⟨ng.ok, trivial⟩ trivial ?_ ?_
 · rw [loops]; exact trivial
 · intro args K r h
   unfold ak at h
   split at h
   · rw [P.am3] at h; exact Eq.trans (by kernel_rfl) h
   · cases h
theorem ok : Proved Tryz.prog GLO.gB 95 spec := bn _ ok0
end uy

namespace nk
noncomputable def D : Ctx := ({ P := Tryz.prog, G := [], globs := GLO.gB, hints := [], loops := [], inl := [] } : Ctx)
theorem loops : bg (Tryz.f115.body.getD .skip) = [] := by kernel_rfl
noncomputable def ak : Abs.Spec := fun args K => match args with
 | [.v (.int .i64 a)] => P.nk a (fun b => K (.v (.int .u64 b)))
 | _ => none
noncomputable def spec : Abs.Spec := ak
theorem ok0 : Proved Tryz.prog GLO.gB 115 ak := by
 refine bf (D := D) (fn := Tryz.f115) (c := Tryz.f115.body.getD .skip) [.any] (by kernel_rfl) (ah (by kernel_rfl)) (by kernel_rfl) (by kernel_rfl) (by kernel_rfl) trivial trivial ?_ ?_
 · rw [loops]; exact trivial
 · intro args K r h
   unfold ak at h
   split at h
   · rw [P.amy] at h; exact Eq.trans (by kernel_rfl) h
   · cases h
theorem ok : Proved Tryz.prog GLO.gB 115 spec := ok0
end nk

namespace abj
noncomputable def D : Ctx := ({ P := Tryz.prog, G := [(115, nk.spec)], globs := GLO.gB, hints := [], loops := [], inl := [] } : Ctx)
theorem loops : bg (Tryz.f105.body.getD .skip) = [] := by kernel_rfl
noncomputable def ak : Abs.Spec := fun args K => match args with
 | [] => P.abj (fun f e a b c d => K (.agg [.v (.int .i64 f), .v (.int .i64 e), .arr .i64 3 a, .arr .i64 3 b, .arr .i64 3 c, .arr .i64 3 d, .fn (.func 115) [] []]))
 | _ => none
noncomputable def spec : Abs.Spec := ak
theorem ok0 : Proved Tryz.prog GLO.gB 105 ak := by
 refine bf (D := D) (fn := Tryz.f105) (c := Tryz.f105.body.getD .skip) [.any] (by kernel_rfl) (ah (by kernel_rfl)) (by kernel_rfl) (by kernel_rfl) (by kernel_rfl) ⟨nk.ok, trivial⟩ trivial ?_ ?_
 · rw [loops]; exact trivial
 · intro args K r h
   unfold ak at h
   split at h
   · rw [P.as0] at h; exact Eq.trans (by kernel_rfl) h
   · cases h
theorem ok : Proved Tryz.prog GLO.gB 105 spec := ok0
end abj

namespace ni
noncomputable def D : Ctx := ({ P := Tryz.prog, G := [], globs := GLO.gB, hints := [], loops := [], inl := [] } : Ctx)
theorem loops : bg (Tryz.f113.body.getD .skip) = [] := by kernel_rfl
noncomputable def ak : Abs.Spec := fun args K => match args with
 | [.v (.int .i64 a)] => P.ni a (fun b => K (.v (.int .u32 b)))
 | _ => none
noncomputable def spec : Abs.Spec := ak
theorem ok0 : Proved Tryz.prog GLO.gB 113 ak := by
 refine bf (D := D) (fn := Tryz.f113) (c := Tryz.f113.body.getD .skip) [.any] (by kernel_rfl) (ah (by kernel_rfl)) (by kernel_rfl) (by kernel_rfl) (by kernel_rfl) trivial trivial ?_ ?_
 · rw [loops]; exact trivial
 · intro args K r h
   unfold ak at h
   split at h
   · rw [P.am8] at h; exact Eq.trans (by kernel_rfl) h
   · cases h
theorem ok : Proved Tryz.prog GLO.gB 113 spec := ok0
end ni

namespace abp
noncomputable def D : Ctx := ({ P := Tryz.prog, G := [(113, ni.spec)], globs := GLO.gB, hints := [], loops := [], inl := [] } : Ctx)
theorem loops : bg (Tryz.f103.body.getD .skip) = [] := by kernel_rfl
noncomputable def ak : Abs.Spec := fun args K => match args with
 | [] => P.abp (fun f e a b c d => K (.agg [.v (.int .i64 f), .v (.int .i64 e), .arr .i64 3 a, .arr .i64 3 b, .arr .i64 3 c, .arr .i64 3 d, .fn (.func 113) [] []]))
 | _ => none
noncomputable def spec : Abs.Spec := ak
theorem ok0 : Proved Tryz.prog GLO.gB 103 ak := by
 refine bf (D := D) (fn := Tryz.f103) (c := Tryz.f103.body.getD .skip) [.any] (by kernel_rfl) (ah (by kernel_rfl)) (by kernel_rfl) (by kernel_rfl) (by kernel_rfl) ⟨ni.ok, trivial⟩ trivial ?_ ?_
 · rw [loops]; exact trivial
 · intro args K r h
   unfold ak at h
   split at h
   · rw [P.atn] at h; exact Eq.trans (by kernel_rfl) h
   · cases h
theorem ok : Proved Tryz.prog GLO.gB 103 spec := ok0
end abp

namespace av
noncomputable def D : Ctx := ({ P := Tryz.prog, G := [(113, ni.spec)], globs := GLO.gB, hints := [], loops := [], inl := [] } : Ctx)
theorem loops : bg (Tryz.f127.body.getD .skip) = [] := by kernel_rfl
noncomputable def ak : Abs.Spec := fun args K => match args with
 | [.agg [.v (.int .i64 f), .v (.int .i64 e), .arr .i64 3 a, .arr .i64 3 b, .arr .i64 3 c, .arr .i64 3 d, .fn (.func 113) [] []], .v (.int .u32 g), .v (.int .i64 h)] => P.av f e a b c d g h (fun i => K (.v (.int .u32 i)))
 | _ => none
noncomputable def spec : Abs.Spec := ak
theorem ok0 : Proved Tryz.prog GLO.gB 127 ak := by
 refine bf (D := D) (fn := Tryz.f127) (c := Tryz.f127.body.getD .skip) [.any] (by kernel_rfl) (ah (by kernel_rfl)) (by kernel_rfl) (by kernel_rfl) (by kernel_rfl) ⟨ni.ok, trivial⟩ trivial ?_ ?_
 · rw [loops]; exact trivial
 · intro args K r h
   unfold ak at h
   split at h
   · rw [P.aa7] at h; exact Eq.trans (by kernel_rfl) h
   · cases h
theorem ok : Proved Tryz.prog GLO.gB 127 spec := ok0
end av

namespace jg
noncomputable def D : Ctx := ({ P := Tryz.prog, G := [(113, ni.spec), (127, av.spec)], globs := GLO.gB, hints := [], loops := [], inl := [] } : Ctx)
theorem loops : bg (Tryz.f121.body.getD .skip) = [] := by kernel_rfl
noncomputable def ak : Abs.Spec := fun args K => match args with
 | [.agg [.v (.int .i64 f), .v (.int .i64 e), .arr .i64 3 a, .arr .i64 3 b, .arr .i64 3 c, .arr .i64 3 d, .fn (.func 113) [] []], .v (.int .u32 g), .v (.int .i64 h)] => P.jg f e a b c d g h (fun i => K (.v (.int .u32 i)))
 | _ => none
noncomputable def spec : Abs.Spec := ak
theorem ok0 : Proved Tryz.prog GLO.gB 121 ak := by
 refine bf (D := D) (fn := Tryz.f121) (c := Tryz.f121.body.getD .skip) [.any] (by kernel_rfl) (ah (by kernel_rfl)) (by kernel_rfl) (by kernel_rfl) (by kernel_rfl) ⟨ni.ok, av.ok, trivial⟩ trivial ?_ ?_
 · rw [loops]; exact trivial
 · intro args K r h
   unfold ak at h
   split at h
   · rw [P.zf] at h; exact Eq.trans (by kernel_rfl) h
   · cases h
theorem ok : Proved Tryz.prog GLO.gB 121 spec := ok0
end jg

namespace jl
noncomputable def D : Ctx := ({ P := Tryz.prog, G := [(113, ni.spec), (127, av.spec)], globs := GLO.gB, hints := [], loops := [], inl := [] } : Ctx)
theorem loops : bg (Tryz.f122.body.getD .skip) = [] := by kernel_rfl
noncomputable def ak : Abs.Spec := fun args K => match args with
 | [.agg [.v (.int .i64 f), .v (.int .i64 e), .arr .i64 3 a, .arr .i64 3 b, .arr .i64 3 c, .arr .i64 3 d, .fn (.func 113) [] []], .v (.int .u32 g), .v (.int .i64 h)] => P.jl f e a b c d g h (fun i => K (.v (.int .u32 i)))
 | _ => none
noncomputable def spec : Abs.Spec := ak
theorem ok0 : Proved Tryz.prog GLO.gB 122 ak := by
 refine bf (D := D) (fn := Tryz.f122) (c := Tryz.f122.body.getD .skip) [.any] (by kernel_rfl) (ah (by kernel_rfl)) (by kernel_rfl) (by kernel_rfl) (by kernel_rfl) ⟨ni.ok, av.ok, trivial⟩ trivial ?_ ?_
 · rw [loops]; exact trivial
 · intro args K r h
   unfold ak at h
   split at h
   · rw [P.zw] at h; exact Eq.trans (by kernel_rfl) h
   · cases h
theorem ok : Proved Tryz.prog GLO.gB 122 spec := ok0
end jl

namespace ko
abbrev X4 := P.bvd
def S4 : X4 → ASt := fun (k, l, j, a, b, c, d, e, f, g, h, i) => ⟨[(2, .sl (.ints .u8 k)), (3, .ptr 0 0), (4, .ptr 1 0), (6, .ptr 2 0), (7, .ptr 3 0), (8, .v (.int .i64 l)), (19, .v (.int .i64 j))], [(0, some ⟨.box 147 [.v (.int .i64 a), .v (.int .i64 b), .arr .i64 3 c, .arr .i64 3 d, .arr .i64 3 e, .arr .i64 3 f, .fn (.func 113) [] []], false⟩), (1, some ⟨.box 155 [.arr .u32 8 g], false⟩), (2, some ⟨.box 155 [.arr .u32 8 h], false⟩), (3, some ⟨.box 165 [.arr .u32 16 i], false⟩)], 4, 143⟩
def V4 : ASt → Option X4
 | ⟨[(2, .sl (.ints .u8 k)), (3, .ptr 0 0), (4, .ptr 1 0), (6, .ptr 2 0), (7, .ptr 3 0), (8, .v (.int .i64 l)), (19, .v (.int .i64 j))], [(0, some ⟨.box 147 [.v (.int .i64 a), .v (.int .i64 b), .arr .i64 3 c, .arr .i64 3 d, .arr .i64 3 e, .arr .i64 3 f, .fn (.func 113) [] []], false⟩), (1, some ⟨.box 155 [.arr .u32 8 g], false⟩), (2, some ⟨.box 155 [.arr .u32 8 h], false⟩), (3, some ⟨.box 165 [.arr .u32 16 i], false⟩)], 4, 143⟩ => some (k, l, j, a, b, c, d, e, f, g, h, i)
 | _ => none
theorem avh (st) (x) (h : V4 st = some x) : st = S4 x := by
 unfold V4 at h
 split at h
 · cases h; rfl
 · cases h
abbrev Y4 := P.b42
abbrev X10 := P.bwc
def S10 : X10 → ASt := fun (k, l, a, b, c, d, e, f, g, h, i, j) => ⟨[(3, .ptr 0 0), (4, .ptr 1 0), (6, .ptr 2 0), (7, .ptr 3 0), (10, .ptr 4 0), (38, .v (.int .i64 k)), (39, .v (.int .i64 l))], [(3, some ⟨.box 165 [.arr .u32 16 a], false⟩), (2, some ⟨.box 155 [.arr .u32 8 b], false⟩), (1, some ⟨.box 155 [.arr .u32 8 c], false⟩), (0, some ⟨.box 147 [.v (.int .i64 d), .v (.int .i64 e), .arr .i64 3 f, .arr .i64 3 g, .arr .i64 3 h, .arr .i64 3 i, .fn (.func 113) [] []], false⟩), (4, some ⟨.box 155 [.arr .u32 8 j], false⟩)], 5, 143⟩
def V10 : ASt → Option X10
 | ⟨[(3, .ptr 0 0), (4, .ptr 1 0), (6, .ptr 2 0), (7, .ptr 3 0), (10, .ptr 4 0), (38, .v (.int .i64 k)), (39, .v (.int .i64 l))], [(3, some ⟨.box 165 [.arr .u32 16 a], false⟩), (2, some ⟨.box 155 [.arr .u32 8 b], false⟩), (1, some ⟨.box 155 [.arr .u32 8 c], false⟩), (0, some ⟨.box 147 [.v (.int .i64 d), .v (.int .i64 e), .arr .i64 3 f, .arr .i64 3 g, .arr .i64 3 h, .arr .i64 3 i, .fn (.func 113) [] []], false⟩), (4, some ⟨.box 155 [.arr .u32 8 j], false⟩)], 5, 143⟩ => some (k, l, a, b, c, d, e, f, g, h, i, j)
 | _ => none
theorem aw7 (st) (x) (h : V10 st = some x) : st = S10 x := by
 unfold V10 at h
 split at h
 · cases h; rfl
 · cases h
abbrev Y10 := P.b49
abbrev X21 := P.bxc
def S21 : X21 → ASt := fun (a, b, c, d) => ⟨[(4, .ptr 1 0), (6, .ptr 2 0), (10, .ptr 4 0), (130, .v (.int .i64 a))], [(1, some ⟨.box 155 [.arr .u32 8 b], false⟩), (2, some ⟨.box 155 [.arr .u32 8 c], false⟩), (4, some ⟨.box 155 [.arr .u32 8 d], false⟩)], 120, 143⟩
def V21 : ASt → Option X21
 | ⟨[(4, .ptr 1 0), (6, .ptr 2 0), (10, .ptr 4 0), (130, .v (.int .i64 a))], [(1, some ⟨.box 155 [.arr .u32 8 b], false⟩), (2, some ⟨.box 155 [.arr .u32 8 c], false⟩), (4, some ⟨.box 155 [.arr .u32 8 d], false⟩)], 120, 143⟩ => some (a, b, c, d)
 | _ => none
theorem bk5 (st) (x) (h : V21 st = some x) : st = S21 x := by
 unfold V21 at h
 split at h
 · cases h; rfl
 · cases h
abbrev Y21 := P.b0p
def E4 (K : AExit → ASt → Option R) : Y4 → Option R := (fun x => K (.exit 0) (S4 x))
noncomputable def L4 : qb := fun st K => adk (V4 st) fun x => P.b2l x (E4 K)
def E10 (K : AExit → ASt → Option R) : Y10 → Option R := (fun x => K (.exit 2) (S10 x))
noncomputable def L10 : qb := fun st K => adk (V10 st) fun x => P.b4x x (E10 K)
def E21 (K : AExit → ASt → Option R) : Y21 → Option R := (fun x => K (.exit 4) (S21 x))
noncomputable def L21 : qb := fun st K => adk (V21 st) fun x => P.bzs x (E21 K)
noncomputable def D : Ctx := ({ P := Tryz.prog, G := [(54, jo.spec), (113, ni.spec), (121, jg.spec), (122, jl.spec)], globs := GLO.gB, hints := [(21, ⟨[4, 6, 10, 130], [], [6], [], some (120, [1, 2, 4]), [], [], []⟩), (10, ⟨[3, 4, 6, 7, 10, 38, 39], [], [6], [], none, [], [], []⟩), (4, ⟨[2, 3, 4, 6, 7, 8, 19], [], [6], [], none, [], [], []⟩)], loops := [(4, L4), (10, L10), (21, L21)], inl := [] } : Ctx)
theorem ak5 (K) (next) (x) : lu D (cu Tryz.f112 4) K next (S4 x) = P.bw0 x (fun x => next (S4 x)) (E4 K) := by kernel_rfl
theorem avs : jq D (cu Tryz.f112 4) := eu S4 avh (by kernel_rfl) P.b5u ak5
theorem aog (K) (next) (x) : lu D (cu Tryz.f112 10) K next (S10 x) = P.bv1 x (fun x => next (S10 x)) (E10 K) := by kernel_rfl
theorem awz : jq D (cu Tryz.f112 10) := eu S10 aw7 (by kernel_rfl) P.b56 aog
theorem bfv (K) (next) (x) : lu D (cu Tryz.f112 21) K next (S21 x) = P.bwq x (fun x => next (S21 x)) (E21 K) := by kernel_rfl
theorem bmn : jq D (cu Tryz.f112 21) := eu S21 bk5 (by kernel_rfl) P.b50 bfv
theorem loops : bg (Tryz.f112.body.getD .skip) = [cu Tryz.f112 4, cu Tryz.f112 10, cu Tryz.f112 21] := by kernel_rfl
noncomputable def ak : Abs.Spec := fun args K => match args with
 | [.agg [.v (.int .i64 f), .v (.int .i64 e), .arr .i64 3 a, .arr .i64 3 b, .arr .i64 3 c, .arr .i64 3 d, .fn (.func 113) [] []], .arr .u32 8 g, .sl (.ints .u8 h)] => P.ko f e a b c d g h (fun i => K (.arr .u32 8 i))
 | _ => none
noncomputable def spec : Abs.Spec := fun args K => ak (kg [.any, .any, .sl (.ints .u8 [])] args) K
theorem ok0 : Proved Tryz.prog GLO.gB 112 ak := by
 refine bf (D := D) (fn := Tryz.f112) (c := Tryz.f112.body.getD .skip) [.any] (by kernel_rfl) (ah (by kernel_rfl)) (by kernel_rfl) (by kernel_rfl) (by kernel_rfl) ⟨jo.ok, ni.ok, jg.ok, jl.ok, trivial⟩ trivial ?_ ?_
 · rw [loops]; exact ⟨avs, awz, bmn, trivial⟩
 · intro args K r h
   unfold ak at h
   split at h
   · rw [P.aco] at h; exact Eq.trans (by kernel_rfl) h
   · cases h
theorem ok : Proved Tryz.prog GLO.gB 112 spec := bn _ ok0
end ko

namespace oq
abbrev X3 := P.btn
def S3 : X3 → ASt := fun (l, j, k, a, b, c, d, e, f, g, h, i) => ⟨[(2, .sl (.ints .u8 l)), (3, .ptr 0 0), (4, .ptr 1 0), (6, .ptr 2 0), (8, .ptr 3 0), (14, .arr .u64 8 j), (15, .v (.int .i64 k))], [(0, some ⟨.box 147 [.v (.int .i64 a), .v (.int .i64 b), .arr .i64 3 c, .arr .i64 3 d, .arr .i64 3 e, .arr .i64 3 f, .fn (.func 113) [] []], false⟩), (1, some ⟨.box 125 [.arr .u64 8 g], false⟩), (2, some ⟨.box 125 [.arr .u64 8 h], false⟩), (3, some ⟨.box 155 [.arr .u32 8 i], false⟩)], 4, 52⟩
def V3 : ASt → Option X3
 | ⟨[(2, .sl (.ints .u8 l)), (3, .ptr 0 0), (4, .ptr 1 0), (6, .ptr 2 0), (8, .ptr 3 0), (14, .arr .u64 8 j), (15, .v (.int .i64 k))], [(0, some ⟨.box 147 [.v (.int .i64 a), .v (.int .i64 b), .arr .i64 3 c, .arr .i64 3 d, .arr .i64 3 e, .arr .i64 3 f, .fn (.func 113) [] []], false⟩), (1, some ⟨.box 125 [.arr .u64 8 g], false⟩), (2, some ⟨.box 125 [.arr .u64 8 h], false⟩), (3, some ⟨.box 155 [.arr .u32 8 i], false⟩)], 4, 52⟩ => some (l, j, k, a, b, c, d, e, f, g, h, i)
 | _ => none
theorem anu (st) (x) (h : V3 st = some x) : st = S3 x := by
 unfold V3 at h
 split at h
 · cases h; rfl
 · cases h
abbrev Y3 := P.b2z
abbrev X8 := P.btu
def S8 : X8 → ASt := fun (k, j, a, b, c, d, e, f, g, h, i) => ⟨[(2, .sl (.ints .u8 k)), (3, .ptr 0 0), (4, .ptr 1 0), (6, .ptr 2 0), (8, .ptr 3 0), (11, .v (.int .i64 j))], [(3, some ⟨.box 155 [.arr .u32 8 a], false⟩), (2, some ⟨.box 125 [.arr .u64 8 b], false⟩), (1, some ⟨.box 125 [.arr .u64 8 c], false⟩), (0, some ⟨.box 147 [.v (.int .i64 d), .v (.int .i64 e), .arr .i64 3 f, .arr .i64 3 g, .arr .i64 3 h, .arr .i64 3 i, .fn (.func 113) [] []], false⟩)], 4, 52⟩
def V8 : ASt → Option X8
 | ⟨[(2, .sl (.ints .u8 k)), (3, .ptr 0 0), (4, .ptr 1 0), (6, .ptr 2 0), (8, .ptr 3 0), (11, .v (.int .i64 j))], [(3, some ⟨.box 155 [.arr .u32 8 a], false⟩), (2, some ⟨.box 125 [.arr .u64 8 b], false⟩), (1, some ⟨.box 125 [.arr .u64 8 c], false⟩), (0, some ⟨.box 147 [.v (.int .i64 d), .v (.int .i64 e), .arr .i64 3 f, .arr .i64 3 g, .arr .i64 3 h, .arr .i64 3 i, .fn (.func 113) [] []], false⟩)], 4, 52⟩ => some (k, j, a, b, c, d, e, f, g, h, i)
 | _ => none
theorem bbh (st) (x) (h : V8 st = some x) : st = S8 x := by
 unfold V8 at h
 split at h
 · cases h; rfl
 · cases h
abbrev Y8 := P.b1z
abbrev X12 := P.bwu
def S12 : X12 → ASt := fun (e, c, d, a, b) => ⟨[(2, .sl (.ints .u8 e)), (4, .ptr 1 0), (6, .ptr 2 0), (40, .arr .u32 8 c), (41, .v (.int .i64 d))], [(1, some ⟨.box 125 [.arr .u64 8 a], false⟩), (2, some ⟨.box 125 [.arr .u64 8 b], false⟩)], 120, 52⟩
def V12 : ASt → Option X12
 | ⟨[(2, .sl (.ints .u8 e)), (4, .ptr 1 0), (6, .ptr 2 0), (40, .arr .u32 8 c), (41, .v (.int .i64 d))], [(1, some ⟨.box 125 [.arr .u64 8 a], false⟩), (2, some ⟨.box 125 [.arr .u64 8 b], false⟩)], 120, 52⟩ => some (e, c, d, a, b)
 | _ => none
theorem blv (st) (x) (h : V12 st = some x) : st = S12 x := by
 unfold V12 at h
 split at h
 · cases h; rfl
 · cases h
abbrev Y12 := P.b4q
def E3 (K : AExit → ASt → Option R) : Y3 → Option R := (fun x => K (.exit 0) (S3 x))
noncomputable def L3 : qb := fun st K => adk (V3 st) fun x => P.b27 x (E3 K)
def E8 (K : AExit → ASt → Option R) : Y8 → Option R := (fun x => K (.exit 2) (S8 x))
noncomputable def L8 : qb := fun st K => adk (V8 st) fun x => P.b33 x (E8 K)
def E12 (K : AExit → ASt → Option R) : Y12 → Option R := (fun x => K (.exit 4) (S12 x))
noncomputable def L12 : qb := fun st K => adk (V12 st) fun x => P.b4p x (E12 K)
noncomputable def D : Ctx := ({ P := Tryz.prog, G := [(112, ko.spec), (113, ni.spec)], globs := GLO.gB, hints := [(12, ⟨[2, 4, 6, 40, 41], [], [6, 7], [], some (120, [1, 2]), [], [], []⟩), (8, ⟨[2, 3, 4, 6, 8, 11], [], [6, 7], [(2, .sl (.ints .u8 []))], none, [], [], []⟩), (3, ⟨[2, 3, 4, 6, 8, 14, 15], [], [6, 7], [], none, [], [], []⟩)], loops := [(3, L3), (8, L8), (12, L12)], inl := [] } : Ctx)
theorem ahi (K) (next) (x) : lu D (cu Tryz.f102 3) K next (S3 x) = P.buv x (fun x => next (S3 x)) (E3 K) := by kernel_rfl
theorem an2 : jq D (cu Tryz.f102 3) := eu S3 anu (by kernel_rfl) P.b6b ahi
theorem aqe (K) (next) (x) : lu D (cu Tryz.f102 8) K next (S8 x) = P.bum x (fun x => next (S8 x)) (E8 K) := by kernel_rfl
theorem bcw : jq D (cu Tryz.f102 8) := eu S8 bbh (by kernel_rfl) P.b6n aqe
theorem bg5 (K) (next) (x) : lu D (cu Tryz.f102 12) K next (S12 x) = P.bu3 x (fun x => next (S12 x)) (E12 K) := by kernel_rfl
theorem bns : jq D (cu Tryz.f102 12) := eu S12 blv (by kernel_rfl) P.b68 bg5
theorem loops : bg (Tryz.f102.body.getD .skip) = [cu Tryz.f102 3, cu Tryz.f102 8, cu Tryz.f102 12] := by kernel_rfl
noncomputable def ak : Abs.Spec := fun args K => match args with
 | [.agg [.v (.int .i64 f), .v (.int .i64 e), .arr .i64 3 a, .arr .i64 3 b, .arr .i64 3 c, .arr .i64 3 d, .fn (.func 113) [] []], .arr .u64 8 g, .sl (.ints .u8 h)] => P.oq f e a b c d g h (fun i j => K (.tuple [.arr .u64 8 i, .sl (.ints .u8 j)]))
 | _ => none
noncomputable def spec : Abs.Spec := fun args K => ak (kg [.any, .any, .sl (.ints .u8 [])] args) K
theorem ok0 : Proved Tryz.prog GLO.gB 102 ak := by
 refine bf (D := D) (fn := Tryz.f102) (c := Tryz.f102.body.getD .skip) [.any, .sl (.ints .u8 [])] (by kernel_rfl) (ah (by kernel_rfl)) (by kernel_rfl) (by kernel_rfl) (by kernel_rfl) ⟨ko.ok, ni.ok, trivial⟩ trivial ?_ ?_
 · rw [loops]; exact ⟨an2, bcw, bns, trivial⟩
 · intro args K r h
   unfold ak at h
   split at h
   · rw [P.ae9] at h; exact Eq.trans (by kernel_rfl) h
   · cases h
theorem ok : Proved Tryz.prog GLO.gB 102 spec := bn _ ok0
end oq

namespace ay
noncomputable def D : Ctx := ({ P := Tryz.prog, G := [(115, nk.spec)], globs := GLO.gB, hints := [], loops := [], inl := [] } : Ctx)
theorem loops : bg (Tryz.f128.body.getD .skip) = [] := by kernel_rfl
noncomputable def ak : Abs.Spec := fun args K => match args with
 | [.agg [.v (.int .i64 f), .v (.int .i64 e), .arr .i64 3 a, .arr .i64 3 b, .arr .i64 3 c, .arr .i64 3 d, .fn (.func 115) [] []], .v (.int .u64 g), .v (.int .i64 h)] => P.ay f e a b c d g h (fun i => K (.v (.int .u64 i)))
 | _ => none
noncomputable def spec : Abs.Spec := ak
theorem ok0 : Proved Tryz.prog GLO.gB 128 ak := by
 refine bf (D := D) (fn := Tryz.f128) (c := Tryz.f128.body.getD .skip) [.any] (by kernel_rfl) (ah (by kernel_rfl)) (by kernel_rfl) (by kernel_rfl) (by kernel_rfl) ⟨nk.ok, trivial⟩ trivial ?_ ?_
 · rw [loops]; exact trivial
 · intro args K r h
   unfold ak at h
   split at h
   · rw [P.aa6] at h; exact Eq.trans (by kernel_rfl) h
   · cases h
theorem ok : Proved Tryz.prog GLO.gB 128 spec := ok0
end ay

namespace jf
noncomputable def D : Ctx := ({ P := Tryz.prog, G := [(115, nk.spec), (128, ay.spec)], globs := GLO.gB, hints := [], loops := [], inl := [] } : Ctx)
theorem loops : bg (Tryz.f123.body.getD .skip) = [] := by kernel_rfl
noncomputable def ak : Abs.Spec := fun args K => match args with
 | [.agg [.v (.int .i64 f), .v (.int .i64 e), .arr .i64 3 a, .arr .i64 3 b, .arr .i64 3 c, .arr .i64 3 d, .fn (.func 115) [] []], .v (.int .u64 g), .v (.int .i64 h)] => P.jf f e a b c d g h (fun i => K (.v (.int .u64 i)))
 | _ => none
noncomputable def spec : Abs.Spec := ak
theorem ok0 : Proved Tryz.prog GLO.gB 123 ak := by
 refine bf (D := D) (fn := Tryz.f123) (c := Tryz.f123.body.getD .skip) [.any] (by kernel_rfl) (ah (by kernel_rfl)) (by kernel_rfl) (by kernel_rfl) (by kernel_rfl) ⟨nk.ok, ay.ok, trivial⟩ trivial ?_ ?_
 · rw [loops]; exact trivial
 · intro args K r h
   unfold ak at h
   split at h
   · rw [P.ze] at h; exact Eq.trans (by kernel_rfl) h
   · cases h
theorem ok : Proved Tryz.prog GLO.gB 123 spec := ok0
end jf

namespace jm
noncomputable def D : Ctx := ({ P := Tryz.prog, G := [(115, nk.spec), (128, ay.spec)], globs := GLO.gB, hints := [], loops := [], inl := [] } : Ctx)
theorem loops : bg (Tryz.f124.body.getD .skip) = [] := by kernel_rfl
noncomputable def ak : Abs.Spec := fun args K => match args with
 | [.agg [.v (.int .i64 f), .v (.int .i64 e), .arr .i64 3 a, .arr .i64 3 b, .arr .i64 3 c, .arr .i64 3 d, .fn (.func 115) [] []], .v (.int .u64 g), .v (.int .i64 h)] => P.jm f e a b c d g h (fun i => K (.v (.int .u64 i)))
 | _ => none
noncomputable def spec : Abs.Spec := ak
theorem ok0 : Proved Tryz.prog GLO.gB 124 ak := by
 refine bf (D := D) (fn := Tryz.f124) (c := Tryz.f124.body.getD .skip) [.any] (by kernel_rfl) (ah (by kernel_rfl)) (by kernel_rfl) (by kernel_rfl) (by kernel_rfl) ⟨nk.ok, ay.ok, trivial⟩ trivial ?_ ?_
 · rw [loops]; exact trivial
 · intro args K r h
   unfold ak at h
   split at h
   · rw [P.zx] at h; exact Eq.trans (by kernel_rfl) h
   · cases h
theorem ok : Proved Tryz.prog GLO.gB 124 spec := ok0
end jm

end
