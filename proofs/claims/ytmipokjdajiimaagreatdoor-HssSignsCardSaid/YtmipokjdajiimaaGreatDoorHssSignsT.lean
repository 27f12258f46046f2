/-
  HssSigns, part 20: an interpreter of my own over abstract values, the pure functions, the walks and the plain law.
-/

import Derived.Test.YtmipokjdajiimaaGreatDoorHssSignsK
import Derived.Test.YtmipokjdajiimaaGreatDoorHssSignsH
import Derived.Test.YtmipokjdajiimaaGreatDoorProg
import Derived.Test.YtmipokjdajiimaaGreatDoorHssSignsJ
import Derived.Test.YtmipokjdajiimaaGreatDoorHssSignsM
import Derived.KernelRfl
import Derived.Test.YtmipokjdajiimaaGreatDoorHssSignsS
import Derived.Test.YtmipokjdajiimaaGreatDoorHssSignsN
import Derived.Test.YtmipokjdajiimaaGreatDoorHssSignsL
import Derived.Test.YtmipokjdajiimaaGreatDoorHssSignsO
import Derived.Test.YtmipokjdajiimaaGreatDoorHssSignsP
import Derived.Test.YtmipokjdajiimaaGreatDoorHssSignsQ
import Derived.Test.YtmipokjdajiimaaGreatDoorHssSignsR

section
open Go Go.Abs Go.Proofs
set_option maxRecDepth 100000
set_option maxHeartbeats 0
set_option linter.unusedVariables false

namespace qd
noncomputable def D : Ctx := ({ P := Tryz.prog, G := [(20, acr.spec)], globs := GLO.gB, hints := [], loops := [], inl := [] } : Ctx)
theorem loops : bg (Tryz.f39.body.getD .skip) = [] := by kernel_rfl
noncomputable def ak : Abs.Spec := fun args K => match args with
 | [.agg [.v (.int .i64 a), .v (.int .i64 b)], .sl (.ints .u8 c), .sl (.ints .u8 d)] => P.qd a b c d (fun e => K (.v (.int .i64 e)))
 | _ => none
noncomputable def spec : Abs.Spec := fun args K => ak (kg [.any, .sl (.ints .u8 []), .sl (.ints .u8 [])] args) K
theorem ok0 : Proved Tryz.prog GLO.gB 39 ak := by
 refine bf (D := D) (fn := Tryz.f39) (c := Tryz.f39.body.getD .skip) [.any] (by kernel_rfl) (ah (by kernel_rfl)) (by kernel_rfl) (by kernel_rfl) (by kernel_rfl) ⟨acr.ok, trivial⟩ trivial ?_ ?_
 · rw [loops]; exact trivial
 · intro args K r h
   unfold ak at h
   split at h
   · rw [P.alq] at h; exact Eq.trans (by kernel_rfl) h
   · cases h
theorem ok : Proved Tryz.prog GLO.gB 39 spec := bn _ ok0
end qd

namespace aat
noncomputable def D : Ctx := ({ P := Tryz.prog, G := [(29, fq.spec), (39, qd.spec), (40, ac2.spec), (41, ig.spec)], globs := GLO.gB, hints := [], loops := [], inl := [], sta := true } : Ctx)
theorem loops : bg (Tryz.f16.body.getD .skip) = [] := by kernel_rfl
noncomputable def ak : Abs.Spec := fun args K => match args with
 | [.agg [.v (.int .i64 a), .v (.int .i64 b)], .sl (.ints .u8 c), .sl (.ints .u8 d)] => P.aat a b c d (fun e f => K (.tuple [.fr 5 (.ints .u8 e), .v (.int .i64 f)]))
 | _ => none
noncomputable def spec : Abs.Spec := fun args K => ak (kg [.any, .sl (.ints .u8 []), .sl (.ints .u8 [])] args) K
theorem ok0 : Proved Tryz.prog GLO.gB 16 ak := by
 refine bf (D := D) (fn := Tryz.f16) (c := Tryz.f16.body.getD .skip) [.fr 5 (.ints .u8 []), .any] (by kernel_rfl) (ah (by kernel_rfl)) (by kernel_rfl) (by kernel_rfl) (by kernel_rfl) ⟨fq.ok, qd.ok, ac2.ok, ig.ok, trivial⟩ trivial ?_ ?_
 · rw [loops]; exact trivial
 · intro args K r h
   unfold ak at h
   split at h
   · rw [P.aou] at h; exact Eq.trans (by kernel_rfl) h
   · cases h
theorem ok : Proved Tryz.prog GLO.gB 16 spec := bn _ ok0
end aat

namespace jc
noncomputable def D : Ctx := ({ P := Tryz.prog, G := [(16, aat.spec)], globs := GLO.gB, hints := [], loops := [], inl := [] } : Ctx)
theorem loops : bg (Tryz.f31.body.getD .skip) = [] := by kernel_rfl
noncomputable def ak : Abs.Spec := fun args K => match args with
 | [.agg [.v (.int .i64 a), .v (.int .i64 b), .sl (.ints .u8 d), .sl (.ints .u8 c), .v (.int .u32 e)]] => P.jc a b d c e (fun f => K (.fr 5 (.ints .u8 f)))
 | _ => none
noncomputable def spec : Abs.Spec := fun args K => ak (kg [.agg [.any, .any, .sl (.ints .u8 []), .sl (.ints .u8 []), .any]] args) K
theorem ok0 : Proved Tryz.prog GLO.gB 31 ak := by
 refine bf (D := D) (fn := Tryz.f31) (c := Tryz.f31.body.getD .skip) [.fr 5 (.ints .u8 [])] (by kernel_rfl) (ah (by kernel_rfl)) (by kernel_rfl) (by kernel_rfl) (by kernel_rfl) ⟨aat.ok, trivial⟩ trivial ?_ ?_
 · rw [loops]; exact trivial
 · intro args K r h
   unfold ak at h
   split at h
   · rw [P.ac7] at h; exact Eq.trans (by kernel_rfl) h
   · cases h
theorem ok : Proved Tryz.prog GLO.gB 31 spec := bn _ ok0
end jc

namespace aau
noncomputable def D : Ctx := ({ P := Tryz.prog, G := [(28, adb.spec), (29, fq.spec), (30, gu.spec), (31, jc.spec)], globs := GLO.gB, hints := [], loops := [], inl := [] } : Ctx)
theorem loops : bg (Tryz.f8.body.getD .skip) = [] := by kernel_rfl
noncomputable def ak : Abs.Spec := fun args K => match args with
 | [.agg [.sl (.cols a [.ints .i64 b, .ints .i64 c]), .sl (.ints .u8 e), .sl (.ints .u8 d)]] => P.aau a b c e d (fun f g => K (.tuple [.fr 5 (.ints .u8 f), .v (.int .i64 g)]))
 | _ => none
noncomputable def spec : Abs.Spec := fun args K => ak (kg [.agg [.sl (.cols 0 [.ints .i64 [], .ints .i64 []]), .sl (.ints .u8 []), .sl (.ints .u8 [])]] args) K
theorem ok0 : Proved Tryz.prog GLO.gB 8 ak := by
 refine bf (D := D) (fn := Tryz.f8) (c := Tryz.f8.body.getD .skip) [.fr 5 (.ints .u8 []), .any] (by kernel_rfl) (ah (by kernel_rfl)) (by kernel_rfl) (by kernel_rfl) (by kernel_rfl) ⟨adb.ok, fq.ok, gu.ok, jc.ok, trivial⟩ trivial ?_ ?_
 · rw [loops]; exact trivial
 · intro args K r h
   unfold ak at h
   split at h
   · rw [P.ajm] at h; exact Eq.trans (by kernel_rfl) h
   · cases h
theorem ok : Proved Tryz.prog GLO.gB 8 spec := bn _ ok0
end aau

namespace ag6
noncomputable def D : Ctx := ({ P := Tryz.prog, G := [(91, aah.spec), (92, sw.spec), (93, aak.spec)], globs := GLO.gB, hints := [], loops := [], inl := [] } : Ctx)
theorem loops : bg (Tryz.f86.body.getD .skip) = [] := by kernel_rfl
noncomputable def ak : Abs.Spec := fun args K => match args with
 | [.v (.int .i64 a), .sl (.ints .u8 b)] => P.ag6 a b (fun c d => K (.tuple [.fr 5 (.ints .u8 c), .v (.int .i64 d)]))
 | _ => none
noncomputable def spec : Abs.Spec := fun args K => ak (kg [.any, .sl (.ints .u8 [])] args) K
theorem ok0 : Proved Tryz.prog GLO.gB 86 ak := by
 refine bf (D := D) (fn := Tryz.f86) (c := Tryz.f86.body.getD .skip) [.fr 5 (.ints .u8 []), .any] (by kernel_rfl) (ah (by kernel_rfl)) (by kernel_rfl) (by kernel_rfl) (by kernel_rfl) ⟨aah.ok, sw.ok, aak.ok, trivial⟩ trivial ?_ ?_
 · rw [loops]; exact trivial
 · intro args K r h
   unfold ak at h
   split at h
   · rw [P.azv] at h; exact Eq.trans (by kernel_rfl) h
   · cases h
theorem ok : Proved Tryz.prog GLO.gB 86 spec := bn _ ok0
end ag6

namespace je
noncomputable def D : Ctx := ({ P := Tryz.prog, G := [(29, fq.spec), (30, gu.spec), (86, ag6.spec)], globs := GLO.gB, hints := [], loops := [], inl := [] } : Ctx)
theorem loops : bg (Tryz.f60.body.getD .skip) = [] := by kernel_rfl
noncomputable def ak : Abs.Spec := fun args K => match args with
 | [.agg [.v (.int .i64 a), .v (.int .i64 b), .sl (.ints .u8 d), .sl (.ints .u8 c), .v (.int .u32 e)], .v (.int .u64 f)] => P.je a b d c e f (fun g => K (.fr 5 (.ints .u8 g)))
 | _ => none
noncomputable def spec : Abs.Spec := fun args K => ak (kg [.agg [.any, .any, .sl (.ints .u8 []), .sl (.ints .u8 []), .any], .any] args) K
theorem ok0 : Proved Tryz.prog GLO.gB 60 ak := by
 refine bf (D := D) (fn := Tryz.f60) (c := Tryz.f60.body.getD .skip) [.fr 5 (.ints .u8 [])] (by kernel_rfl) (ah (by kernel_rfl)) (by kernel_rfl) (by kernel_rfl) (by kernel_rfl) ⟨fq.ok, gu.ok, ag6.ok, trivial⟩ trivial ?_ ?_
 · rw [loops]; exact trivial
 · intro args K r h
   unfold ak at h
   split at h
   · rw [P.ah0] at h; exact Eq.trans (by kernel_rfl) h
   · cases h
theorem ok : Proved Tryz.prog GLO.gB 60 spec := bn _ ok0
end je

namespace tq
abbrev X7 := P.bt4
def S7 : X7 → ASt := fun (j, g, h, i, a, b, c, d, e, f, k) => ⟨[(15, .own 40), (3, .sl (.ints .u8 j)), (12, .ptr 0 0), (43, .own 5), (44, .v (.int .i64 g)), (45, .v (.int .i64 h))], [(40, some ⟨.row 5 (.ints .u8 i), false⟩), (0, some ⟨.box 106 [.v (.int .i64 a), .sl (.ints .u8 b), .v (.int .u32 c), .v (.int .i64 d), .v (.int .i64 e), .v (.int .i64 f)], false⟩), (5, some ⟨.row 41 (.ints .u32 k), false⟩)], 41, 63⟩
def V7 : ASt → Option X7
 | ⟨[(15, .own 40), (3, .sl (.ints .u8 j)), (12, .ptr 0 0), (43, .own 5), (44, .v (.int .i64 g)), (45, .v (.int .i64 h))], [(40, some ⟨.row 5 (.ints .u8 i), false⟩), (0, some ⟨.box 106 [.v (.int .i64 a), .sl (.ints .u8 b), .v (.int .u32 c), .v (.int .i64 d), .v (.int .i64 e), .v (.int .i64 f)], false⟩), (5, some ⟨.row 41 (.ints .u32 k), false⟩)], 41, 63⟩ => some (j, g, h, i, a, b, c, d, e, f, k)
 | _ => none
theorem blp (st) (x) (h : V7 st = some x) : st = S7 x := by
 unfold V7 at h
 split at h
 · cases h; rfl
 · cases h
abbrev Y7 := P.b46
def E7 (K : AExit → ASt → Option R) : Y7 → Option R := (fun x => K (.exit 0) (S7 x))
noncomputable def L7 : qb := fun st K => adk (V7 st) fun x => P.b3m x (E7 K)
noncomputable def D : Ctx := ({ P := Tryz.prog, G := [(29, fq.spec), (30, gu.spec), (74, qz.spec), (75, mo.spec), (76, jv.spec), (77, jy.spec)], globs := GLO.gB, hints := [(7, ⟨[3, 12, 43, 44, 45], [(15, 5, .ints .u8 [])], [10, 11], [], some (40, [0, 5]), [], [], []⟩)], loops := [(7, L7)], inl := [] } : Ctx)
theorem be4 (K) (next) (x) : lu D (cu Tryz.f45 7) K next (S7 x) = P.btw x (fun x => next (S7 x)) (E7 K) := by kernel_rfl
theorem bm6 : jq D (cu Tryz.f45 7) := eu S7 blp (by kernel_rfl) P.b5x be4
theorem loops : bg (Tryz.f45.body.getD .skip) = [cu Tryz.f45 7] := by kernel_rfl
noncomputable def ak : Abs.Spec := fun args K => match args with
 | [.v (.int .i64 a), .sl (.ints .u8 b), .v (.int .u32 c), .sl (.ints .u8 d), .sl (.ints .u8 e)] => P.tq a b c d e (fun f g => K (.tuple [.fr 5 (.ints .u8 f), .v (.int .i64 g)]))
 | _ => none
noncomputable def spec : Abs.Spec := fun args K => ak (kg [.any, .sl (.ints .u8 []), .any, .sl (.ints .u8 []), .sl (.ints .u8 [])] args) K
theorem ok0 : Proved Tryz.prog GLO.gB 45 ak := by
 refine bf (D := D) (fn := Tryz.f45) (c := Tryz.f45.body.getD .skip) [.fr 5 (.ints .u8 []), .any] (by kernel_rfl) (ah (by kernel_rfl)) (by kernel_rfl) (by kernel_rfl) (by kernel_rfl) ⟨fq.ok, gu.ok, qz.ok, mo.ok, jv.ok, jy.ok, trivial⟩ trivial ?_ ?_
 · rw [loops]; exact ⟨bm6, trivial⟩
 · intro args K r h
   unfold ak at h
   split at h
   · rw [P.apa] at h; exact Eq.trans (by kernel_rfl) h
   · cases h
theorem ok : Proved Tryz.prog GLO.gB 45 spec := bn _ ok0
end tq

namespace ae1
abbrev btv := P.bui
def bnf : btv → ASt := fun (f, e, a, b, c, d) => ⟨[(0, .yld 11 [15, 17] [.ptr 6 0, .ptr 8 0]), (4, .v (.int .u64 f))], [(840, some ⟨.row 5 (.ints .u8 e), false⟩), (6, some ⟨.box 23 [.own 840], false⟩), (8, some ⟨.box 75 [.fn (.func 41) [.sta [.v (.int .i64 a), .v (.int .i64 b), .sl (.ints .u8 c), .sl (.ints .u8 d)]] []], false⟩)], 841, 19⟩
def br0 : ASt → Option btv
 | ⟨[(0, .yld 11 [15, 17] [.ptr 6 0, .ptr 8 0]), (4, .v (.int .u64 f))], [(840, some ⟨.row 5 (.ints .u8 e), false⟩), (6, some ⟨.box 23 [.own 840], false⟩), (8, some ⟨.box 75 [.fn (.func 41) [.sta [.v (.int .i64 a), .v (.int .i64 b), .sl (.ints .u8 c), .sl (.ints .u8 d)]] []], false⟩)], 841, 19⟩ => some (f, e, a, b, c, d)
 | _ => none
theorem bg0 (st) (x) (h : br0 st = some x) : st = bnf x := by
 unfold br0 at h
 split at h
 · cases h; rfl
 · cases h
abbrev bzb := P.b4e
def bvq (K : AExit → ASt → Option R) : bzb → Option R := (fun x => K (.exit 0) (bnf x))
noncomputable def b0a : qb := fun st K => adk (br0 st) fun x => P.b0o x (bvq K)
noncomputable def D3 : Ctx := ({ P := Tryz.prog, G := [(29, fq.spec), (30, gu.spec), (39, qd.spec), (41, ig.spec), (45, tq.spec), (46, o8.spec)], globs := GLO.gB, hints := [], loops := [], inl := [], y := some (aua (acs Tryz.f18 12) 70 false), sta := true } : Ctx)
noncomputable def D2 : Ctx := ({ P := Tryz.prog, G := [(29, fq.spec), (30, gu.spec), (39, qd.spec), (41, ig.spec), (45, tq.spec), (46, o8.spec)], globs := GLO.gB, hints := [(1, ⟨[0, 4], [(1000006, 5, .ints .u8 [])], [], [], some (840, [6, 8]), [8], [], []⟩)], loops := [(1, b0a)], inl := [], y := some (aua (acs Tryz.f18 12) 70 true), ys := some (aly D3 (aua (acs Tryz.f18 12) 70 true)) } : Ctx)
noncomputable def D1 : Ctx := ({ P := Tryz.prog, G := [(29, fq.spec), (30, gu.spec), (39, qd.spec), (41, ig.spec), (45, tq.spec), (46, o8.spec)], globs := GLO.gB, hints := [], loops := [], inl := [] } : Ctx)
noncomputable def D : Ctx := ({ P := Tryz.prog, G := [(29, fq.spec), (30, gu.spec), (39, qd.spec), (41, ig.spec), (45, tq.spec), (46, o8.spec)], globs := GLO.gB, hints := [], loops := [], inl := [(47, ahe D1 Tryz.f47)], top := true, rng := [(12, ⟨78, 70, [15, 17], ahe D2 Tryz.f78⟩)], sta := true } : Ctx)
theorem bbs (K) (next) (x) : lu D2 (cu Tryz.f78 1) K next (bnf x) = P.bw9 x (fun x => next (bnf x)) (bvq K) := by kernel_rfl
theorem bgv : jq D2 (cu Tryz.f78 1) := eu bnf bg0 (by kernel_rfl) P.b69 bbs
theorem loops : bg (Tryz.f18.body.getD .skip) = [] := by kernel_rfl
theorem ava : bg (Tryz.f47.body.getD .skip) = [] := by kernel_rfl
theorem bdm : bg (Tryz.f78.body.getD .skip) = [cu Tryz.f78 1] := by kernel_rfl
theorem bfh : bg (bqq (acs Tryz.f18 12)) = [] := by kernel_rfl
theorem ranges : ql (Tryz.f18.body.getD .skip) = [acs Tryz.f18 12] := by kernel_rfl
theorem aov : al7 D2 (aly D3 (aua (acs Tryz.f18 12) 70 true)) := av3 (Y := aua (acs Tryz.f18 12) 70 true) (axu (D := D3) ⟨fq.ok, gu.ok, qd.ok, ig.ok, tq.ok, o8.ok, trivial⟩) (ah (by kernel_rfl)) (axr (D := D3) trivial (ang rfl)) (by kernel_rfl) rfl rfl (by kernel_rfl) (by kernel_rfl) rfl rfl rfl (ae4 _ (by rw [show bg (aua (acs Tryz.f18 12) 70 true).assign = [] from by kernel_rfl]; exact trivial)) (ae4 _ (by rw [show bg (aua (acs Tryz.f18 12) 70 true).body = bg (bqq (acs Tryz.f18 12)) from by kernel_rfl, bfh]; exact trivial))
noncomputable def ak : Abs.Spec := fun args K => match args with
 | [.agg [.v (.int .i64 a), .v (.int .i64 b)], .sl (.ints .u8 c), .sl (.ints .u8 d), .v (.int .u32 e), .sl (.ints .u8 f)] => P.ae1 a b c d e f (fun g h => K (.tuple [.fr 5 (.ints .u8 g), .v (.int .i64 h)]))
 | _ => none
noncomputable def spec : Abs.Spec := fun args K => ak (kg [.any, .sl (.ints .u8 []), .sl (.ints .u8 []), .any, .sl (.ints .u8 [])] args) K
theorem ok0 : Proved Tryz.prog GLO.gB 18 ak := by
 refine bf (D := D) (fn := Tryz.f18) (c := Tryz.f18.body.getD .skip) [.fr 5 (.ints .u8 []), .any] (by kernel_rfl) (ah (by kernel_rfl)) (by kernel_rfl) (by kernel_rfl) (by kernel_rfl) ⟨fq.ok, gu.ok, qd.ok, ig.ok, tq.ok, o8.ok, trivial⟩ ⟨axj (D := D1) (D' := D) (fn := Tryz.f47) (c := Tryz.f47.body.getD .skip) rfl rfl (by kernel_rfl) (ah (by kernel_rfl)) (by kernel_rfl) (by kernel_rfl) (by kernel_rfl) ⟨fq.ok, gu.ok, qd.ok, ig.ok, tq.ok, o8.ok, trivial⟩ trivial (by rw [ava]; exact trivial) (fun _ _ _ _ _ h => h), trivial⟩ ?_ ?_ (hRg := by rw [ranges]; exact ⟨ar0 (D := D) (Di := D2) (e := ⟨78, 70, [15, 17], ahe D2 Tryz.f78⟩) (by kernel_rfl) rfl rfl (by kernel_rfl) (axj (D := D2) (D' := D2) (fn := Tryz.f78) (c := Tryz.f78.body.getD .skip) rfl rfl (by kernel_rfl) (ah (by kernel_rfl)) (by kernel_rfl) (by kernel_rfl) (by kernel_rfl) ⟨fq.ok, gu.ok, qd.ok, ig.ok, tq.ok, o8.ok, trivial⟩ trivial (by rw [bdm]; exact ⟨bgv, trivial⟩) (fun _ _ _ _ _ h => h) rfl rfl (amk rfl _) (fun s hs => by have hs : some (aly D3 (aua (acs Tryz.f18 12) 70 true)) = some s := hs; cases hs; exact aov)), trivial⟩)
 · rw [loops]; exact trivial
 · intro args K r h
   unfold ak at h
   split at h
   · rw [P.avo] at h; exact Eq.trans (by kernel_rfl) h
   · cases h
theorem ok : Proved Tryz.prog GLO.gB 18 spec := bn _ ok0
end ae1

namespace l7
noncomputable def D : Ctx := ({ P := Tryz.prog, G := [(18, ae1.spec)], globs := GLO.gB, hints := [], loops := [], inl := [] } : Ctx)
theorem loops : bg (Tryz.f34.body.getD .skip) = [] := by kernel_rfl
noncomputable def ak : Abs.Spec := fun args K => match args with
 | [.agg [.v (.int .i64 a), .v (.int .i64 b), .sl (.ints .u8 d), .sl (.ints .u8 c), .v (.int .u32 e)], .sl (.ints .u8 f)] => P.l7 a b d c e f (fun g => K (.fr 5 (.ints .u8 g)))
 | _ => none
noncomputable def spec : Abs.Spec := fun args K => ak (kg [.agg [.any, .any, .sl (.ints .u8 []), .sl (.ints .u8 []), .any], .sl (.ints .u8 [])] args) K
theorem ok0 : Proved Tryz.prog GLO.gB 34 ak := by
 refine bf (D := D) (fn := Tryz.f34) (c := Tryz.f34.body.getD .skip) [.fr 5 (.ints .u8 [])] (by kernel_rfl) (ah (by kernel_rfl)) (by kernel_rfl) (by kernel_rfl) (by kernel_rfl) ⟨ae1.ok, trivial⟩ trivial ?_ ?_
 · rw [loops]; exact trivial
 · intro args K r h
   unfold ak at h
   split at h
   · rw [P.aex] at h; exact Eq.trans (by kernel_rfl) h
   · cases h
theorem ok : Proved Tryz.prog GLO.gB 34 spec := bn _ ok0
end l7

namespace adx
abbrev b53 := P.bvf
def buw : b53 → ASt := fun (f, o, p, h, i, j, m, n, k, q, g, a, b, c, d, e, l) => ⟨[(0, .yld 7 [2, 10, 11] [.sl (.ints .u8 f), .ptr 3 0, .ptr 4 0]), (2, .ptr 6 0), (4, .sl (.ints .u8 o)), (5, .sl (.ints .u8 p)), (14, .sl (.cols h [.ints .i64 i, .ints .i64 j])), (15, .v (.int .i64 m)), (16, .v (.int .i64 n))], [(840, some ⟨.row 5 (.ints .u8 k), false⟩), (1, some ⟨.row 41 (.ints .u32 q), true⟩), (3, some ⟨.box 23 [.own 840], false⟩), (4, some ⟨.box 60 [.osta g [.v (.int .i64 a), .v (.int .i64 b), .sl (.ints .u8 c), .sl (.ints .u8 d), .v (.int .u32 e)]], false⟩), (6, some ⟨.box 50 [.sl (.ints .u32 l)], false⟩)], 841, 39⟩
def b0f : ASt → Option b53
 | ⟨[(0, .yld 7 [2, 10, 11] [.sl (.ints .u8 f), .ptr 3 0, .ptr 4 0]), (2, .ptr 6 0), (4, .sl (.ints .u8 o)), (5, .sl (.ints .u8 p)), (14, .sl (.cols h [.ints .i64 i, .ints .i64 j])), (15, .v (.int .i64 m)), (16, .v (.int .i64 n))], [(840, some ⟨.row 5 (.ints .u8 k), false⟩), (1, some ⟨.row 41 (.ints .u32 q), true⟩), (3, some ⟨.box 23 [.own 840], false⟩), (4, some ⟨.box 60 [.osta g [.v (.int .i64 a), .v (.int .i64 b), .sl (.ints .u8 c), .sl (.ints .u8 d), .v (.int .u32 e)]], false⟩), (6, some ⟨.box 50 [.sl (.ints .u32 l)], false⟩)], 841, 39⟩ => some (f, o, p, h, i, j, m, n, k, q, g, a, b, c, d, e, l)
 | _ => none
theorem bro (st) (x) (h : b0f st = some x) : st = buw x := by
 unfold b0f at h
 split at h
 · cases h; rfl
 · cases h
abbrev Y2_2 := P.b0v
def b6r (K : AExit → ASt → Option R) : Y2_2 → Option R := (fun x => K (.exit 0) (buw x))
noncomputable def L2_2 : qb := fun st K => adk (b0f st) fun x => P.b4v x (b6r K)
noncomputable def D3 : Ctx := ({ P := Tryz.prog, G := [(25, ow.spec), (30, gu.spec), (31, jc.spec), (34, l7.spec), (60, je.spec)], globs := GLO.gB, hints := [], loops := [], inl := [], y := some (aua (acs Tryz.f10 8) 52 false) } : Ctx)
noncomputable def D2 : Ctx := ({ P := Tryz.prog, G := [(25, ow.spec), (30, gu.spec), (31, jc.spec), (34, l7.spec), (60, je.spec)], globs := GLO.gB, hints := [(2, ⟨[0, 2, 4, 5, 14, 15, 16], [(1000003, 5, .ints .u8 [])], [], [(4, .sl (.ints .u8 [])), (5, .sl (.ints .u8 []))], some (840, [1, 3, 4, 6]), [4, 6], [], [(4, [.v (.int .i64 0), .v (.int .i64 0), .sl (.ints .u8 []), .sl (.ints .u8 []), .v (.int .u32 0)])]⟩)], loops := [(2, L2_2)], inl := [], y := some (aua (acs Tryz.f10 8) 52 true), ys := some (aly D3 (aua (acs Tryz.f10 8) 52 true)) } : Ctx)
noncomputable def D1 : Ctx := ({ P := Tryz.prog, G := [(25, ow.spec), (30, gu.spec), (31, jc.spec), (34, l7.spec), (60, je.spec)], globs := GLO.gB, hints := [], loops := [], inl := [] } : Ctx)
noncomputable def D : Ctx := ({ P := Tryz.prog, G := [(25, ow.spec), (30, gu.spec), (31, jc.spec), (34, l7.spec), (60, je.spec)], globs := GLO.gB, hints := [], loops := [], inl := [(33, ahe D1 Tryz.f33)], top := true, rng := [(8, ⟨59, 52, [2, 10, 11], ahe D2 Tryz.f59⟩)] } : Ctx)
theorem bpl (K) (next) (x) : lu D2 (cu Tryz.f59 2) K next (buw x) = P.bwz x (fun x => next (buw x)) (b6r K) := by kernel_rfl
theorem bru : jq D2 (cu Tryz.f59 2) := eu buw bro (by kernel_rfl) P.b57 bpl
theorem loops : bg (Tryz.f10.body.getD .skip) = [] := by kernel_rfl
theorem ava : bg (Tryz.f33.body.getD .skip) = [] := by kernel_rfl
theorem bdm : bg (Tryz.f59.body.getD .skip) = [cu Tryz.f59 2] := by kernel_rfl
theorem bfh : bg (bqq (acs Tryz.f10 8)) = [] := by kernel_rfl
theorem ranges : ql (Tryz.f10.body.getD .skip) = [acs Tryz.f10 8] := by kernel_rfl
theorem aov : al7 D2 (aly D3 (aua (acs Tryz.f10 8) 52 true)) := av3 (Y := aua (acs Tryz.f10 8) 52 true) (axu (D := D3) ⟨ow.ok, gu.ok, jc.ok, l7.ok, je.ok, trivial⟩) (ah (by kernel_rfl)) (axr (D := D3) trivial (ang rfl)) (by kernel_rfl) rfl rfl (by kernel_rfl) (by kernel_rfl) rfl rfl rfl (ae4 _ (by rw [show bg (aua (acs Tryz.f10 8) 52 true).assign = [] from by kernel_rfl]; exact trivial)) (ae4 _ (by rw [show bg (aua (acs Tryz.f10 8) 52 true).body = bg (bqq (acs Tryz.f10 8)) from by kernel_rfl, bfh]; exact trivial))
noncomputable def ak : Abs.Spec := fun args K => match args with
 | [.agg [.sl (.cols a [.ints .i64 b, .ints .i64 c]), .sl (.ints .u8 e), .sl (.ints .u8 d)], .v (.int .u64 f), .sl (.ints .u8 g)] => P.adx a b c e d f g (fun h i => K (.tuple [.fr 5 (.ints .u8 h), .v (.int .i64 i)]))
 | _ => none
noncomputable def spec : Abs.Spec := fun args K => ak (kg [.agg [.sl (.cols 0 [.ints .i64 [], .ints .i64 []]), .sl (.ints .u8 []), .sl (.ints .u8 [])], .any, .sl (.ints .u8 [])] args) K
theorem ok0 : Proved Tryz.prog GLO.gB 10 ak := by
 refine bf (D := D) (fn := Tryz.f10) (c := Tryz.f10.body.getD .skip) [.fr 5 (.ints .u8 []), .any] (by kernel_rfl) (ah (by kernel_rfl)) (by kernel_rfl) (by kernel_rfl) (by kernel_rfl) ⟨ow.ok, gu.ok, jc.ok, l7.ok, je.ok, trivial⟩ ⟨axj (D := D1) (D' := D) (fn := Tryz.f33) (c := Tryz.f33.body.getD .skip) rfl rfl (by kernel_rfl) (ah (by kernel_rfl)) (by kernel_rfl) (by kernel_rfl) (by kernel_rfl) ⟨ow.ok, gu.ok, jc.ok, l7.ok, je.ok, trivial⟩ trivial (by rw [ava]; exact trivial) (fun _ _ _ _ _ h => h), trivial⟩ ?_ ?_ (hRg := by rw [ranges]; exact ⟨ar0 (D := D) (Di := D2) (e := ⟨59, 52, [2, 10, 11], ahe D2 Tryz.f59⟩) (by kernel_rfl) rfl rfl (by kernel_rfl) (axj (D := D2) (D' := D2) (fn := Tryz.f59) (c := Tryz.f59.body.getD .skip) rfl rfl (by kernel_rfl) (ah (by kernel_rfl)) (by kernel_rfl) (by kernel_rfl) (by kernel_rfl) ⟨ow.ok, gu.ok, jc.ok, l7.ok, je.ok, trivial⟩ trivial (by rw [bdm]; exact ⟨bru, trivial⟩) (fun _ _ _ _ _ h => h) rfl rfl (amk rfl _) (fun s hs => by have hs : some (aly D3 (aua (acs Tryz.f10 8) 52 true)) = some s := hs; cases hs; exact aov)), trivial⟩)
 · rw [loops]; exact trivial
 · intro args K r h
   unfold ak at h
   split at h
   · rw [P.aje] at h; exact Eq.trans (by kernel_rfl) h
   · cases h
theorem ok : Proved Tryz.prog GLO.gB 10 spec := bn _ ok0
end adx

namespace yw
noncomputable def D : Ctx := ({ P := Tryz.prog, G := [(5, ad7.spec), (6, af2.spec), (7, ug.spec), (8, aau.spec), (9, aas.spec), (10, adx.spec), (11, adw.spec), (12, y8.spec)], globs := GLO.gB, hints := [], loops := [], inl := [] } : Ctx)
theorem loops : bg (Tryz.f3.body.getD .skip) = [] := by kernel_rfl
noncomputable def ak : Abs.Spec := fun args K => match args with
 | [.agg [.sl (.cols a [.ints .i64 b, .ints .i64 c]), .sl (.ints .u8 e), .sl (.ints .u8 d)], .v (.int .u64 f), .sl (.ints .u8 g)] => P.yw a b c e d f g (fun h => K (.v (.bool h)))
 | _ => none
noncomputable def spec : Abs.Spec := fun args K => ak (kg [.agg [.sl (.cols 0 [.ints .i64 [], .ints .i64 []]), .sl (.ints .u8 []), .sl (.ints .u8 [])], .any, .sl (.ints .u8 [])] args) K
theorem ok0 : Proved Tryz.prog GLO.gB 3 ak := by
 refine bf (D := D) (fn := Tryz.f3) (c := Tryz.f3.body.getD .skip) [.any] (by kernel_rfl) (ah (by kernel_rfl)) (by kernel_rfl) (by kernel_rfl) (by kernel_rfl) ⟨ad7.ok, af2.ok, ug.ok, aau.ok, aas.ok, adx.ok, adw.ok, y8.ok, trivial⟩ trivial ?_ ?_
 · rw [loops]; exact trivial
 · intro args K r h
   unfold ak at h
   split at h
   · rw [P.ak2] at h; exact Eq.trans (by kernel_rfl) h
   · cases h
theorem ok : Proved Tryz.prog GLO.gB 3 spec := bn _ ok0
end yw

end
