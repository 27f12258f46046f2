/-
  HssSigns, part 16: an interpreter of my own over abstract values, the pure functions, the walks and the plain law.
-/

import Derived.Test.YtmipokjdajiimaaGreatDoorHssSignsK
import Derived.Test.YtmipokjdajiimaaGreatDoorHssSignsH
import Derived.Test.YtmipokjdajiimaaGreatDoorProg
import Derived.Test.YtmipokjdajiimaaGreatDoorHssSignsJ
import Derived.Test.YtmipokjdajiimaaGreatDoorHssSignsN
import Derived.Test.YtmipokjdajiimaaGreatDoorHssSignsO
import Derived.Test.YtmipokjdajiimaaGreatDoorHssSignsM
import Derived.KernelRfl
import Derived.Test.YtmipokjdajiimaaGreatDoorHssSignsI

section
open Go Go.Abs Go.Proofs
set_option maxRecDepth 100000
set_option maxHeartbeats 0
set_option linter.unusedVariables false

namespace y7
abbrev X9 := P.bwa
def S9 : X9 → ASt := fun (f, g, d, e, a, b, c, h) => ⟨[(0, .v (.int .i64 f)), (6, .ptr 0 0), (8, .own 1), (9, .v (.int .u64 g)), (36, .own 1), (37, .v (.int .i64 d)), (38, .v (.int .i64 e))], [(0, some ⟨.box 104 [.v (.int .i64 a), .v (.int .i64 b), .v (.int .i64 c)], false⟩), (1, some ⟨.row 41 (.ints .u32 h), false⟩)], 2, 61⟩
def V9 : ASt → Option X9
 | ⟨[(0, .v (.int .i64 f)), (6, .ptr 0 0), (8, .own 1), (9, .v (.int .u64 g)), (36, .own 1), (37, .v (.int .i64 d)), (38, .v (.int .i64 e))], [(0, some ⟨.box 104 [.v (.int .i64 a), .v (.int .i64 b), .v (.int .i64 c)], false⟩), (1, some ⟨.row 41 (.ints .u32 h), false⟩)], 2, 61⟩ => some (f, g, d, e, a, b, c, h)
 | _ => none
theorem asa (st) (x) (h : V9 st = some x) : st = S9 x := by
 unfold V9 at h
 split at h
 · cases h; rfl
 · cases h
abbrev Y9 := P.b1x
def E9 (K : AExit → ASt → Option R) : Y9 → Option R := (fun x => K (.exit 1) (S9 x))
noncomputable def L9 : qb := fun st K => adk (V9 st) fun x => P.b1w x (E9 K)
noncomputable def D : Ctx := ({ P := Tryz.prog, G := [(30, gu.spec), (84, ng.spec), (108, su.spec)], globs := GLO.gB, hints := [(9, ⟨[0, 6, 8, 9, 36, 37, 38], [], [4, 5], [], none, [], [], []⟩)], loops := [(9, L9)], inl := [] } : Ctx)
theorem ai9 (K) (next) (x) : lu D (cu Tryz.f96 9) K next (S9 x) = P.buh x (fun x => next (S9 x)) (E9 K) := by kernel_rfl
theorem arh : jq D (cu Tryz.f96 9) := eu S9 asa (by kernel_rfl) P.b6p ai9
theorem loops : bg (Tryz.f96.body.getD .skip) = [cu Tryz.f96 9] := by kernel_rfl
noncomputable def ak : Abs.Spec := fun args K => match args with
 | [.v (.int .i64 a), .sl (.ints .u8 b)] => P.y7 a b (fun c d => K (.tuple [.fr 41 (.ints .u32 c), .v (.int .i64 d)]))
 | _ => none
noncomputable def spec : Abs.Spec := fun args K => ak (kg [.any, .sl (.ints .u8 [])] args) K
theorem ok0 : Proved Tryz.prog GLO.gB 96 ak := by
 refine bf (D := D) (fn := Tryz.f96) (c := Tryz.f96.body.getD .skip) [.fr 41 (.ints .u32 []), .any] (by kernel_rfl) (ah (by kernel_rfl)) (by kernel_rfl) (by kernel_rfl) (by kernel_rfl) ⟨gu.ok, ng.ok, su.ok, trivial⟩ trivial ?_ ?_
 · rw [loops]; exact ⟨arh, trivial⟩
 · intro args K r h
   unfold ak at h
   split at h
   · rw [P.al9] at h; exact Eq.trans (by kernel_rfl) h
   · cases h
theorem ok : Proved Tryz.prog GLO.gB 96 spec := bn _ ok0
end y7

namespace jv
noncomputable def D : Ctx := ({ P := Tryz.prog, G := [(90, iw.spec), (96, y7.spec)], globs := GLO.gB, hints := [], loops := [], inl := [] } : Ctx)
theorem loops : bg (Tryz.f76.body.getD .skip) = [] := by kernel_rfl
noncomputable def ak : Abs.Spec := fun args K => match args with
 | [.agg [.v (.int .i64 e), .sl (.ints .u8 d), .v (.int .u32 f), .v (.int .i64 a), .v (.int .i64 b), .v (.int .i64 c)], .sl (.ints .u8 g), .sl (.ints .u8 h)] => P.jv e d f a b c g h (fun i => K (.fr 41 (.ints .u32 i)))
 | _ => none
noncomputable def spec : Abs.Spec := fun args K => ak (kg [.agg [.any, .sl (.ints .u8 []), .any, .any, .any, .any], .sl (.ints .u8 []), .sl (.ints .u8 [])] args) K
theorem ok0 : Proved Tryz.prog GLO.gB 76 ak := by
 refine bf (D := D) (fn := Tryz.f76) (c := Tryz.f76.body.getD .skip) [.fr 41 (.ints .u32 [])] (by kernel_rfl) (ah (by kernel_rfl)) (by kernel_rfl) (by kernel_rfl) (by kernel_rfl) ⟨iw.ok, y7.ok, trivial⟩ trivial ?_ ?_
 · rw [loops]; exact trivial
 · intro args K r h
   unfold ak at h
   split at h
   · rw [P.aee] at h; exact Eq.trans (by kernel_rfl) h
   · cases h
theorem ok : Proved Tryz.prog GLO.gB 76 spec := bn _ ok0
end jv

namespace mh
noncomputable def D : Ctx := ({ P := Tryz.prog, G := [], globs := GLO.gB, hints := [], loops := [], inl := [] } : Ctx)
theorem loops : bg (Tryz.f89.body.getD .skip) = [] := by kernel_rfl
noncomputable def ak : Abs.Spec := fun args K => match args with
 | [.agg [.v (.int .i64 e), .sl (.ints .u8 d), .v (.int .u32 f), .v (.int .i64 a), .v (.int .i64 b), .v (.int .i64 c)]] => P.mh e d f a b c (fun g => K (.v (.int .u32 g)))
 | _ => none
noncomputable def spec : Abs.Spec := fun args K => ak (kg [.agg [.any, .sl (.ints .u8 []), .any, .any, .any, .any]] args) K
theorem ok0 : Proved Tryz.prog GLO.gB 89 ak := by
 refine bf (D := D) (fn := Tryz.f89) (c := Tryz.f89.body.getD .skip) [.any] (by kernel_rfl) (ah (by kernel_rfl)) (by kernel_rfl) (by kernel_rfl) (by kernel_rfl) trivial trivial ?_ ?_
 · rw [loops]; exact trivial
 · intro args K r h
   unfold ak at h
   split at h
   · rw [P.ag3] at h; exact Eq.trans (by kernel_rfl) h
   · cases h
theorem ok : Proved Tryz.prog GLO.gB 89 spec := bn _ ok0
end mh

namespace l6
abbrev X9 := P.bv9
def S9 : X9 → ASt := fun (g, h, i, j, a, b, c, d, e, f, k) => ⟨[(14, .own 2), (12, .ptr 0 0), (15, .sl (.ints .u8 g)), (51, .own 1), (52, .v (.int .i64 h)), (53, .v (.int .i64 i))], [(2, some ⟨.row 5 (.ints .u8 j), false⟩), (0, some ⟨.box 106 [.v (.int .i64 a), .sl (.ints .u8 b), .v (.int .u32 c), .v (.int .i64 d), .v (.int .i64 e), .v (.int .i64 f)], false⟩), (1, some ⟨.row 41 (.ints .u32 k), false⟩)], 3, 77⟩
def V9 : ASt → Option X9
 | ⟨[(14, .own 2), (12, .ptr 0 0), (15, .sl (.ints .u8 g)), (51, .own 1), (52, .v (.int .i64 h)), (53, .v (.int .i64 i))], [(2, some ⟨.row 5 (.ints .u8 j), false⟩), (0, some ⟨.box 106 [.v (.int .i64 a), .sl (.ints .u8 b), .v (.int .u32 c), .v (.int .i64 d), .v (.int .i64 e), .v (.int .i64 f)], false⟩), (1, some ⟨.row 41 (.ints .u32 k), false⟩)], 3, 77⟩ => some (g, h, i, j, a, b, c, d, e, f, k)
 | _ => none
theorem asa (st) (x) (h : V9 st = some x) : st = S9 x := by
 unfold V9 at h
 split at h
 · cases h; rfl
 · cases h
abbrev Y9 := P.b03
def E9 (K : AExit → ASt → Option R) : Y9 → Option R := (fun x => K (.exit 1) (S9 x))
noncomputable def L9 : qb := fun st K => adk (V9 st) fun x => P.b2p x (E9 K)
noncomputable def D : Ctx := ({ P := Tryz.prog, G := [(52, lq.spec), (54, jo.spec), (76, jv.spec), (77, jy.spec), (89, mh.spec), (90, iw.spec), (95, uy.spec)], globs := GLO.gB, hints := [(9, ⟨[12, 15, 51, 52, 53], [(14, 5, .ints .u8 [])], [10, 11], [(15, .sl (.ints .u8 []))], none, [], [], []⟩)], loops := [(9, L9)], inl := [] } : Ctx)
theorem ai9 (K) (next) (x) : lu D (cu Tryz.f88 9) K next (S9 x) = P.byd x (fun x => next (S9 x)) (E9 K) := by kernel_rfl
theorem arh : jq D (cu Tryz.f88 9) := eu S9 asa (by kernel_rfl) P.b6u ai9
theorem loops : bg (Tryz.f88.body.getD .skip) = [cu Tryz.f88 9] := by kernel_rfl
noncomputable def ak : Abs.Spec := fun args K => match args with
 | [.v (.int .i64 a), .sl (.ints .u8 b), .v (.int .u32 c), .sl (.ints .u8 d), .sl (.ints .u8 e)] => P.l6 a b c d e (fun f g => K (.tuple [.fr 5 (.ints .u8 f), .v (.int .i64 g)]))
 | _ => none
noncomputable def spec : Abs.Spec := fun args K => ak (kg [.any, .sl (.ints .u8 []), .any, .sl (.ints .u8 []), .sl (.ints .u8 [])] args) K
theorem ok0 : Proved Tryz.prog GLO.gB 88 ak := by
 refine bf (D := D) (fn := Tryz.f88) (c := Tryz.f88.body.getD .skip) [.fr 5 (.ints .u8 []), .any] (by kernel_rfl) (ah (by kernel_rfl)) (by kernel_rfl) (by kernel_rfl) (by kernel_rfl) ⟨lq.ok, jo.ok, jv.ok, jy.ok, mh.ok, iw.ok, uy.ok, trivial⟩ trivial ?_ ?_
 · rw [loops]; exact ⟨arh, trivial⟩
 · intro args K r h
   unfold ak at h
   split at h
   · rw [P.ao5] at h; exact Eq.trans (by kernel_rfl) h
   · cases h
theorem ok : Proved Tryz.prog GLO.gB 88 spec := bn _ ok0
end l6

namespace vg
noncomputable def D : Ctx := ({ P := Tryz.prog, G := [(29, fq.spec), (30, gu.spec), (91, aah.spec), (92, sw.spec), (93, aak.spec)], globs := GLO.gB, hints := [], loops := [], inl := [] } : Ctx)
theorem loops : bg (Tryz.f69.body.getD .skip) = [] := by kernel_rfl
noncomputable def ak : Abs.Spec := fun args K => match args with
 | [.sl (.ints .u8 a), .v (.int .u64 b), .v (.int .u64 c), .sl (.rows .u8 d)] => P.vg a b c d (fun e => K (.fr 5 (.ints .u8 e)))
 | _ => none
noncomputable def spec : Abs.Spec := fun args K => ak (kg [.sl (.ints .u8 []), .any, .any, .sl (.rows .u8 [])] args) K
theorem ok0 : Proved Tryz.prog GLO.gB 69 ak := by
 refine bf (D := D) (fn := Tryz.f69) (c := Tryz.f69.body.getD .skip) [.fr 5 (.ints .u8 [])] (by kernel_rfl) (ah (by kernel_rfl)) (by kernel_rfl) (by kernel_rfl) (by kernel_rfl) ⟨fq.ok, gu.ok, aah.ok, sw.ok, aak.ok, trivial⟩ trivial ?_ ?_
 · rw [loops]; exact trivial
 · intro args K r h
   unfold ak at h
   split at h
   · rw [P.azu] at h; exact Eq.trans (by kernel_rfl) h
   · cases h
theorem ok : Proved Tryz.prog GLO.gB 69 spec := bn _ ok0
end vg

namespace ahv
abbrev btv := P.btp
def bnf : btv → ASt := fun (d, a, e, b, c) => ⟨[(0, .yld 9 [5, 13, 14] [.ptr 1 0, .ptr 5 0, .ptr 6 0]), (4, .v (.int .u64 d))], [(1, some ⟨.box 23 [.sl (.ints .u8 a)], false⟩), (4, some ⟨.row 5 (.ints .u8 e), true⟩), (5, some ⟨.box 23 [.sl (.ints .u8 b)], false⟩), (6, some ⟨.box 23 [.sl (.ints .u8 c)], false⟩)], 840, 19⟩
def br0 : ASt → Option btv
 | ⟨[(0, .yld 9 [5, 13, 14] [.ptr 1 0, .ptr 5 0, .ptr 6 0]), (4, .v (.int .u64 d))], [(1, some ⟨.box 23 [.sl (.ints .u8 a)], false⟩), (4, some ⟨.row 5 (.ints .u8 e), true⟩), (5, some ⟨.box 23 [.sl (.ints .u8 b)], false⟩), (6, some ⟨.box 23 [.sl (.ints .u8 c)], false⟩)], 840, 19⟩ => some (d, a, e, b, c)
 | _ => none
theorem bg0 (st) (x) (h : br0 st = some x) : st = bnf x := by
 unfold br0 at h
 split at h
 · cases h; rfl
 · cases h
abbrev bzb := P.b06
def bvq (K : AExit → ASt → Option R) : bzb → Option R := (fun x => K (.exit 0) (bnf x))
noncomputable def b0a : qb := fun st K => adk (br0 st) fun x => P.b0j x (bvq K)
noncomputable def D3 : Ctx := ({ P := Tryz.prog, G := [(52, lq.spec), (54, jo.spec), (69, vg.spec), (88, l6.spec)], globs := GLO.gB, hints := [], loops := [], inl := [], y := some (aua (acs Tryz.f67 8) 74 false) } : Ctx)
noncomputable def D2 : Ctx := ({ P := Tryz.prog, G := [(52, lq.spec), (54, jo.spec), (69, vg.spec), (88, l6.spec)], globs := GLO.gB, hints := [(1, ⟨[0, 4], [], [], [], some (840, [1, 4, 5, 6]), [1, 5, 6], [], []⟩)], loops := [(1, b0a)], inl := [], y := some (aua (acs Tryz.f67 8) 74 true), ys := some (aly D3 (aua (acs Tryz.f67 8) 74 true)) } : Ctx)
noncomputable def D1 : Ctx := ({ P := Tryz.prog, G := [(52, lq.spec), (54, jo.spec), (69, vg.spec), (88, l6.spec)], globs := GLO.gB, hints := [], loops := [], inl := [] } : Ctx)
noncomputable def D : Ctx := ({ P := Tryz.prog, G := [(52, lq.spec), (54, jo.spec), (69, vg.spec), (88, l6.spec)], globs := GLO.gB, hints := [], loops := [], inl := [(47, ahe D1 Tryz.f47)], top := true, rng := [(8, ⟨78, 74, [5, 13, 14], ahe D2 Tryz.f78⟩)] } : Ctx)
theorem bbs (K) (next) (x) : lu D2 (cu Tryz.f78 1) K next (bnf x) = P.byb x (fun x => next (bnf x)) (bvq K) := by kernel_rfl
theorem bgv : jq D2 (cu Tryz.f78 1) := eu bnf bg0 (by kernel_rfl) P.b6d bbs
theorem loops : bg (Tryz.f67.body.getD .skip) = [] := by kernel_rfl
theorem ava : bg (Tryz.f47.body.getD .skip) = [] := by kernel_rfl
theorem bdm : bg (Tryz.f78.body.getD .skip) = [cu Tryz.f78 1] := by kernel_rfl
theorem bfh : bg (bqq (acs Tryz.f67 8)) = [] := by kernel_rfl
theorem ranges : ql (Tryz.f67.body.getD .skip) = [acs Tryz.f67 8] := by kernel_rfl
theorem aov : al7 D2 (aly D3 (aua (acs Tryz.f67 8) 74 true)) := av3 (Y := aua (acs Tryz.f67 8) 74 true) (axu (D := D3) ⟨lq.ok, jo.ok, vg.ok, l6.ok, trivial⟩) (ah (by kernel_rfl)) (axr (D := D3) trivial (ang rfl)) (by kernel_rfl) rfl rfl (by kernel_rfl) (by kernel_rfl) rfl rfl rfl (ae4 _ (by rw [show bg (aua (acs Tryz.f67 8) 74 true).assign = [] from by kernel_rfl]; exact trivial)) (ae4 _ (by rw [show bg (aua (acs Tryz.f67 8) 74 true).body = bg (bqq (acs Tryz.f67 8)) from by kernel_rfl, bfh]; exact trivial))
noncomputable def ak : Abs.Spec := fun args K => match args with
 | [.agg [.v (.int .i64 a), .v (.int .i64 b)], .sl (.ints .u8 c), .sl (.ints .u8 d), .sl (.ints .u8 e)] => P.ahv a b c d e (fun f => K (.sl (.ints .u8 f)))
 | _ => none
noncomputable def spec : Abs.Spec := fun args K => ak (kg [.any, .sl (.ints .u8 []), .sl (.ints .u8 []), .sl (.ints .u8 [])] args) K
theorem ok0 : Proved Tryz.prog GLO.gB 67 ak := by
 refine bf (D := D) (fn := Tryz.f67) (c := Tryz.f67.body.getD .skip) [.sl (.ints .u8 [])] (by kernel_rfl) (ah (by kernel_rfl)) (by kernel_rfl) (by kernel_rfl) (by kernel_rfl) ⟨lq.ok, jo.ok, vg.ok, l6.ok, trivial⟩ ⟨axj (D := D1) (D' := D) (fn := Tryz.f47) (c := Tryz.f47.body.getD .skip) rfl rfl (by kernel_rfl) (ah (by kernel_rfl)) (by kernel_rfl) (by kernel_rfl) (by kernel_rfl) ⟨lq.ok, jo.ok, vg.ok, l6.ok, trivial⟩ trivial (by rw [ava]; exact trivial) (fun _ _ _ _ _ h => h), trivial⟩ ?_ ?_ (hRg := by rw [ranges]; exact ⟨ar0 (D := D) (Di := D2) (e := ⟨78, 74, [5, 13, 14], ahe D2 Tryz.f78⟩) (by kernel_rfl) rfl rfl (by kernel_rfl) (axj (D := D2) (D' := D2) (fn := Tryz.f78) (c := Tryz.f78.body.getD .skip) rfl rfl (by kernel_rfl) (ah (by kernel_rfl)) (by kernel_rfl) (by kernel_rfl) (by kernel_rfl) ⟨lq.ok, jo.ok, vg.ok, l6.ok, trivial⟩ trivial (by rw [bdm]; exact ⟨bgv, trivial⟩) (fun _ _ _ _ _ h => h) rfl rfl (amk rfl _) (fun s hs => by have hs : some (aly D3 (aua (acs Tryz.f67 8) 74 true)) = some s := hs; cases hs; exact aov)), trivial⟩)
 · rw [loops]; exact trivial
 · intro args K r h
   unfold ak at h
   split at h
   · rw [P.bf9] at h; exact Eq.trans (by kernel_rfl) h
   · cases h
theorem ok : Proved Tryz.prog GLO.gB 67 spec := bn _ ok0
end ahv

namespace aar
noncomputable def D : Ctx := ({ P := Tryz.prog, G := [(40, ac2.spec), (54, jo.spec), (63, uq.spec), (64, yx.spec), (65, aeo.spec), (66, abz.spec), (67, ahv.spec)], globs := GLO.gB, hints := [], loops := [], inl := [] } : Ctx)
theorem loops : bg (Tryz.f38.body.getD .skip) = [] := by kernel_rfl
noncomputable def ak : Abs.Spec := fun args K => match args with
 | [.sl (.ints .u8 a), .sl (.ints .u8 b), .sl (.ints .u8 c)] => P.aar a b c (fun d => K (.v (.int .i64 d)))
 | _ => none
noncomputable def spec : Abs.Spec := fun args K => ak (kg [.sl (.ints .u8 []), .sl (.ints .u8 []), .sl (.ints .u8 [])] args) K
theorem ok0 : Proved Tryz.prog GLO.gB 38 ak := by
 refine bf (D := D) (fn := Tryz.f38) (c := Tryz.f38.body.getD .skip) [.any] (by kernel_rfl) (ah (by kernel_rfl)) (by kernel_rfl) (by kernel_rfl) (by kernel_rfl) ⟨ac2.ok, jo.ok, uq.ok, yx.ok, aeo.ok, abz.ok, ahv.ok, trivial⟩ trivial ?_ ?_
 · rw [loops]; exact trivial
 · intro args K r h
   unfold ak at h
   split at h
   · rw [P.bay] at h; exact Eq.trans (by kernel_rfl) h
   · cases h
theorem ok : Proved Tryz.prog GLO.gB 38 spec := bn _ ok0
end aar

namespace aht
noncomputable def D : Ctx := ({ P := Tryz.prog, G := [(38, aar.spec), (65, aeo.spec)], globs := GLO.gB, hints := [], loops := [], inl := [] } : Ctx)
theorem loops : bg (Tryz.f55.body.getD .skip) = [] := by kernel_rfl
noncomputable def ak : Abs.Spec := fun args K => match args with
 | [.sl (.ints .u8 a), .sl (.ints .u8 b), .sl (.ints .u8 c), .v (.bool d)] => P.aht a b c d (fun e f g => K (.tuple [.sl (.ints .u8 e), .sl (.ints .u8 f), .v (.int .i64 g)]))
 | _ => none
noncomputable def spec : Abs.Spec := fun args K => ak (kg [.sl (.ints .u8 []), .sl (.ints .u8 []), .sl (.ints .u8 []), .any] args) K
theorem ok0 : Proved Tryz.prog GLO.gB 55 ak := by
 refine bf (D := D) (fn := Tryz.f55) (c := Tryz.f55.body.getD .skip) [.sl (.ints .u8 []), .sl (.ints .u8 []), .any] (by kernel_rfl) (ah (by kernel_rfl)) (by kernel_rfl) (by kernel_rfl) (by kernel_rfl) ⟨aar.ok, aeo.ok, trivial⟩ trivial ?_ ?_
 · rw [loops]; exact trivial
 · intro args K r h
   unfold ak at h
   split at h
   · rw [P.bge] at h; exact Eq.trans (by kernel_rfl) h
   · cases h
theorem ok : Proved Tryz.prog GLO.gB 55 spec := bn _ ok0
end aht

namespace ab4
abbrev X9 := P.by4
def S9 : X9 → ASt := fun (a, b, c, d) => ⟨[(1, .sl (.ints .u8 a)), (7, .v (.int .u64 b)), (8, .sl (.ints .u8 c)), (9, .sl (.ints .u8 d))], [], 0, 57⟩
def V9 : ASt → Option X9
 | ⟨[(1, .sl (.ints .u8 a)), (7, .v (.int .u64 b)), (8, .sl (.ints .u8 c)), (9, .sl (.ints .u8 d))], [], 0, 57⟩ => some (a, b, c, d)
 | _ => none
theorem asa (st) (x) (h : V9 st = some x) : st = S9 x := by
 unfold V9 at h
 split at h
 · cases h; rfl
 · cases h
abbrev Y9 := P.b44
def E9 (K : AExit → ASt → Option R) : Y9 → Option R := (Sum.elim (fun x => K (.exit 1) (S9 x)) (fun a => K .ret ⟨[(6, .v (.int .i64 a))], [], 0, 57⟩))
noncomputable def L9 : qb := fun st K => adk (V9 st) fun x => P.b3s x (E9 K)
noncomputable def D : Ctx := ({ P := Tryz.prog, G := [(54, jo.spec), (55, aht.spec)], globs := GLO.gB, hints := [(9, ⟨[1, 7, 8, 9], [], [6], [(8, .sl (.ints .u8 [])), (9, .sl (.ints .u8 []))], none, [], [], []⟩)], loops := [(9, L9)], inl := [] } : Ctx)
theorem ai9 (K) (next) (x) : lu D (cu Tryz.f27 9) K next (S9 x) = P.byt x (fun x => next (S9 x)) (E9 K) := by kernel_rfl
theorem arh : jq D (cu Tryz.f27 9) := eu S9 asa (by kernel_rfl) P.b6x ai9
theorem loops : bg (Tryz.f27.body.getD .skip) = [cu Tryz.f27 9] := by kernel_rfl
noncomputable def ak : Abs.Spec := fun args K => match args with
 | [.sl (.ints .u8 a), .sl (.ints .u8 b), .sl (.ints .u8 c)] => P.ab4 a b c (fun d => K (.v (.int .i64 d)))
 | _ => none
noncomputable def spec : Abs.Spec := fun args K => ak (kg [.sl (.ints .u8 []), .sl (.ints .u8 []), .sl (.ints .u8 [])] args) K
theorem ok0 : Proved Tryz.prog GLO.gB 27 ak := by
 refine bf (D := D) (fn := Tryz.f27) (c := Tryz.f27.body.getD .skip) [.any] (by kernel_rfl) (ah (by kernel_rfl)) (by kernel_rfl) (by kernel_rfl) (by kernel_rfl) ⟨jo.ok, aht.ok, trivial⟩ trivial ?_ ?_
 · rw [loops]; exact ⟨arh, trivial⟩
 · intro args K r h
   unfold ak at h
   split at h
   · rw [P.ao1] at h; exact Eq.trans (by kernel_rfl) h
   · cases h
theorem ok : Proved Tryz.prog GLO.gB 27 spec := bn _ ok0
end ab4

namespace ug
noncomputable def D : Ctx := ({ P := Tryz.prog, G := [(25, ow.spec), (26, acg.spec), (27, ab4.spec)], globs := GLO.gB, hints := [], loops := [], inl := [] } : Ctx)
theorem loops : bg (Tryz.f7.body.getD .skip) = [] := by kernel_rfl
noncomputable def ak : Abs.Spec := fun args K => match args with
 | [] => P.ug (fun a => K (.v (.bool a)))
 | _ => none
noncomputable def spec : Abs.Spec := ak
theorem ok0 : Proved Tryz.prog GLO.gB 7 ak := by
 refine bf (D := D) (fn := Tryz.f7) (c := Tryz.f7.body.getD .skip) [.any] (by kernel_rfl) (ah (by kernel_rfl)) (by kernel_rfl) (by kernel_rfl) (by kernel_rfl) ⟨ow.ok, acg.ok, ab4.ok, trivial⟩ trivial ?_ ?_
 · rw [loops]; exact trivial
 · intro args K r h
   unfold ak at h
   split at h
   · rw [P.asw] at h; exact Eq.trans (by kernel_rfl) h
   · cases h
theorem ok : Proved Tryz.prog GLO.gB 7 spec := ok0
end ug

namespace af2
abbrev X2 := P.zt3
def S2 : X2 → ASt := fun (a, b, c) => ⟨[(5, .sl (.rows .u8 a)), (6, .v (.int .i64 b)), (7, .v (.int .i64 c))], [], 0, 15⟩
def V2 : ASt → Option X2
 | ⟨[(5, .sl (.rows .u8 a)), (6, .v (.int .i64 b)), (7, .v (.int .i64 c))], [], 0, 15⟩ => some (a, b, c)
 | _ => none
theorem bl3 (st) (x) (h : V2 st = some x) : st = S2 x := by
 unfold V2 at h
 split at h
 · cases h; rfl
 · cases h
abbrev Y2 := P.zy3
def E2 (K : AExit → ASt → Option R) : Y2 → Option R := (Sum.elim (fun x => K (.exit 0) (S2 x)) (fun a => K .ret ⟨[(2, .v (.bool a))], [], 0, 15⟩))
noncomputable def L2 : qb := fun st K => adk (V2 st) fun x => P.zm3 x (E2 K)
noncomputable def D : Ctx := ({ P := Tryz.prog, G := [], globs := GLO.gB, hints := [(2, ⟨[5, 6, 7], [], [2], [], none, [], [], []⟩)], loops := [(2, L2)], inl := [] } : Ctx)
theorem bej (K) (next) (x) : lu D (cu Tryz.f6 2) K next (S2 x) = P.zs3 x (fun x => next (S2 x)) (E2 K) := by kernel_rfl
theorem bnx : jq D (cu Tryz.f6 2) := eu S2 bl3 (by kernel_rfl) P.ze3 bej
theorem loops : bg (Tryz.f6.body.getD .skip) = [cu Tryz.f6 2] := by kernel_rfl
noncomputable def ak : Abs.Spec := fun args K => match args with
 | [.sl (.rows .u8 a)] => P.af2 a (fun b => K (.v (.bool b)))
 | _ => none
noncomputable def spec : Abs.Spec := fun args K => ak (kg [.sl (.rows .u8 [])] args) K
theorem ok0 : Proved Tryz.prog GLO.gB 6 ak := by
 refine bf (D := D) (fn := Tryz.f6) (c := Tryz.f6.body.getD .skip) [.any] (by kernel_rfl) (ah (by kernel_rfl)) (by kernel_rfl) (by kernel_rfl) (by kernel_rfl) trivial trivial ?_ ?_
 · rw [loops]; exact ⟨bnx, trivial⟩
 · intro args K r h
   unfold ak at h
   split at h
   · rw [P.az9] at h; exact Eq.trans (by kernel_rfl) h
   · cases h
theorem ok : Proved Tryz.prog GLO.gB 6 spec := bn _ ok0
end af2

namespace om
noncomputable def D : Ctx := ({ P := Tryz.prog, G := [], globs := GLO.gB, hints := [], loops := [], inl := [] } : Ctx)
theorem loops : bg (Tryz.f70.body.getD .skip) = [] := by kernel_rfl
noncomputable def ak : Abs.Spec := fun args K => match args with
 | [.v (.int .i64 a)] => P.om a (fun b c d => K (.tuple [.v (.int .i64 b), .v (.int .i64 c), .v (.int .u64 d)]))
 | _ => none
noncomputable def spec : Abs.Spec := ak
theorem ok0 : Proved Tryz.prog GLO.gB 70 ak := by
 refine bf (D := D) (fn := Tryz.f70) (c := Tryz.f70.body.getD .skip) [.any, .any, .any] (by kernel_rfl) (ah (by kernel_rfl)) (by kernel_rfl) (by kernel_rfl) (by kernel_rfl) trivial trivial ?_ ?_
 · rw [loops]; exact trivial
 · intro args K r h
   unfold ak at h
   split at h
   · rw [P.ac9] at h; exact Eq.trans (by kernel_rfl) h
   · cases h
theorem ok : Proved Tryz.prog GLO.gB 70 spec := ok0
end om

namespace ac1
noncomputable def D : Ctx := ({ P := Tryz.prog, G := [(70, om.spec)], globs := GLO.gB, hints := [], loops := [], inl := [] } : Ctx)
theorem loops : bg (Tryz.f51.body.getD .skip) = [] := by kernel_rfl
noncomputable def ak : Abs.Spec := fun args K => match args with
 | [.v (.int .i64 a)] => P.ac1 a (fun b => K (.v (.int .i64 b)))
 | _ => none
noncomputable def spec : Abs.Spec := ak
theorem ok0 : Proved Tryz.prog GLO.gB 51 ak := by
 refine bf (D := D) (fn := Tryz.f51) (c := Tryz.f51.body.getD .skip) [.any] (by kernel_rfl) (ah (by kernel_rfl)) (by kernel_rfl) (by kernel_rfl) (by kernel_rfl) ⟨om.ok, trivial⟩ trivial ?_ ?_
 · rw [loops]; exact trivial
 · intro args K r h
   unfold ak at h
   split at h
   · rw [P.an7] at h; exact Eq.trans (by kernel_rfl) h
   · cases h
theorem ok : Proved Tryz.prog GLO.gB 51 spec := ok0
end ac1

namespace uw
noncomputable def D : Ctx := ({ P := Tryz.prog, G := [], globs := GLO.gB, hints := [], loops := [], inl := [] } : Ctx)
theorem loops : bg (Tryz.f49.body.getD .skip) = [] := by kernel_rfl
noncomputable def ak : Abs.Spec := fun args K => match args with
 | [.v (.int .i64 a)] => P.uw a (fun b => K (.v (.int .u64 b)))
 | _ => none
noncomputable def spec : Abs.Spec := ak
theorem ok0 : Proved Tryz.prog GLO.gB 49 ak := by
 refine bf (D := D) (fn := Tryz.f49) (c := Tryz.f49.body.getD .skip) [.any] (by kernel_rfl) (ah (by kernel_rfl)) (by kernel_rfl) (by kernel_rfl) (by kernel_rfl) trivial trivial ?_ ?_
 · rw [loops]; exact trivial
 · intro args K r h
   unfold ak at h
   split at h
   · rw [P.anx] at h; exact Eq.trans (by kernel_rfl) h
   · cases h
theorem ok : Proved Tryz.prog GLO.gB 49 spec := ok0
end uw

namespace aev
noncomputable def D : Ctx := ({ P := Tryz.prog, G := [(49, uw.spec), (51, ac1.spec)], globs := GLO.gB, hints := [], loops := [], inl := [] } : Ctx)
theorem loops : bg (Tryz.f21.body.getD .skip) = [] := by kernel_rfl
noncomputable def ak : Abs.Spec := fun args K => match args with
 | [.agg [.v (.int .i64 a), .v (.int .i64 b)]] => P.aev a b (fun c => K (.v (.bool c)))
 | _ => none
noncomputable def spec : Abs.Spec := ak
theorem ok0 : Proved Tryz.prog GLO.gB 21 ak := by
 refine bf (D := D) (fn := Tryz.f21) (c := Tryz.f21.body.getD .skip) [.any] (by kernel_rfl) (ah (by kernel_rfl)) (by kernel_rfl) (by kernel_rfl) (by kernel_rfl) ⟨uw.ok, ac1.ok, trivial⟩ trivial ?_ ?_
 · rw [loops]; exact trivial
 · intro args K r h
   unfold ak at h
   split at h
   · rw [P.bae] at h; exact Eq.trans (by kernel_rfl) h
   · cases h
theorem ok : Proved Tryz.prog GLO.gB 21 spec := ok0
end aev

namespace zm
abbrev X3 := P.zt1
def S3 : X3 → ASt := fun (f, g, a, b, c, d, e) => ⟨[(1, .ptr 0 0), (3, .v (.int .i64 f)), (4, .v (.int .i64 g))], [(0, some ⟨.box 25 [.sl (.cols a [.ints .i64 b, .ints .i64 c]), .sl (.ints .u8 d), .sl (.ints .u8 e)], false⟩)], 1, 54⟩
def V3 : ASt → Option X3
 | ⟨[(1, .ptr 0 0), (3, .v (.int .i64 f)), (4, .v (.int .i64 g))], [(0, some ⟨.box 25 [.sl (.cols a [.ints .i64 b, .ints .i64 c]), .sl (.ints .u8 d), .sl (.ints .u8 e)], false⟩)], 1, 54⟩ => some (f, g, a, b, c, d, e)
 | _ => none
theorem anu (st) (x) (h : V3 st = some x) : st = S3 x := by
 unfold V3 at h
 split at h
 · cases h; rfl
 · cases h
abbrev Y3 := P.zy1
def E3 (K : AExit → ASt → Option R) : Y3 → Option R := (Sum.elim (fun x => K (.exit 0) (S3 x)) (fun (j, f, g, a, b, c, d, e, h, i) => K .ret ⟨[(2, .v (.bool j))], [(1, some ⟨.box 40 [.v (.int .i64 f), .v (.int .i64 g)], false⟩), (1, some ⟨.box 40 [.v (.int .i64 a), .v (.int .i64 b)], false⟩), (0, some ⟨.box 25 [.sl (.cols c [.ints .i64 d, .ints .i64 e]), .sl (.ints .u8 h), .sl (.ints .u8 i)], false⟩)], 2, 54⟩))
noncomputable def L3 : qb := fun st K => adk (V3 st) fun x => P.zm1 x (E3 K)
noncomputable def D : Ctx := ({ P := Tryz.prog, G := [(21, aev.spec)], globs := GLO.gB, hints := [(3, ⟨[1, 3, 4], [], [2], [], none, [], [], []⟩)], loops := [(3, L3)], inl := [] } : Ctx)
theorem ahi (K) (next) (x) : lu D (cu Tryz.f24 3) K next (S3 x) = P.zs1 x (fun x => next (S3 x)) (E3 K) := by kernel_rfl
theorem an2 : jq D (cu Tryz.f24 3) := eu S3 anu (by kernel_rfl) P.ze1 ahi
theorem loops : bg (Tryz.f24.body.getD .skip) = [cu Tryz.f24 3] := by kernel_rfl
noncomputable def ak : Abs.Spec := fun args K => match args with
 | [.agg [.sl (.cols a [.ints .i64 b, .ints .i64 c]), .sl (.ints .u8 e), .sl (.ints .u8 d)]] => P.zm a b c e d (fun f => K (.v (.bool f)))
 | _ => none
noncomputable def spec : Abs.Spec := fun args K => ak (kg [.agg [.sl (.cols 0 [.ints .i64 [], .ints .i64 []]), .sl (.ints .u8 []), .sl (.ints .u8 [])]] args) K
theorem ok0 : Proved Tryz.prog GLO.gB 24 ak := by
 refine bf (D := D) (fn := Tryz.f24) (c := Tryz.f24.body.getD .skip) [.any] (by kernel_rfl) (ah (by kernel_rfl)) (by kernel_rfl) (by kernel_rfl) (by kernel_rfl) ⟨aev.ok, trivial⟩ trivial ?_ ?_
 · rw [loops]; exact ⟨an2, trivial⟩
 · intro args K r h
   unfold ak at h
   split at h
   · rw [P.arl] at h; exact Eq.trans (by kernel_rfl) h
   · cases h
theorem ok : Proved Tryz.prog GLO.gB 24 spec := bn _ ok0
end zm

end
