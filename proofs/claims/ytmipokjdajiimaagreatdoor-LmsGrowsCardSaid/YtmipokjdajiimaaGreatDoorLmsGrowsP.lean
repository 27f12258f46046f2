/-
  LmsGrows, part 16: an interpreter of my own over abstract values, the pure functions, the walks and the plain law.
-/

import Derived.Test.YtmipokjdajiimaaGreatDoorLmsGrowsK
import Derived.Test.YtmipokjdajiimaaGreatDoorLmsGrowsH
import Derived.Test.YtmipokjdajiimaaGreatDoorProg
import Derived.Test.YtmipokjdajiimaaGreatDoorLmsGrowsJ
import Derived.Test.YtmipokjdajiimaaGreatDoorLmsGrowsM
import Derived.Test.YtmipokjdajiimaaGreatDoorLmsGrowsO
import Derived.KernelRfl
import Derived.Test.YtmipokjdajiimaaGreatDoorLmsGrowsI

section
open Go Go.Abs Go.Proofs
set_option maxRecDepth 100000
set_option maxHeartbeats 0
set_option linter.unusedVariables false

namespace ko
abbrev X9 := P.bsi
def S9 : X9 → ASt := fun (g, h, i, j, a, b, c, d, e, f, k) => ⟨[(14, .own 2), (12, .ptr 0 0), (15, .sl (.ints .u8 g)), (51, .own 1), (52, .v (.int .i64 h)), (53, .v (.int .i64 i))], [(2, some ⟨.row 5 (.ints .u8 j), false⟩), (0, some ⟨.box 106 [.v (.int .i64 a), .sl (.ints .u8 b), .v (.int .u32 c), .v (.int .i64 d), .v (.int .i64 e), .v (.int .i64 f)], false⟩), (1, some ⟨.row 41 (.ints .u32 k), false⟩)], 3, 77⟩
def V9 : ASt → Option X9
 | ⟨[(14, .own 2), (12, .ptr 0 0), (15, .sl (.ints .u8 g)), (51, .own 1), (52, .v (.int .i64 h)), (53, .v (.int .i64 i))], [(2, some ⟨.row 5 (.ints .u8 j), false⟩), (0, some ⟨.box 106 [.v (.int .i64 a), .sl (.ints .u8 b), .v (.int .u32 c), .v (.int .i64 d), .v (.int .i64 e), .v (.int .i64 f)], false⟩), (1, some ⟨.row 41 (.ints .u32 k), false⟩)], 3, 77⟩ => some (g, h, i, j, a, b, c, d, e, f, k)
 | _ => none
theorem axz (st) (x) (h : V9 st = some x) : st = S9 x := by
 unfold V9 at h
 split at h
 · cases h; rfl
 · cases h
abbrev Y9 := P.bv1
def E9 (K : AExit → ASt → Option R) : Y9 → Option R := (fun x => K (.exit 1) (S9 x))
noncomputable def L9 : ru := fun st K => ae3 (V9 st) fun x => P.byd x (E9 K)
noncomputable def D : Ctx := ({ P := Tryz.prog, G := [(52, jv.spec), (54, jy.spec), (76, ji.spec), (77, jk.spec), (89, l5.spec), (90, gy.spec), (95, tu.spec)], globs := GLO.gB, hints := [(9, ⟨[12, 15, 51, 52, 53], [(14, 5, .ints .u8 [])], [10, 11], [(15, .sl (.ints .u8 []))], none, [], [], []⟩)], loops := [(9, L9)], inl := [] } : Ctx)
theorem aon (K) (next) (x) : l8 D (dx Tryz.f88 9) K next (S9 x) = P.btc x (fun x => next (S9 x)) (E9 K) := by kernel_rfl
theorem aw4 : j5 D (dx Tryz.f88 9) := fq S9 axz (by kernel_rfl) P.b0a aon
theorem loops : bg (Tryz.f88.body.getD .skip) = [dx Tryz.f88 9] := by kernel_rfl
noncomputable def aj : Abs.Spec := fun args K => match args with
 | [.v (.int .i64 a), .sl (.ints .u8 b), .v (.int .u32 c), .sl (.ints .u8 d), .sl (.ints .u8 e)] => P.ko a b c d e (fun f g => K (.tuple [.fr 5 (.ints .u8 f), .v (.int .i64 g)]))
 | _ => none
noncomputable def spec : Abs.Spec := fun args K => aj (l7 [.any, .sl (.ints .u8 []), .any, .sl (.ints .u8 []), .sl (.ints .u8 [])] args) K
theorem ok0 : Proved Tryz.prog GLO.gB 88 aj := by
 refine bf (D := D) (fn := Tryz.f88) (c := Tryz.f88.body.getD .skip) [.fr 5 (.ints .u8 []), .any] (by kernel_rfl) (ah (by kernel_rfl)) (by kernel_rfl) (by kernel_rfl) (by kernel_rfl) ⟨jv.ok, jy.ok, ji.ok, jk.ok, l5.ok, gy.ok, tu.ok, trivial⟩ trivial ?_ ?_
 · rw [loops]; exact ⟨aw4, trivial⟩
 · intro args K r h
   unfold aj at h
   split at h
   · rw [P.amy] at h; exact Eq.trans (by kernel_rfl) h
   · cases h
theorem ok : Proved Tryz.prog GLO.gB 88 spec := bq _ ok0
end ko

namespace uq
noncomputable def D : Ctx := ({ P := Tryz.prog, G := [(29, fu.spec), (30, jl.spec), (91, acd.spec), (92, vw.spec), (93, ach.spec)], globs := GLO.gB, hints := [], loops := [], inl := [] } : Ctx)
theorem loops : bg (Tryz.f69.body.getD .skip) = [] := by kernel_rfl
noncomputable def aj : Abs.Spec := fun args K => match args with
 | [.sl (.ints .u8 a), .v (.int .u64 b), .v (.int .u64 c), .sl (.rows .u8 d)] => P.uq a b c d (fun e => K (.fr 5 (.ints .u8 e)))
 | _ => none
noncomputable def spec : Abs.Spec := fun args K => aj (l7 [.sl (.ints .u8 []), .any, .any, .sl (.rows .u8 [])] args) K
theorem ok0 : Proved Tryz.prog GLO.gB 69 aj := by
 refine bf (D := D) (fn := Tryz.f69) (c := Tryz.f69.body.getD .skip) [.fr 5 (.ints .u8 [])] (by kernel_rfl) (ah (by kernel_rfl)) (by kernel_rfl) (by kernel_rfl) (by kernel_rfl) ⟨fu.ok, jl.ok, acd.ok, vw.ok, ach.ok, trivial⟩ trivial ?_ ?_
 · rw [loops]; exact trivial
 · intro args K r h
   unfold aj at h
   split at h
   · rw [P.av8] at h; exact Eq.trans (by kernel_rfl) h
   · cases h
theorem ok : Proved Tryz.prog GLO.gB 69 spec := bq _ ok0
end uq

namespace ag0
abbrev bqv := P.bq4
def bhm : bqv → ASt := fun (d, a, e, b, c) => ⟨[(0, .yld 9 [5, 13, 14] [.ptr 1 0, .ptr 5 0, .ptr 6 0]), (4, .v (.int .u64 d))], [(1, some ⟨.box 23 [.sl (.ints .u8 a)], false⟩), (4, some ⟨.row 5 (.ints .u8 e), true⟩), (5, some ⟨.box 23 [.sl (.ints .u8 b)], false⟩), (6, some ⟨.box 23 [.sl (.ints .u8 c)], false⟩)], 840, 19⟩
def bog : ASt → Option bqv
 | ⟨[(0, .yld 9 [5, 13, 14] [.ptr 1 0, .ptr 5 0, .ptr 6 0]), (4, .v (.int .u64 d))], [(1, some ⟨.box 23 [.sl (.ints .u8 a)], false⟩), (4, some ⟨.row 5 (.ints .u8 e), true⟩), (5, some ⟨.box 23 [.sl (.ints .u8 b)], false⟩), (6, some ⟨.box 23 [.sl (.ints .u8 c)], false⟩)], 840, 19⟩ => some (d, a, e, b, c)
 | _ => none
theorem bdc (st) (x) (h : bog st = some x) : st = bhm x := by
 unfold bog at h
 split at h
 · cases h; rfl
 · cases h
abbrev by0 := P.bww
def bri (K : AExit → ASt → Option R) : by0 → Option R := (fun x => K (.exit 0) (bhm x))
noncomputable def buu : ru := fun st K => ae3 (bog st) fun x => P.byb x (bri K)
noncomputable def D3 : Ctx := ({ P := Tryz.prog, G := [(52, jv.spec), (54, jy.spec), (69, uq.spec), (88, ko.spec)], globs := GLO.gB, hints := [], loops := [], inl := [], y := some (azb (agj Tryz.f67 8) 74 false) } : Ctx)
noncomputable def D2 : Ctx := ({ P := Tryz.prog, G := [(52, jv.spec), (54, jy.spec), (69, uq.spec), (88, ko.spec)], globs := GLO.gB, hints := [(1, ⟨[0, 4], [], [], [], some (840, [1, 4, 5, 6]), [1, 5, 6], [], []⟩)], loops := [(1, buu)], inl := [], y := some (azb (agj Tryz.f67 8) 74 true), ys := some (aqa D3 (azb (agj Tryz.f67 8) 74 true)) } : Ctx)
noncomputable def D1 : Ctx := ({ P := Tryz.prog, G := [(52, jv.spec), (54, jy.spec), (69, uq.spec), (88, ko.spec)], globs := GLO.gB, hints := [], loops := [], inl := [] } : Ctx)
noncomputable def D : Ctx := ({ P := Tryz.prog, G := [(52, jv.spec), (54, jy.spec), (69, uq.spec), (88, ko.spec)], globs := GLO.gB, hints := [], loops := [], inl := [(47, ai0 D1 Tryz.f47)], top := true, rng := [(8, ⟨78, 74, [5, 13, 14], ai0 D2 Tryz.f78⟩)] } : Ctx)
theorem axc (K) (next) (x) : l8 D2 (dx Tryz.f78 1) K next (bhm x) = P.bsv x (fun x => next (bhm x)) (bri K) := by kernel_rfl
theorem bdf : j5 D2 (dx Tryz.f78 1) := fq bhm bdc (by kernel_rfl) P.bz5 axc
theorem loops : bg (Tryz.f67.body.getD .skip) = [] := by kernel_rfl
theorem azm : bg (Tryz.f47.body.getD .skip) = [] := by kernel_rfl
theorem bgp : bg (Tryz.f78.body.getD .skip) = [dx Tryz.f78 1] := by kernel_rfl
theorem bhq : bg (bo4 (agj Tryz.f67 8)) = [] := by kernel_rfl
theorem ranges : qm (Tryz.f67.body.getD .skip) = [agj Tryz.f67 8] := by kernel_rfl
theorem ayg : alu D2 (aqa D3 (azb (agj Tryz.f67 8) 74 true)) := bbl (Y := azb (agj Tryz.f67 8) 74 true) (awk (D := D3) ⟨jv.ok, jy.ok, uq.ok, ko.ok, trivial⟩) (ah (by kernel_rfl)) (aw0 (D := D3) trivial (apc rfl)) (by kernel_rfl) rfl rfl (by kernel_rfl) (by kernel_rfl) rfl rfl rfl (ag4 _ (by rw [show bg (azb (agj Tryz.f67 8) 74 true).assign = [] from by kernel_rfl]; exact trivial)) (ag4 _ (by rw [show bg (azb (agj Tryz.f67 8) 74 true).body = bg (bo4 (agj Tryz.f67 8)) from by kernel_rfl, bhq]; exact trivial))
noncomputable def aj : Abs.Spec := fun args K => match args with
 | [.agg [.v (.int .i64 a), .v (.int .i64 b)], .sl (.ints .u8 c), .sl (.ints .u8 d), .sl (.ints .u8 e)] => P.ag0 a b c d e (fun f => K (.sl (.ints .u8 f)))
 | _ => none
noncomputable def spec : Abs.Spec := fun args K => aj (l7 [.any, .sl (.ints .u8 []), .sl (.ints .u8 []), .sl (.ints .u8 [])] args) K
theorem ok0 : Proved Tryz.prog GLO.gB 67 aj := by
 refine bf (D := D) (fn := Tryz.f67) (c := Tryz.f67.body.getD .skip) [.sl (.ints .u8 [])] (by kernel_rfl) (ah (by kernel_rfl)) (by kernel_rfl) (by kernel_rfl) (by kernel_rfl) ⟨jv.ok, jy.ok, uq.ok, ko.ok, trivial⟩ ⟨azq (D := D1) (D' := D) (fn := Tryz.f47) (c := Tryz.f47.body.getD .skip) rfl rfl (by kernel_rfl) (ah (by kernel_rfl)) (by kernel_rfl) (by kernel_rfl) (by kernel_rfl) ⟨jv.ok, jy.ok, uq.ok, ko.ok, trivial⟩ trivial (by rw [azm]; exact trivial) (fun _ _ _ _ _ h => h), trivial⟩ ?_ ?_ (hRg := by rw [ranges]; exact ⟨awu (D := D) (Di := D2) (e := ⟨78, 74, [5, 13, 14], ai0 D2 Tryz.f78⟩) (by kernel_rfl) rfl rfl (by kernel_rfl) (azq (D := D2) (D' := D2) (fn := Tryz.f78) (c := Tryz.f78.body.getD .skip) rfl rfl (by kernel_rfl) (ah (by kernel_rfl)) (by kernel_rfl) (by kernel_rfl) (by kernel_rfl) ⟨jv.ok, jy.ok, uq.ok, ko.ok, trivial⟩ trivial (by rw [bgp]; exact ⟨bdf, trivial⟩) (fun _ _ _ _ _ h => h) rfl rfl (amw rfl _) (fun s hs => by have hs : some (aqa D3 (azb (agj Tryz.f67 8) 74 true)) = some s := hs; cases hs; exact ayg)), trivial⟩)
 · rw [loops]; exact trivial
 · intro args K r h
   unfold aj at h
   split at h
   · rw [P.bbu] at h; exact Eq.trans (by kernel_rfl) h
   · cases h
theorem ok : Proved Tryz.prog GLO.gB 67 spec := bq _ ok0
end ag0

namespace abp
noncomputable def D : Ctx := ({ P := Tryz.prog, G := [(40, ab8.spec), (54, jy.spec), (63, tq.spec), (64, yh.spec), (65, ahb.spec), (66, aa7.spec), (67, ag0.spec)], globs := GLO.gB, hints := [], loops := [], inl := [] } : Ctx)
theorem loops : bg (Tryz.f38.body.getD .skip) = [] := by kernel_rfl
noncomputable def aj : Abs.Spec := fun args K => match args with
 | [.sl (.ints .u8 a), .sl (.ints .u8 b), .sl (.ints .u8 c)] => P.abp a b c (fun d => K (.v (.int .i64 d)))
 | _ => none
noncomputable def spec : Abs.Spec := fun args K => aj (l7 [.sl (.ints .u8 []), .sl (.ints .u8 []), .sl (.ints .u8 [])] args) K
theorem ok0 : Proved Tryz.prog GLO.gB 38 aj := by
 refine bf (D := D) (fn := Tryz.f38) (c := Tryz.f38.body.getD .skip) [.any] (by kernel_rfl) (ah (by kernel_rfl)) (by kernel_rfl) (by kernel_rfl) (by kernel_rfl) ⟨ab8.ok, jy.ok, tq.ok, yh.ok, ahb.ok, aa7.ok, ag0.ok, trivial⟩ trivial ?_ ?_
 · rw [loops]; exact trivial
 · intro args K r h
   unfold aj at h
   split at h
   · rw [P.am1] at h; exact Eq.trans (by kernel_rfl) h
   · cases h
theorem ok : Proved Tryz.prog GLO.gB 38 spec := bq _ ok0
end abp

namespace um
noncomputable def D : Ctx := ({ P := Tryz.prog, G := [(20, wm.spec), (22, ze.spec), (38, abp.spec)], globs := GLO.gB, hints := [], loops := [], inl := [] } : Ctx)
theorem loops : bg (Tryz.f15.body.getD .skip) = [] := by kernel_rfl
noncomputable def aj : Abs.Spec := fun args K => match args with
 | [] => P.um (fun a => K (.v (.bool a)))
 | _ => none
noncomputable def spec : Abs.Spec := aj
theorem ok0 : Proved Tryz.prog GLO.gB 15 aj := by
 refine bf (D := D) (fn := Tryz.f15) (c := Tryz.f15.body.getD .skip) [.any] (by kernel_rfl) (ah (by kernel_rfl)) (by kernel_rfl) (by kernel_rfl) (by kernel_rfl) ⟨wm.ok, ze.ok, abp.ok, trivial⟩ trivial ?_ ?_
 · rw [loops]; exact trivial
 · intro args K r h
   unfold aj at h
   split at h
   · rw [P.aq0] at h; exact Eq.trans (by kernel_rfl) h
   · cases h
theorem ok : Proved Tryz.prog GLO.gB 15 spec := ok0
end um

namespace aes
abbrev X2 := P.zt2
def S2 : X2 → ASt := fun (a, b, c) => ⟨[(5, .sl (.rows .u8 a)), (6, .v (.int .i64 b)), (7, .v (.int .i64 c))], [], 0, 15⟩
def V2 : ASt → Option X2
 | ⟨[(5, .sl (.rows .u8 a)), (6, .v (.int .i64 b)), (7, .v (.int .i64 c))], [], 0, 15⟩ => some (a, b, c)
 | _ => none
theorem bjc (st) (x) (h : V2 st = some x) : st = S2 x := by
 unfold V2 at h
 split at h
 · cases h; rfl
 · cases h
abbrev Y2 := P.zy2
def E2 (K : AExit → ASt → Option R) : Y2 → Option R := (Sum.elim (fun x => K (.exit 0) (S2 x)) (fun a => K .ret ⟨[(2, .v (.bool a))], [], 0, 15⟩))
noncomputable def L2 : ru := fun st K => ae3 (V2 st) fun x => P.zm2 x (E2 K)
noncomputable def D : Ctx := ({ P := Tryz.prog, G := [], globs := GLO.gB, hints := [(2, ⟨[5, 6, 7], [], [2], [], none, [], [], []⟩)], loops := [(2, L2)], inl := [] } : Ctx)
theorem ay5 (K) (next) (x) : l8 D (dx Tryz.f14 2) K next (S2 x) = P.zs2 x (fun x => next (S2 x)) (E2 K) := by kernel_rfl
theorem bg1 : j5 D (dx Tryz.f14 2) := fq S2 bjc (by kernel_rfl) P.ze2 ay5
theorem loops : bg (Tryz.f14.body.getD .skip) = [dx Tryz.f14 2] := by kernel_rfl
noncomputable def aj : Abs.Spec := fun args K => match args with
 | [.sl (.rows .u8 a)] => P.aes a (fun b => K (.v (.bool b)))
 | _ => none
noncomputable def spec : Abs.Spec := fun args K => aj (l7 [.sl (.rows .u8 [])] args) K
theorem ok0 : Proved Tryz.prog GLO.gB 14 aj := by
 refine bf (D := D) (fn := Tryz.f14) (c := Tryz.f14.body.getD .skip) [.any] (by kernel_rfl) (ah (by kernel_rfl)) (by kernel_rfl) (by kernel_rfl) (by kernel_rfl) trivial trivial ?_ ?_
 · rw [loops]; exact ⟨bg1, trivial⟩
 · intro args K r h
   unfold aj at h
   split at h
   · rw [P.avq] at h; exact Eq.trans (by kernel_rfl) h
   · cases h
theorem ok : Proved Tryz.prog GLO.gB 14 spec := bq _ ok0
end aes

namespace og
noncomputable def D : Ctx := ({ P := Tryz.prog, G := [], globs := GLO.gB, hints := [], loops := [], inl := [] } : Ctx)
theorem loops : bg (Tryz.f70.body.getD .skip) = [] := by kernel_rfl
noncomputable def aj : Abs.Spec := fun args K => match args with
 | [.v (.int .i64 a)] => P.og a (fun b c d => K (.tuple [.v (.int .i64 b), .v (.int .i64 c), .v (.int .u64 d)]))
 | _ => none
noncomputable def spec : Abs.Spec := aj
theorem ok0 : Proved Tryz.prog GLO.gB 70 aj := by
 refine bf (D := D) (fn := Tryz.f70) (c := Tryz.f70.body.getD .skip) [.any, .any, .any] (by kernel_rfl) (ah (by kernel_rfl)) (by kernel_rfl) (by kernel_rfl) (by kernel_rfl) trivial trivial ?_ ?_
 · rw [loops]; exact trivial
 · intro args K r h
   unfold aj at h
   split at h
   · rw [P.ace] at h; exact Eq.trans (by kernel_rfl) h
   · cases h
theorem ok : Proved Tryz.prog GLO.gB 70 spec := ok0
end og

namespace y9
noncomputable def D : Ctx := ({ P := Tryz.prog, G := [(70, og.spec)], globs := GLO.gB, hints := [], loops := [], inl := [] } : Ctx)
theorem loops : bg (Tryz.f51.body.getD .skip) = [] := by kernel_rfl
noncomputable def aj : Abs.Spec := fun args K => match args with
 | [.v (.int .i64 a)] => P.y9 a (fun b => K (.v (.int .i64 b)))
 | _ => none
noncomputable def spec : Abs.Spec := aj
theorem ok0 : Proved Tryz.prog GLO.gB 51 aj := by
 refine bf (D := D) (fn := Tryz.f51) (c := Tryz.f51.body.getD .skip) [.any] (by kernel_rfl) (ah (by kernel_rfl)) (by kernel_rfl) (by kernel_rfl) (by kernel_rfl) ⟨og.ok, trivial⟩ trivial ?_ ?_
 · rw [loops]; exact trivial
 · intro args K r h
   unfold aj at h
   split at h
   · rw [P.aml] at h; exact Eq.trans (by kernel_rfl) h
   · cases h
theorem ok : Proved Tryz.prog GLO.gB 51 spec := ok0
end y9

namespace sw
noncomputable def D : Ctx := ({ P := Tryz.prog, G := [], globs := GLO.gB, hints := [], loops := [], inl := [] } : Ctx)
theorem loops : bg (Tryz.f49.body.getD .skip) = [] := by kernel_rfl
noncomputable def aj : Abs.Spec := fun args K => match args with
 | [.v (.int .i64 a)] => P.sw a (fun b => K (.v (.int .u64 b)))
 | _ => none
noncomputable def spec : Abs.Spec := aj
theorem ok0 : Proved Tryz.prog GLO.gB 49 aj := by
 refine bf (D := D) (fn := Tryz.f49) (c := Tryz.f49.body.getD .skip) [.any] (by kernel_rfl) (ah (by kernel_rfl)) (by kernel_rfl) (by kernel_rfl) (by kernel_rfl) trivial trivial ?_ ?_
 · rw [loops]; exact trivial
 · intro args K r h
   unfold aj at h
   split at h
   · rw [P.amd] at h; exact Eq.trans (by kernel_rfl) h
   · cases h
theorem ok : Proved Tryz.prog GLO.gB 49 spec := ok0
end sw

namespace yx
noncomputable def D : Ctx := ({ P := Tryz.prog, G := [(49, sw.spec), (51, y9.spec)], globs := GLO.gB, hints := [], loops := [], inl := [] } : Ctx)
theorem loops : bg (Tryz.f21.body.getD .skip) = [] := by kernel_rfl
noncomputable def aj : Abs.Spec := fun args K => match args with
 | [.agg [.v (.int .i64 a), .v (.int .i64 b)]] => P.yx a b (fun c => K (.v (.bool c)))
 | _ => none
noncomputable def spec : Abs.Spec := aj
theorem ok0 : Proved Tryz.prog GLO.gB 21 aj := by
 refine bf (D := D) (fn := Tryz.f21) (c := Tryz.f21.body.getD .skip) [.any] (by kernel_rfl) (ah (by kernel_rfl)) (by kernel_rfl) (by kernel_rfl) (by kernel_rfl) ⟨sw.ok, y9.ok, trivial⟩ trivial ?_ ?_
 · rw [loops]; exact trivial
 · intro args K r h
   unfold aj at h
   split at h
   · rw [P.awp] at h; exact Eq.trans (by kernel_rfl) h
   · cases h
theorem ok : Proved Tryz.prog GLO.gB 21 spec := ok0
end yx

namespace adi
noncomputable def D : Ctx := ({ P := Tryz.prog, G := [(21, yx.spec)], globs := GLO.gB, hints := [], loops := [], inl := [] } : Ctx)
theorem loops : bg (Tryz.f13.body.getD .skip) = [] := by kernel_rfl
noncomputable def aj : Abs.Spec := fun args K => match args with
 | [.agg [.v (.int .i64 a), .v (.int .i64 b)]] => P.adi a b (fun c => K (.v (.bool c)))
 | _ => none
noncomputable def spec : Abs.Spec := aj
theorem ok0 : Proved Tryz.prog GLO.gB 13 aj := by
 refine bf (D := D) (fn := Tryz.f13) (c := Tryz.f13.body.getD .skip) [.any] (by kernel_rfl) (ah (by kernel_rfl)) (by kernel_rfl) (by kernel_rfl) (by kernel_rfl) ⟨yx.ok, trivial⟩ trivial ?_ ?_
 · rw [loops]; exact trivial
 · intro args K r h
   unfold aj at h
   split at h
   · rw [P.agk] at h; exact Eq.trans (by kernel_rfl) h
   · cases h
theorem ok : Proved Tryz.prog GLO.gB 13 spec := ok0
end adi

namespace z8
abbrev X4 := P.zt1
def S4 : X4 → ASt := fun (a, b, c) => ⟨[(0, .sl (.ints .u8 a)), (1, .sl (.ints .u8 b)), (5, .v (.int .i64 c))], [], 0, 26⟩
def V4 : ASt → Option X4
 | ⟨[(0, .sl (.ints .u8 a)), (1, .sl (.ints .u8 b)), (5, .v (.int .i64 c))], [], 0, 26⟩ => some (a, b, c)
 | _ => none
theorem ate (st) (x) (h : V4 st = some x) : st = S4 x := by
 unfold V4 at h
 split at h
 · cases h; rfl
 · cases h
abbrev Y4 := P.zy1
def E4 (K : AExit → ASt → Option R) : Y4 → Option R := (Sum.elim (fun x => K (.exit 0) (S4 x)) (fun a => K .ret ⟨[(4, .v (.bool a))], [], 0, 26⟩))
noncomputable def L4 : ru := fun st K => ae3 (V4 st) fun x => P.zm1 x (E4 K)
noncomputable def D : Ctx := ({ P := Tryz.prog, G := [], globs := GLO.gB, hints := [(4, ⟨[0, 1, 5], [], [4], [], none, [], [], []⟩)], loops := [(4, L4)], inl := [] } : Ctx)
theorem akm (K) (next) (x) : l8 D (dx Tryz.f12 4) K next (S4 x) = P.zs1 x (fun x => next (S4 x)) (E4 K) := by kernel_rfl
theorem auq : j5 D (dx Tryz.f12 4) := fq S4 ate (by kernel_rfl) P.ze1 akm
theorem loops : bg (Tryz.f12.body.getD .skip) = [dx Tryz.f12 4] := by kernel_rfl
noncomputable def aj : Abs.Spec := fun args K => match args with
 | [.sl (.ints .u8 a), .sl (.ints .u8 b)] => P.z8 a b (fun c => K (.v (.bool c)))
 | _ => none
noncomputable def spec : Abs.Spec := fun args K => aj (l7 [.sl (.ints .u8 []), .sl (.ints .u8 [])] args) K
theorem ok0 : Proved Tryz.prog GLO.gB 12 aj := by
 refine bf (D := D) (fn := Tryz.f12) (c := Tryz.f12.body.getD .skip) [.any] (by kernel_rfl) (ah (by kernel_rfl)) (by kernel_rfl) (by kernel_rfl) (by kernel_rfl) trivial trivial ?_ ?_
 · rw [loops]; exact ⟨auq, trivial⟩
 · intro args K r h
   unfold aj at h
   split at h
   · rw [P.asj] at h; exact Eq.trans (by kernel_rfl) h
   · cases h
theorem ok : Proved Tryz.prog GLO.gB 12 spec := bq _ ok0
end z8

namespace kg
abbrev X3 := P.bp6
def S3 : X3 → ASt := fun (a, b, c) => ⟨[(3, .own 0), (0, .sl (.rows .u8 a)), (4, .v (.int .i64 b))], [(0, some ⟨.row 5 (.ints .u8 c), false⟩)], 1, 18⟩
def V3 : ASt → Option X3
 | ⟨[(3, .own 0), (0, .sl (.rows .u8 a)), (4, .v (.int .i64 b))], [(0, some ⟨.row 5 (.ints .u8 c), false⟩)], 1, 18⟩ => some (a, b, c)
 | _ => none
theorem asr (st) (x) (h : V3 st = some x) : st = S3 x := by
 unfold V3 at h
 split at h
 · cases h; rfl
 · cases h
abbrev Y3 := P.bw7
def E3 (K : AExit → ASt → Option R) : Y3 → Option R := (fun x => K (.exit 0) (S3 x))
noncomputable def L3 : ru := fun st K => ae3 (V3 st) fun x => P.bt8 x (E3 K)
noncomputable def D : Ctx := ({ P := Tryz.prog, G := [], globs := GLO.gB, hints := [(3, ⟨[0, 4], [(3, 5, .ints .u8 [])], [2], [], none, [], [], []⟩)], loops := [(3, L3)], inl := [] } : Ctx)
theorem ajx (K) (next) (x) : l8 D (dx Tryz.f37 3) K next (S3 x) = P.bps x (fun x => next (S3 x)) (E3 K) := by kernel_rfl
theorem asa : j5 D (dx Tryz.f37 3) := fq S3 asr (by kernel_rfl) P.bzg ajx
theorem loops : bg (Tryz.f37.body.getD .skip) = [dx Tryz.f37 3] := by kernel_rfl
noncomputable def aj : Abs.Spec := fun args K => match args with
 | [.sl (.rows .u8 a)] => P.kg a (fun b => K (.fr 5 (.ints .u8 b)))
 | _ => none
noncomputable def spec : Abs.Spec := fun args K => aj (l7 [.sl (.rows .u8 [])] args) K
theorem ok0 : Proved Tryz.prog GLO.gB 37 aj := by
 refine bf (D := D) (fn := Tryz.f37) (c := Tryz.f37.body.getD .skip) [.fr 5 (.ints .u8 [])] (by kernel_rfl) (ah (by kernel_rfl)) (by kernel_rfl) (by kernel_rfl) (by kernel_rfl) trivial trivial ?_ ?_
 · rw [loops]; exact ⟨asa, trivial⟩
 · intro args K r h
   unfold aj at h
   split at h
   · rw [P.atj] at h; exact Eq.trans (by kernel_rfl) h
   · cases h
theorem ok : Proved Tryz.prog GLO.gB 37 spec := bq _ ok0
end kg

namespace jd
abbrev X5 := P.bqe
def S5 : X5 → ASt := fun (a, b, c) => ⟨[(0, .v (.int .u64 a)), (5, .own 0), (6, .v (.int .i64 b))], [(0, some ⟨.row 5 (.ints .u8 c), false⟩)], 1, 30⟩
def V5 : ASt → Option X5
 | ⟨[(0, .v (.int .u64 a)), (5, .own 0), (6, .v (.int .i64 b))], [(0, some ⟨.row 5 (.ints .u8 c), false⟩)], 1, 30⟩ => some (a, b, c)
 | _ => none
theorem bb5 (st) (x) (h : V5 st = some x) : st = S5 x := by
 unfold V5 at h
 split at h
 · cases h; rfl
 · cases h
abbrev Y5 := P.bwc
def E5 (K : AExit → ASt → Option R) : Y5 → Option R := (fun x => K (.exit 0) (S5 x))
noncomputable def L5 : ru := fun st K => ae3 (V5 st) fun x => P.bw6 x (E5 K)
noncomputable def D : Ctx := ({ P := Tryz.prog, G := [], globs := GLO.gB, hints := [(5, ⟨[0, 5, 6], [], [4], [], none, [], [], []⟩)], loops := [(5, L5)], inl := [] } : Ctx)
theorem asi (K) (next) (x) : l8 D (dx Tryz.f32 5) K next (S5 x) = P.bpz x (fun x => next (S5 x)) (E5 K) := by kernel_rfl
theorem bbx : j5 D (dx Tryz.f32 5) := fq S5 bb5 (by kernel_rfl) P.bzn asi
theorem loops : bg (Tryz.f32.body.getD .skip) = [dx Tryz.f32 5] := by kernel_rfl
noncomputable def aj : Abs.Spec := fun args K => match args with
 | [.v (.int .u64 a), .v (.int .i64 b)] => P.jd a b (fun c => K (.fr 5 (.ints .u8 c)))
 | _ => none
noncomputable def spec : Abs.Spec := aj
theorem ok0 : Proved Tryz.prog GLO.gB 32 aj := by
 refine bf (D := D) (fn := Tryz.f32) (c := Tryz.f32.body.getD .skip) [.fr 5 (.ints .u8 [])] (by kernel_rfl) (ah (by kernel_rfl)) (by kernel_rfl) (by kernel_rfl) (by kernel_rfl) trivial trivial ?_ ?_
 · rw [loops]; exact ⟨bbx, trivial⟩
 · intro args K r h
   unfold aj at h
   split at h
   · rw [P.bab] at h; exact Eq.trans (by kernel_rfl) h
   · cases h
theorem ok : Proved Tryz.prog GLO.gB 32 spec := ok0
end jd

namespace aff
noncomputable def D : Ctx := ({ P := Tryz.prog, G := [(32, jd.spec), (49, sw.spec), (70, og.spec)], globs := GLO.gB, hints := [], loops := [], inl := [] } : Ctx)
theorem loops : bg (Tryz.f43.body.getD .skip) = [] := by kernel_rfl
noncomputable def aj : Abs.Spec := fun args K => match args with
 | [.agg [.v (.int .i64 a), .v (.int .i64 b)]] => P.aff a b (fun c => K (.fr 5 (.ints .u8 c)))
 | _ => none
noncomputable def spec : Abs.Spec := aj
theorem ok0 : Proved Tryz.prog GLO.gB 43 aj := by
 refine bf (D := D) (fn := Tryz.f43) (c := Tryz.f43.body.getD .skip) [.fr 5 (.ints .u8 [])] (by kernel_rfl) (ah (by kernel_rfl)) (by kernel_rfl) (by kernel_rfl) (by kernel_rfl) ⟨jd.ok, sw.ok, og.ok, trivial⟩ trivial ?_ ?_
 · rw [loops]; exact trivial
 · intro args K r h
   unfold aj at h
   split at h
   · rw [P.atr] at h; exact Eq.trans (by kernel_rfl) h
   · cases h
theorem ok : Proved Tryz.prog GLO.gB 43 spec := ok0
end aff

namespace wz
noncomputable def D : Ctx := ({ P := Tryz.prog, G := [], globs := GLO.gB, hints := [], loops := [], inl := [] } : Ctx)
theorem loops : bg (Tryz.f110.body.getD .skip) = [] := by kernel_rfl
noncomputable def aj : Abs.Spec := fun args K => match args with
 | [.v (.int .i64 a)] => P.wz a (fun b => K (.v (.int .i64 b)))
 | _ => none
noncomputable def spec : Abs.Spec := aj
theorem ok0 : Proved Tryz.prog GLO.gB 110 aj := by
 refine bf (D := D) (fn := Tryz.f110) (c := Tryz.f110.body.getD .skip) [.any] (by kernel_rfl) (ah (by kernel_rfl)) (by kernel_rfl) (by kernel_rfl) (by kernel_rfl) trivial trivial ?_ ?_
 · rw [loops]; exact trivial
 · intro args K r h
   unfold aj at h
   split at h
   · rw [P.aqt] at h; exact Eq.trans (by kernel_rfl) h
   · cases h
theorem ok : Proved Tryz.prog GLO.gB 110 spec := ok0
end wz

namespace vg
noncomputable def D : Ctx := ({ P := Tryz.prog, G := [], globs := GLO.gB, hints := [], loops := [], inl := [] } : Ctx)
theorem loops : bg (Tryz.f126.body.getD .skip) = [] := by kernel_rfl
noncomputable def aj : Abs.Spec := fun args K => match args with
 | [.v (.int .u64 a), .v (.int .i64 b), .v (.bool c)] => P.vg a b c (fun d => K (.v (.int .u64 d)))
 | _ => none
noncomputable def spec : Abs.Spec := aj
theorem ok0 : Proved Tryz.prog GLO.gB 126 aj := by
 refine bf (D := D) (fn := Tryz.f126) (c := Tryz.f126.body.getD .skip) [.any] (by kernel_rfl) (ah (by kernel_rfl)) (by kernel_rfl) (by kernel_rfl) (by kernel_rfl) trivial trivial ?_ ?_
 · rw [loops]; exact trivial
 · intro args K r h
   unfold aj at h
   split at h
   · rw [P.ag3] at h; exact Eq.trans (by kernel_rfl) h
   · cases h
theorem ok : Proved Tryz.prog GLO.gB 126 spec := ok0
end vg

namespace vk
noncomputable def D : Ctx := ({ P := Tryz.prog, G := [(126, vg.spec)], globs := GLO.gB, hints := [], loops := [], inl := [] } : Ctx)
theorem loops : bg (Tryz.f120.body.getD .skip) = [] := by kernel_rfl
noncomputable def aj : Abs.Spec := fun args K => match args with
 | [.v (.int .u64 a), .v (.int .i64 b), .v (.int .i64 c), .v (.int .i64 d), .v (.bool e), .v (.bool f)] => P.vk a b c d e f (fun g => K (.v (.int .u64 g)))
 | _ => none
noncomputable def spec : Abs.Spec := aj
theorem ok0 : Proved Tryz.prog GLO.gB 120 aj := by
 refine bf (D := D) (fn := Tryz.f120) (c := Tryz.f120.body.getD .skip) [.any] (by kernel_rfl) (ah (by kernel_rfl)) (by kernel_rfl) (by kernel_rfl) (by kernel_rfl) ⟨vg.ok, trivial⟩ trivial ?_ ?_
 · rw [loops]; exact trivial
 · intro args K r h
   unfold aj at h
   split at h
   · rw [P.adw] at h; exact Eq.trans (by kernel_rfl) h
   · cases h
theorem ok : Proved Tryz.prog GLO.gB 120 spec := ok0
end vk

end
