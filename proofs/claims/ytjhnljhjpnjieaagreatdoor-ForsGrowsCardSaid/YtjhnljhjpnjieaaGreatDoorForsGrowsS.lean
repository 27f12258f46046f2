/-
  ForsGrows, part 19: an interpreter of my own over abstract values, the pure functions, the walks and the plain law.
-/

import Derived.Test.YtjhnljhjpnjieaaGreatDoorForsGrowsK
import Derived.Test.YtjhnljhjpnjieaaGreatDoorForsGrowsG
import Derived.Test.YtjhnljhjpnjieaaGreatDoorProg
import Derived.Test.YtjhnljhjpnjieaaGreatDoorForsGrowsJ
import Derived.KernelRfl
import Derived.Test.YtjhnljhjpnjieaaGreatDoorForsGrowsL
import Derived.Test.YtjhnljhjpnjieaaGreatDoorForsGrowsR
import Derived.Test.YtjhnljhjpnjieaaGreatDoorForsGrowsQ

section
open Go Go.Abs Go.Proofs
set_option maxRecDepth 100000
set_option maxHeartbeats 0
set_option linter.unusedVariables false

namespace w9
noncomputable def D : Ctx := ({ P := Tryz.prog, G := [], globs := GLO.gx, hints := [], loops := [], inl := [] } : Ctx)
theorem loops : cu (Tryz.f116.body.getD .skip) = [] := by kernel_rfl
noncomputable def ay : Abs.Spec := fun args K => match args with
 | [.arr .u64 25 a, .v (.int .i64 b), .v (.int .u8 c)] => P.w9 a b c (fun d => K (.arr .u64 25 d))
 | _ => none
noncomputable def spec : Abs.Spec := ay
theorem ok0 : Proved Tryz.prog GLO.gx 116 ay := by
 refine bq (D := D) (fn := Tryz.f116) (c := Tryz.f116.body.getD .skip) [.any] (by kernel_rfl) (au (by kernel_rfl)) (by kernel_rfl) (by kernel_rfl) (by kernel_rfl) trivial trivial ?_ ?_
 · rw [loops]; exact trivial
 · intro args K r h
   unfold ay at h
   split at h
   · rw [P.aw0] at h; exact Eq.trans (by kernel_rfl) h
   · cases h
theorem ok : Proved Tryz.prog GLO.gx 116 spec := ok0
end w9

namespace z8
abbrev X4 := P.btj
def S4 : X4 → ASt := fun (i, j, a, b, c, d, e, f, g, h) => ⟨[(1, .sl (.ints .u8 i)), (2, .ptr 0 0), (4, .ptr 1 0), (5, .v (.int .i64 j))], [(0, some ⟨.box 109 [.v (.int .i64 a), .arr .u64 25 b, .v (.int .i64 c), .v (.bool d)], false⟩), (1, some ⟨.box 109 [.v (.int .i64 e), .arr .u64 25 f, .v (.int .i64 g), .v (.bool h)], false⟩)], 40, 41⟩
def V4 : ASt → Option X4
 | ⟨[(1, .sl (.ints .u8 i)), (2, .ptr 0 0), (4, .ptr 1 0), (5, .v (.int .i64 j))], [(0, some ⟨.box 109 [.v (.int .i64 a), .arr .u64 25 b, .v (.int .i64 c), .v (.bool d)], false⟩), (1, some ⟨.box 109 [.v (.int .i64 e), .arr .u64 25 f, .v (.int .i64 g), .v (.bool h)], false⟩)], 40, 41⟩ => some (i, j, a, b, c, d, e, f, g, h)
 | _ => none
theorem aqn (st) (x) (h : V4 st = some x) : st = S4 x := by
 unfold V4 at h
 split at h
 · cases h; rfl
 · cases h
abbrev Y4 := P.b1f
def E4 (K : AExit → ASt → Option R) : Y4 → Option R := (fun x => K (.exit 0) (S4 x))
noncomputable def L4 : qc := fun st K => adi (V4 st) fun x => P.bww x (E4 K)
noncomputable def D : Ctx := ({ P := Tryz.prog, G := [(114, aak.spec), (115, mo.spec), (116, w9.spec)], globs := GLO.gx, hints := [(4, ⟨[1, 2, 4, 5], [], [4], [], some (40, [0, 1]), [], []⟩)], loops := [(4, L4)], inl := [] } : Ctx)
theorem ai3 (K) (next) (x) : kr D (dn Tryz.f99 4) K next (S4 x) = P.bue x (fun x => next (S4 x)) (E4 K) := by kernel_rfl
theorem aqr : jr D (dn Tryz.f99 4) := fu S4 aqn (by kernel_rfl) P.b3j ai3
theorem loops : cu (Tryz.f99.body.getD .skip) = [dn Tryz.f99 4] := by kernel_rfl
noncomputable def ay : Abs.Spec := fun args K => match args with
 | [.agg [.v (.int .i64 c), .arr .u64 25 a, .v (.int .i64 g), .v (.bool e)], .sl (.ints .u8 i)] => P.z8 c a g e i (fun d b h f => K (.agg [.v (.int .i64 d), .arr .u64 25 b, .v (.int .i64 h), .v (.bool f)]))
 | _ => none
noncomputable def spec : Abs.Spec := fun args K => ay (om [.any, .sl (.ints .u8 [])] args) K
theorem ok0 : Proved Tryz.prog GLO.gx 99 ay := by
 refine bq (D := D) (fn := Tryz.f99) (c := Tryz.f99.body.getD .skip) [.any] (by kernel_rfl) (au (by kernel_rfl)) (by kernel_rfl) (by kernel_rfl) (by kernel_rfl) ⟨aak.ok, mo.ok, w9.ok, trivial⟩ trivial ?_ ?_
 · rw [loops]; exact ⟨aqr, trivial⟩
 · intro args K r h
   unfold ay at h
   split at h
   · rw [P.apq] at h; exact Eq.trans (by kernel_rfl) h
   · cases h
theorem ok : Proved Tryz.prog GLO.gx 99 spec := d9 _ ok0
end z8

namespace alz
noncomputable def D : Ctx := ({ P := Tryz.prog, G := [(114, aak.spec)], globs := GLO.gx, hints := [], loops := [], inl := [] } : Ctx)
theorem loops : cu (Tryz.f97.body.getD .skip) = [] := by kernel_rfl
noncomputable def ay : Abs.Spec := fun args K => match args with
 | [.v (.int .i64 e)] => P.alz e (fun b a d c f => K (.tuple [.agg [.v (.int .i64 b), .arr .u64 25 a, .v (.int .i64 d), .v (.bool c)], .v (.int .i64 f)]))
 | _ => none
noncomputable def spec : Abs.Spec := ay
theorem ok0 : Proved Tryz.prog GLO.gx 97 ay := by
 refine bq (D := D) (fn := Tryz.f97) (c := Tryz.f97.body.getD .skip) [.any, .any] (by kernel_rfl) (au (by kernel_rfl)) (by kernel_rfl) (by kernel_rfl) (by kernel_rfl) ⟨aak.ok, trivial⟩ trivial ?_ ?_
 · rw [loops]; exact trivial
 · intro args K r h
   unfold ay at h
   split at h
   · rw [P.awd] at h; exact Eq.trans (by kernel_rfl) h
   · cases h
theorem ok : Proved Tryz.prog GLO.gx 97 spec := ok0
end alz

namespace yh
abbrev X12 := P.bsc
def S12 : X12 → ASt := fun (j, k, i, a, b, c, d, e, f, g, h) => ⟨[(8, .own 40), (1, .v (.int .i64 j)), (2, .ptr 0 0), (4, .ptr 1 0), (6, .v (.int .i64 k))], [(40, some ⟨.row 5 (.ints .u8 i), false⟩), (0, some ⟨.box 109 [.v (.int .i64 a), .arr .u64 25 b, .v (.int .i64 c), .v (.bool d)], false⟩), (1, some ⟨.box 109 [.v (.int .i64 e), .arr .u64 25 f, .v (.int .i64 g), .v (.bool h)], false⟩)], 41, 73⟩
def V12 : ASt → Option X12
 | ⟨[(8, .own 40), (1, .v (.int .i64 j)), (2, .ptr 0 0), (4, .ptr 1 0), (6, .v (.int .i64 k))], [(40, some ⟨.row 5 (.ints .u8 i), false⟩), (0, some ⟨.box 109 [.v (.int .i64 a), .arr .u64 25 b, .v (.int .i64 c), .v (.bool d)], false⟩), (1, some ⟨.box 109 [.v (.int .i64 e), .arr .u64 25 f, .v (.int .i64 g), .v (.bool h)], false⟩)], 41, 73⟩ => some (j, k, i, a, b, c, d, e, f, g, h)
 | _ => none
theorem bbk (st) (x) (h : V12 st = some x) : st = S12 x := by
 unfold V12 at h
 split at h
 · cases h; rfl
 · cases h
abbrev Y12 := P.byz
def E12 (K : AExit → ASt → Option R) : Y12 → Option R := (fun x => K (.exit 0) (S12 x))
noncomputable def L12 : qc := fun st K => adi (V12 st) fun x => P.b1p x (E12 K)
noncomputable def D : Ctx := ({ P := Tryz.prog, G := [(114, aak.spec), (115, mo.spec), (116, w9.spec)], globs := GLO.gx, hints := [(12, ⟨[1, 2, 4, 6], [(8, 5, .ints .u8 [])], [4, 5], [], some (40, [0, 1]), [], []⟩)], loops := [(12, L12)], inl := [] } : Ctx)
theorem atm (K) (next) (x) : kr D (dn Tryz.f98 12) K next (S12 x) = P.bqv x (fun x => next (S12 x)) (E12 K) := by kernel_rfl
theorem bai : jr D (dn Tryz.f98 12) := fu S12 bbk (by kernel_rfl) P.b39 atm
theorem loops : cu (Tryz.f98.body.getD .skip) = [dn Tryz.f98 12] := by kernel_rfl
noncomputable def ay : Abs.Spec := fun args K => match args with
 | [.agg [.v (.int .i64 c), .arr .u64 25 a, .v (.int .i64 g), .v (.bool e)], .v (.int .i64 i)] => P.yh c a g e i (fun d b h f j => K (.tuple [.agg [.v (.int .i64 d), .arr .u64 25 b, .v (.int .i64 h), .v (.bool f)], .fr 5 (.ints .u8 j)]))
 | _ => none
noncomputable def spec : Abs.Spec := ay
theorem ok0 : Proved Tryz.prog GLO.gx 98 ay := by
 refine bq (D := D) (fn := Tryz.f98) (c := Tryz.f98.body.getD .skip) [.any, .fr 5 (.ints .u8 [])] (by kernel_rfl) (au (by kernel_rfl)) (by kernel_rfl) (by kernel_rfl) (by kernel_rfl) ⟨aak.ok, mo.ok, w9.ok, trivial⟩ trivial ?_ ?_
 · rw [loops]; exact ⟨bai, trivial⟩
 · intro args K r h
   unfold ay at h
   split at h
   · rw [P.aml] at h; exact Eq.trans (by kernel_rfl) h
   · cases h
theorem ok : Proved Tryz.prog GLO.gx 98 spec := ok0
end yh

namespace ag3
noncomputable def D : Ctx := ({ P := Tryz.prog, G := [(97, alz.spec), (98, yh.spec), (99, z8.spec)], globs := GLO.gx, hints := [], loops := [], inl := [] } : Ctx)
theorem loops : cu (Tryz.f69.body.getD .skip) = [] := by kernel_rfl
noncomputable def ay : Abs.Spec := fun args K => match args with
 | [.v (.int .i64 a), .sl (.ints .u8 b), .v (.int .i64 c)] => P.ag3 a b c (fun d e => K (.tuple [.fr 5 (.ints .u8 d), .v (.int .i64 e)]))
 | _ => none
noncomputable def spec : Abs.Spec := fun args K => ay (om [.any, .sl (.ints .u8 []), .any] args) K
theorem ok0 : Proved Tryz.prog GLO.gx 69 ay := by
 refine bq (D := D) (fn := Tryz.f69) (c := Tryz.f69.body.getD .skip) [.fr 5 (.ints .u8 []), .any] (by kernel_rfl) (au (by kernel_rfl)) (by kernel_rfl) (by kernel_rfl) (by kernel_rfl) ⟨alz.ok, yh.ok, z8.ok, trivial⟩ trivial ?_ ?_
 · rw [loops]; exact trivial
 · intro args K r h
   unfold ay at h
   split at h
   · rw [P.axo] at h; exact Eq.trans (by kernel_rfl) h
   · cases h
theorem ok : Proved Tryz.prog GLO.gx 69 spec := d9 _ ok0
end ag3

namespace za
noncomputable def D : Ctx := ({ P := Tryz.prog, G := [(44, l8.spec)], globs := GLO.gx, hints := [], loops := [], inl := [] } : Ctx)
theorem loops : cu (Tryz.f71.body.getD .skip) = [] := by kernel_rfl
noncomputable def ay : Abs.Spec := fun args K => match args with
 | [.arr .u8 32 a] => P.za a (fun b => K (.fr 5 (.ints .u8 b)))
 | _ => none
noncomputable def spec : Abs.Spec := ay
theorem ok0 : Proved Tryz.prog GLO.gx 71 ay := by
 refine bq (D := D) (fn := Tryz.f71) (c := Tryz.f71.body.getD .skip) [.fr 5 (.ints .u8 [])] (by kernel_rfl) (au (by kernel_rfl)) (by kernel_rfl) (by kernel_rfl) (by kernel_rfl) ⟨l8.ok, trivial⟩ trivial ?_ ?_
 · rw [loops]; exact trivial
 · intro args K r h
   unfold ay at h
   split at h
   · rw [P.ard] at h; exact Eq.trans (by kernel_rfl) h
   · cases h
theorem ok : Proved Tryz.prog GLO.gx 71 spec := ok0
end za

namespace zi
noncomputable def D : Ctx := ({ P := Tryz.prog, G := [(37, vk.spec), (44, l8.spec), (69, ag3.spec), (70, adz.spec), (71, za.spec)], globs := GLO.gx, hints := [], loops := [], inl := [] } : Ctx)
theorem loops : cu (Tryz.f41.body.getD .skip) = [] := by kernel_rfl
noncomputable def ay : Abs.Spec := fun args K => match args with
 | [.agg [.v (.int .i64 b), .v (.int .i64 c), .v (.int .i64 d), .v (.int .i64 e), .v (.int .i64 f), .v (.bool a)], .sl (.ints .u8 g), .arr .u8 32 h, .sl (.ints .u8 i)] => P.zi b c d e f a g h i (fun j => K (.sl (.ints .u8 j)))
 | _ => none
noncomputable def spec : Abs.Spec := fun args K => ay (om [.any, .sl (.ints .u8 []), .any, .sl (.ints .u8 [])] args) K
theorem ok0 : Proved Tryz.prog GLO.gx 41 ay := by
 refine bq (D := D) (fn := Tryz.f41) (c := Tryz.f41.body.getD .skip) [.sl (.ints .u8 [])] (by kernel_rfl) (au (by kernel_rfl)) (by kernel_rfl) (by kernel_rfl) (by kernel_rfl) ⟨vk.ok, l8.ok, ag3.ok, adz.ok, za.ok, trivial⟩ trivial ?_ ?_
 · rw [loops]; exact trivial
 · intro args K r h
   unfold ay at h
   split at h
   · rw [P.axj] at h; exact Eq.trans (by kernel_rfl) h
   · cases h
theorem ok : Proved Tryz.prog GLO.gx 41 spec := d9 _ ok0
end zi

namespace y8
abbrev X2 := P.bus
def S2 : X2 → ASt := fun (c, d, e, a, b) => ⟨[(1, .v (.int .i64 c)), (2, .sl (.ints .u8 d)), (3, .ptr 0 0), (6, .ptr 1 0), (7, .v (.int .i64 e))], [(0, some ⟨.box 25 [.arr .u8 32 a], false⟩), (1, some ⟨.box 25 [.arr .u8 32 b], false⟩)], 2, 23⟩
def V2 : ASt → Option X2
 | ⟨[(1, .v (.int .i64 c)), (2, .sl (.ints .u8 d)), (3, .ptr 0 0), (6, .ptr 1 0), (7, .v (.int .i64 e))], [(0, some ⟨.box 25 [.arr .u8 32 a], false⟩), (1, some ⟨.box 25 [.arr .u8 32 b], false⟩)], 2, 23⟩ => some (c, d, e, a, b)
 | _ => none
theorem bix (st) (x) (h : V2 st = some x) : st = S2 x := by
 unfold V2 at h
 split at h
 · cases h; rfl
 · cases h
abbrev Y2 := P.bz6
def E2 (K : AExit → ASt → Option R) : Y2 → Option R := (fun x => K (.exit 0) (S2 x))
noncomputable def L2 : qc := fun st K => adi (V2 st) fun x => P.bxq x (E2 K)
noncomputable def D : Ctx := ({ P := Tryz.prog, G := [], globs := GLO.gx, hints := [(2, ⟨[1, 2, 3, 6, 7], [], [6], [], none, [], []⟩)], loops := [(2, L2)], inl := [] } : Ctx)
theorem bbs (K) (next) (x) : kr D (dn Tryz.f103 2) K next (S2 x) = P.bs6 x (fun x => next (S2 x)) (E2 K) := by kernel_rfl
theorem bhj : jr D (dn Tryz.f103 2) := fu S2 bix (by kernel_rfl) P.b3c bbs
theorem loops : cu (Tryz.f103.body.getD .skip) = [dn Tryz.f103 2] := by kernel_rfl
noncomputable def ay : Abs.Spec := fun args K => match args with
 | [.arr .u8 32 a, .v (.int .i64 b), .sl (.ints .u8 c)] => P.y8 a b c (fun d => K (.arr .u8 32 d))
 | _ => none
noncomputable def spec : Abs.Spec := fun args K => ay (om [.any, .any, .sl (.ints .u8 [])] args) K
theorem ok0 : Proved Tryz.prog GLO.gx 103 ay := by
 refine bq (D := D) (fn := Tryz.f103) (c := Tryz.f103.body.getD .skip) [.any] (by kernel_rfl) (au (by kernel_rfl)) (by kernel_rfl) (by kernel_rfl) (by kernel_rfl) trivial trivial ?_ ?_
 · rw [loops]; exact ⟨bhj, trivial⟩
 · intro args K r h
   unfold ay at h
   split at h
   · rw [P.aw1] at h; exact Eq.trans (by kernel_rfl) h
   · cases h
theorem ok : Proved Tryz.prog GLO.gx 103 spec := d9 _ ok0
end y8

namespace uz
noncomputable def D : Ctx := ({ P := Tryz.prog, G := [(103, y8.spec), (104, yu.spec)], globs := GLO.gx, hints := [], loops := [], inl := [] } : Ctx)
theorem loops : cu (Tryz.f72.body.getD .skip) = [] := by kernel_rfl
noncomputable def ay : Abs.Spec := fun args K => match args with
 | [.arr .u8 32 a, .v (.int .i64 b), .v (.int .u64 c)] => P.uz a b c (fun d => K (.arr .u8 32 d))
 | _ => none
noncomputable def spec : Abs.Spec := ay
theorem ok0 : Proved Tryz.prog GLO.gx 72 ay := by
 refine bq (D := D) (fn := Tryz.f72) (c := Tryz.f72.body.getD .skip) [.any] (by kernel_rfl) (au (by kernel_rfl)) (by kernel_rfl) (by kernel_rfl) (by kernel_rfl) ⟨y8.ok, yu.ok, trivial⟩ trivial ?_ ?_
 · rw [loops]; exact trivial
 · intro args K r h
   unfold ay at h
   split at h
   · rw [P.awc] at h; exact Eq.trans (by kernel_rfl) h
   · cases h
theorem ok : Proved Tryz.prog GLO.gx 72 spec := ok0
end uz

namespace aap
noncomputable def D : Ctx := ({ P := Tryz.prog, G := [(105, acs.spec)], globs := GLO.gx, hints := [], loops := [], inl := [] } : Ctx)
theorem loops : cu (Tryz.f73.body.getD .skip) = [] := by kernel_rfl
noncomputable def ay : Abs.Spec := fun args K => match args with
 | [.arr .u8 32 a] => P.aap a (fun b => K (.v (.int .u64 b)))
 | _ => none
noncomputable def spec : Abs.Spec := ay
theorem ok0 : Proved Tryz.prog GLO.gx 73 ay := by
 refine bq (D := D) (fn := Tryz.f73) (c := Tryz.f73.body.getD .skip) [.any] (by kernel_rfl) (au (by kernel_rfl)) (by kernel_rfl) (by kernel_rfl) (by kernel_rfl) ⟨acs.ok, trivial⟩ trivial ?_ ?_
 · rw [loops]; exact trivial
 · intro args K r h
   unfold ay at h
   split at h
   · rw [P.asy] at h; exact Eq.trans (by kernel_rfl) h
   · cases h
theorem ok : Proved Tryz.prog GLO.gx 73 spec := ok0
end aap

namespace abj
noncomputable def D : Ctx := ({ P := Tryz.prog, G := [(72, uz.spec), (73, aap.spec)], globs := GLO.gx, hints := [], loops := [], inl := [] } : Ctx)
theorem loops : cu (Tryz.f42.body.getD .skip) = [] := by kernel_rfl
noncomputable def ay : Abs.Spec := fun args K => match args with
 | [.arr .u8 32 a, .v (.int .u64 b), .v (.int .i64 c), .v (.int .u64 d)] => P.abj a b c d (fun e => K (.arr .u8 32 e))
 | _ => none
noncomputable def spec : Abs.Spec := ay
theorem ok0 : Proved Tryz.prog GLO.gx 42 ay := by
 refine bq (D := D) (fn := Tryz.f42) (c := Tryz.f42.body.getD .skip) [.any] (by kernel_rfl) (au (by kernel_rfl)) (by kernel_rfl) (by kernel_rfl) (by kernel_rfl) ⟨uz.ok, aap.ok, trivial⟩ trivial ?_ ?_
 · rw [loops]; exact trivial
 · intro args K r h
   unfold ay at h
   split at h
   · rw [P.bbe] at h; exact Eq.trans (by kernel_rfl) h
   · cases h
theorem ok : Proved Tryz.prog GLO.gx 42 spec := ok0
end abj

namespace ahw
noncomputable def D : Ctx := ({ P := Tryz.prog, G := [(41, zi.spec)], globs := GLO.gx, hints := [], loops := [], inl := [] } : Ctx)
theorem loops : cu (Tryz.f74.body.getD .skip) = [] := by kernel_rfl
noncomputable def ay : Abs.Spec := fun args K => match args with
 | [.agg [.v (.int .i64 b), .v (.int .i64 c), .v (.int .i64 d), .v (.int .i64 e), .v (.int .i64 f), .v (.bool a)], .sl (.ints .u8 g), .sl (.ints .u8 h), .arr .u8 32 i] => P.ahw b c d e f a g h i (fun j => K (.sl (.ints .u8 j)))
 | _ => none
noncomputable def spec : Abs.Spec := fun args K => ay (om [.any, .sl (.ints .u8 []), .sl (.ints .u8 []), .any] args) K
theorem ok0 : Proved Tryz.prog GLO.gx 74 ay := by
 refine bq (D := D) (fn := Tryz.f74) (c := Tryz.f74.body.getD .skip) [.sl (.ints .u8 [])] (by kernel_rfl) (au (by kernel_rfl)) (by kernel_rfl) (by kernel_rfl) (by kernel_rfl) ⟨zi.ok, trivial⟩ trivial ?_ ?_
 · rw [loops]; exact trivial
 · intro args K r h
   unfold ay at h
   split at h
   · rw [P.att] at h; exact Eq.trans (by kernel_rfl) h
   · cases h
theorem ok : Proved Tryz.prog GLO.gx 74 spec := d9 _ ok0
end ahw

namespace adk
noncomputable def D : Ctx := ({ P := Tryz.prog, G := [(42, abj.spec), (74, ahw.spec)], globs := GLO.gx, hints := [], loops := [], inl := [] } : Ctx)
theorem loops : cu (Tryz.f43.body.getD .skip) = [] := by kernel_rfl
noncomputable def ay : Abs.Spec := fun args K => match args with
 | [.agg [.v (.int .i64 b), .v (.int .i64 c), .v (.int .i64 d), .v (.int .i64 e), .v (.int .i64 f), .v (.bool a)], .sl (.ints .u8 g), .sl (.ints .u8 h), .arr .u8 32 i, .v (.int .u64 j)] => P.adk b c d e f a g h i j (fun k => K (.sl (.ints .u8 k)))
 | _ => none
noncomputable def spec : Abs.Spec := fun args K => ay (om [.any, .sl (.ints .u8 []), .sl (.ints .u8 []), .any, .any] args) K
theorem ok0 : Proved Tryz.prog GLO.gx 43 ay := by
 refine bq (D := D) (fn := Tryz.f43) (c := Tryz.f43.body.getD .skip) [.sl (.ints .u8 [])] (by kernel_rfl) (au (by kernel_rfl)) (by kernel_rfl) (by kernel_rfl) (by kernel_rfl) ⟨abj.ok, ahw.ok, trivial⟩ trivial ?_ ?_
 · rw [loops]; exact trivial
 · intro args K r h
   unfold ay at h
   split at h
   · rw [P.atl] at h; exact Eq.trans (by kernel_rfl) h
   · cases h
theorem ok : Proved Tryz.prog GLO.gx 43 spec := d9 _ ok0
end adk

namespace pz
noncomputable def D : Ctx := ({ P := Tryz.prog, G := [(37, vk.spec)], globs := GLO.gx, hints := [], loops := [], inl := [] } : Ctx)
theorem loops : cu (Tryz.f40.body.getD .skip) = [] := by kernel_rfl
noncomputable def ay : Abs.Spec := fun args K => match args with
 | [.agg [.v (.int .i64 b), .v (.int .i64 c), .v (.int .i64 d), .v (.int .i64 e), .v (.int .i64 f), .v (.bool a)], .sl (.ints .u8 g), .sl (.ints .u8 h)] => P.pz b c d e f a g h (fun i => K (.v (.bool i)))
 | _ => none
noncomputable def spec : Abs.Spec := fun args K => ay (om [.any, .sl (.ints .u8 []), .sl (.ints .u8 [])] args) K
theorem ok0 : Proved Tryz.prog GLO.gx 40 ay := by
 refine bq (D := D) (fn := Tryz.f40) (c := Tryz.f40.body.getD .skip) [.any] (by kernel_rfl) (au (by kernel_rfl)) (by kernel_rfl) (by kernel_rfl) (by kernel_rfl) ⟨vk.ok, trivial⟩ trivial ?_ ?_
 · rw [loops]; exact trivial
 · intro args K r h
   unfold ay at h
   split at h
   · rw [P.arx] at h; exact Eq.trans (by kernel_rfl) h
   · cases h
theorem ok : Proved Tryz.prog GLO.gx 40 spec := d9 _ ok0
end pz

namespace uo
noncomputable def bdc (n : Nat) : Abs.Spec := fun args K => match args with
 | [.agg [.v (.int .i64 b), .v (.int .i64 c), .v (.int .i64 d), .v (.int .i64 e), .v (.int .i64 f), .v (.bool a)], .sl (.ints .u8 g), .sl (.ints .u8 h), .arr .u8 32 i, .v (.int .i64 j), .v (.int .u64 k)] => P.uo n b c d e f a g h i j k (fun l => K (.sl (.ints .u8 l)))
 | _ => none
noncomputable def bwe (n : Nat) : Abs.Spec := fun args K => bdc n (om [.any, .sl (.ints .u8 []), .sl (.ints .u8 []), .any, .any, .any] args) K
noncomputable def D (n : Nat) : Ctx := ({ P := Tryz.prog, G := [(40, pz.spec), (41, zi.spec), (42, abj.spec), (43, adk.spec), (44, l8.spec), (14, bwe n)], globs := GLO.gx, hints := [], loops := [], inl := [] } : Ctx)
theorem body (n : Nat) (b : Int) (c : Int) (d : Int) (e : Int) (f : Int) (a : Bool) (g : List Int) (h : List Int) (i : List Int) (j : Int) (k : Int) (K : AVal → Option R) : bj7 (D n) Tryz.f14 [.sl (.ints .u8 [])] [.agg [.v (.int .i64 b), .v (.int .i64 c), .v (.int .i64 d), .v (.int .i64 e), .v (.int .i64 f), .v (.bool a)], .sl (.ints .u8 g), .sl (.ints .u8 h), .arr .u8 32 i, .v (.int .i64 j), .v (.int .u64 k)] K = P.uo (n + 1) b c d e f a g h i j k (fun l => K (.sl (.ints .u8 l))) := by
 rw [P.ac9]
 kernel_rfl
theorem loops : cu (Tryz.f14.body.getD .skip) = [] := by kernel_rfl
noncomputable def ay : Abs.Spec := fun args K => match args with
 | [.agg [.v (.int .i64 b), .v (.int .i64 c), .v (.int .i64 d), .v (.int .i64 e), .v (.int .i64 f), .v (.bool a)], .sl (.ints .u8 h), .sl (.ints .u8 i), .arr .u8 32 j, .v (.int .i64 g), .v (.int .u64 k)] => P.uo ((g.toNat+1)) b c d e f a h i j g k (fun l => K (.sl (.ints .u8 l)))
 | _ => none
noncomputable def spec : Abs.Spec := fun args K => ay (om [.any, .sl (.ints .u8 []), .sl (.ints .u8 []), .any, .any, .any] args) K
theorem step (n : Nat) (ih : Proved Tryz.prog GLO.gx 14 (bdc n)) : Proved Tryz.prog GLO.gx 14 (bdc (n + 1)) := by
 refine bq (D := D n) (fn := Tryz.f14) (c := Tryz.f14.body.getD .skip) [.sl (.ints .u8 [])] (by kernel_rfl) (au (by kernel_rfl)) (by kernel_rfl) (by kernel_rfl) (by kernel_rfl) ⟨pz.ok, zi.ok, abj.ok, adk.ok, l8.ok, d9 _ ih, trivial⟩ trivial ?_ ?_
 · rw [loops]; exact trivial
 · intro args K r h
   unfold bdc at h
   split at h
   · rw [body]; exact h
   · cases h
theorem okN : ∀ n, Proved Tryz.prog GLO.gx 14 (bdc n)
 | 0 => ⟨⟨Tryz.f14, by kernel_rfl, by kernel_rfl, by kernel_rfl⟩, fun args K r h => by unfold bdc at h; split at h <;> cases h⟩
 | n + 1 => step n (okN n)
theorem ok0 : Proved Tryz.prog GLO.gx 14 ay := ⟨(okN 0).enters, fun args K r h => by
 unfold ay at h
 split at h
 · exact (okN _).sound _ K r (by unfold bdc; exact h)
 · cases h⟩
theorem ok : Proved Tryz.prog GLO.gx 14 spec := d9 _ ok0
end uo

namespace ahk
noncomputable def D : Ctx := ({ P := Tryz.prog, G := [(41, zi.spec), (44, l8.spec), (72, uz.spec), (73, aap.spec)], globs := GLO.gx, hints := [], loops := [], inl := [] } : Ctx)
theorem loops : cu (Tryz.f46.body.getD .skip) = [] := by kernel_rfl
noncomputable def ay : Abs.Spec := fun args K => match args with
 | [.agg [.v (.int .i64 b), .v (.int .i64 c), .v (.int .i64 d), .v (.int .i64 e), .v (.int .i64 f), .v (.bool a)], .sl (.rows .u8 g), .sl (.ints .u8 h), .arr .u8 32 i] => P.ahk b c d e f a g h i (fun j => K (.sl (.ints .u8 j)))
 | _ => none
noncomputable def spec : Abs.Spec := fun args K => ay (om [.any, .sl (.rows .u8 []), .sl (.ints .u8 []), .any] args) K
theorem ok0 : Proved Tryz.prog GLO.gx 46 ay := by
 refine bq (D := D) (fn := Tryz.f46) (c := Tryz.f46.body.getD .skip) [.sl (.ints .u8 [])] (by kernel_rfl) (au (by kernel_rfl)) (by kernel_rfl) (by kernel_rfl) (by kernel_rfl) ⟨zi.ok, l8.ok, uz.ok, aap.ok, trivial⟩ trivial ?_ ?_
 · rw [loops]; exact trivial
 · intro args K r h
   unfold ay at h
   split at h
   · rw [P.aww] at h; exact Eq.trans (by kernel_rfl) h
   · cases h
theorem ok : Proved Tryz.prog GLO.gx 46 spec := d9 _ ok0
end ahk

namespace y9
abbrev X5 := P.bre
def S5 : X5 → ASt := fun (i, j, h, k, a, b, c, d, e, f, g) => ⟨[(9, .own 2), (1, .sl (.ints .u8 i)), (2, .sl (.ints .u8 j)), (4, .ptr 0 0), (7, .ptr 1 0), (10, .v (.int .i64 h))], [(2, some ⟨.row 26 (.rows .u8 k), false⟩), (0, some ⟨.box 23 [.v (.int .i64 a), .v (.int .i64 b), .v (.int .i64 c), .v (.int .i64 d), .v (.int .i64 e), .v (.bool f)], false⟩), (1, some ⟨.box 25 [.arr .u8 32 g], false⟩)], 3, 38⟩
def V5 : ASt → Option X5
 | ⟨[(9, .own 2), (1, .sl (.ints .u8 i)), (2, .sl (.ints .u8 j)), (4, .ptr 0 0), (7, .ptr 1 0), (10, .v (.int .i64 h))], [(2, some ⟨.row 26 (.rows .u8 k), false⟩), (0, some ⟨.box 23 [.v (.int .i64 a), .v (.int .i64 b), .v (.int .i64 c), .v (.int .i64 d), .v (.int .i64 e), .v (.bool f)], false⟩), (1, some ⟨.box 25 [.arr .u8 32 g], false⟩)], 3, 38⟩ => some (i, j, h, k, a, b, c, d, e, f, g)
 | _ => none
theorem bds (st) (x) (h : V5 st = some x) : st = S5 x := by
 unfold V5 at h
 split at h
 · cases h; rfl
 · cases h
abbrev Y5 := P.byy
def E5 (K : AExit → ASt → Option R) : Y5 → Option R := (fun x => K (.exit 0) (S5 x))
noncomputable def L5 : qc := fun st K => adi (V5 st) fun x => P.b0d x (E5 K)
noncomputable def D : Ctx := ({ P := Tryz.prog, G := [(14, uo.spec), (40, pz.spec), (46, ahk.spec)], globs := GLO.gx, hints := [(5, ⟨[1, 2, 4, 7, 10], [(9, 26, .rows .u8 [])], [8], [], none, [], []⟩)], loops := [(5, L5)], inl := [] } : Ctx)
theorem as8 (K) (next) (x) : kr D (dn Tryz.f16 5) K next (S5 x) = P.br1 x (fun x => next (S5 x)) (E5 K) := by kernel_rfl
theorem bcq : jr D (dn Tryz.f16 5) := fu S5 bds (by kernel_rfl) P.b3n as8
theorem loops : cu (Tryz.f16.body.getD .skip) = [dn Tryz.f16 5] := by kernel_rfl
noncomputable def ay : Abs.Spec := fun args K => match args with
 | [.agg [.v (.int .i64 b), .v (.int .i64 c), .v (.int .i64 d), .v (.int .i64 e), .v (.int .i64 f), .v (.bool a)], .sl (.ints .u8 g), .sl (.ints .u8 h), .arr .u8 32 i] => P.y9 b c d e f a g h i (fun j => K (.sl (.ints .u8 j)))
 | _ => none
noncomputable def spec : Abs.Spec := fun args K => ay (om [.any, .sl (.ints .u8 []), .sl (.ints .u8 []), .any] args) K
theorem ok0 : Proved Tryz.prog GLO.gx 16 ay := by
 refine bq (D := D) (fn := Tryz.f16) (c := Tryz.f16.body.getD .skip) [.sl (.ints .u8 [])] (by kernel_rfl) (au (by kernel_rfl)) (by kernel_rfl) (by kernel_rfl) (by kernel_rfl) ⟨uo.ok, pz.ok, ahk.ok, trivial⟩ trivial ?_ ?_
 · rw [loops]; exact ⟨bcq, trivial⟩
 · intro args K r h
   unfold ay at h
   split at h
   · rw [P.ajr] at h; exact Eq.trans (by kernel_rfl) h
   · cases h
theorem ok : Proved Tryz.prog GLO.gx 16 spec := d9 _ ok0
end y9

namespace acv
noncomputable def D : Ctx := ({ P := Tryz.prog, G := [(37, vk.spec)], globs := GLO.gx, hints := [], loops := [], inl := [] } : Ctx)
theorem loops : cu (Tryz.f10.body.getD .skip) = [] := by kernel_rfl
noncomputable def ay : Abs.Spec := fun args K => match args with
 | [.agg [.v (.int .i64 b), .v (.int .i64 c), .v (.int .i64 d), .v (.int .i64 e), .v (.int .i64 f), .v (.bool a)]] => P.acv b c d e f a (fun g h => K (.tuple [.v (.int .i64 g), .v (.int .i64 h)]))
 | _ => none
noncomputable def spec : Abs.Spec := ay
theorem ok0 : Proved Tryz.prog GLO.gx 10 ay := by
 refine bq (D := D) (fn := Tryz.f10) (c := Tryz.f10.body.getD .skip) [.any, .any] (by kernel_rfl) (au (by kernel_rfl)) (by kernel_rfl) (by kernel_rfl) (by kernel_rfl) ⟨vk.ok, trivial⟩ trivial ?_ ?_
 · rw [loops]; exact trivial
 · intro args K r h
   unfold ay at h
   split at h
   · rw [P.anq] at h; exact Eq.trans (by kernel_rfl) h
   · cases h
theorem ok : Proved Tryz.prog GLO.gx 10 spec := ok0
end acv

end
