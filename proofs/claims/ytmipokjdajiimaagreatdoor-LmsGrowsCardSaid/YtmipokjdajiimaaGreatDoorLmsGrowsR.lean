/-
  LmsGrows, part 18: an interpreter of my own over abstract values, the pure functions, the walks and the plain law.
-/

import Derived.Test.YtmipokjdajiimaaGreatDoorLmsGrowsK
import Derived.Test.YtmipokjdajiimaaGreatDoorLmsGrowsH
import Derived.Test.YtmipokjdajiimaaGreatDoorProg
import Derived.Test.YtmipokjdajiimaaGreatDoorLmsGrowsJ
import Derived.Test.YtmipokjdajiimaaGreatDoorLmsGrowsP
import Derived.Test.YtmipokjdajiimaaGreatDoorLmsGrowsQ
import Derived.KernelRfl
import Derived.Test.YtmipokjdajiimaaGreatDoorLmsGrowsL
import Derived.Test.YtmipokjdajiimaaGreatDoorLmsGrowsO
import Derived.Test.YtmipokjdajiimaaGreatDoorLmsGrowsM

section
open Go Go.Abs Go.Proofs
set_option maxRecDepth 100000
set_option maxHeartbeats 0
set_option linter.unusedVariables false

namespace abo
abbrev X7 := P.brs
def S7 : X7 → ASt := fun (c, d, e, f, a, b, g) => ⟨[(14, .own 0), (0, .v (.int .i64 c)), (1, .sl (.ints .u8 d)), (2, .v (.int .u32 e)), (3, .sl (.ints .u8 f)), (11, .v (.int .i64 a)), (15, .v (.int .i64 b))], [(0, some ⟨.row 23 (.rows .u8 g), false⟩)], 1, 53⟩
def V7 : ASt → Option X7
 | ⟨[(14, .own 0), (0, .v (.int .i64 c)), (1, .sl (.ints .u8 d)), (2, .v (.int .u32 e)), (3, .sl (.ints .u8 f)), (11, .v (.int .i64 a)), (15, .v (.int .i64 b))], [(0, some ⟨.row 23 (.rows .u8 g), false⟩)], 1, 53⟩ => some (c, d, e, f, a, b, g)
 | _ => none
theorem bm9 (st) (x) (h : V7 st = some x) : st = S7 x := by
 unfold V7 at h
 split at h
 · cases h; rfl
 · cases h
abbrev Y7 := P.bwf
def E7 (K : AExit → ASt → Option R) : Y7 → Option R := (fun x => K (.exit 0) (S7 x))
noncomputable def L7 : ru := fun st K => ae3 (V7 st) fun x => P.bwu x (E7 K)
noncomputable def D : Ctx := ({ P := Tryz.prog, G := [(70, og.spec), (79, aaf.spec), (80, abv.spec), (83, aai.spec), (94, aia.spec)], globs := GLO.gB, hints := [(7, ⟨[0, 1, 2, 3, 11, 15], [(14, 23, .rows .u8 [])], [8, 9], [], none, [], [], []⟩)], loops := [(7, L7)], inl := [] } : Ctx)
theorem bii (K) (next) (x) : l8 D (dx Tryz.f71 7) K next (S7 x) = P.bq1 x (fun x => next (S7 x)) (E7 K) := by kernel_rfl
theorem bnn : j5 D (dx Tryz.f71 7) := fq S7 bm9 (by kernel_rfl) P.b0b bii
theorem loops : bg (Tryz.f71.body.getD .skip) = [dx Tryz.f71 7] := by kernel_rfl
noncomputable def aj : Abs.Spec := fun args K => match args with
 | [.v (.int .i64 a), .sl (.ints .u8 b), .v (.int .u32 c), .sl (.ints .u8 d)] => P.abo a b c d (fun e f => K (.tuple [.fr 5 (.ints .u8 e), .v (.int .i64 f)]))
 | _ => none
noncomputable def spec : Abs.Spec := fun args K => aj (l7 [.any, .sl (.ints .u8 []), .any, .sl (.ints .u8 [])] args) K
theorem ok0 : Proved Tryz.prog GLO.gB 71 aj := by
 refine bf (D := D) (fn := Tryz.f71) (c := Tryz.f71.body.getD .skip) [.fr 5 (.ints .u8 []), .any] (by kernel_rfl) (ah (by kernel_rfl)) (by kernel_rfl) (by kernel_rfl) (by kernel_rfl) ⟨og.ok, aaf.ok, abv.ok, aai.ok, aia.ok, trivial⟩ trivial ?_ ?_
 · rw [loops]; exact ⟨bnn, trivial⟩
 · intro args K r h
   unfold aj at h
   split at h
   · rw [P.aok] at h; exact Eq.trans (by kernel_rfl) h
   · cases h
theorem ok : Proved Tryz.prog GLO.gB 71 spec := bq _ ok0
end abo

namespace wu
noncomputable def D : Ctx := ({ P := Tryz.prog, G := [(32, jd.spec), (62, aew.spec)], globs := GLO.gB, hints := [], loops := [], inl := [] } : Ctx)
theorem loops : bg (Tryz.f72.body.getD .skip) = [] := by kernel_rfl
noncomputable def aj : Abs.Spec := fun args K => match args with
 | [.sl (.ints .u8 a), .v (.int .u64 b), .sl (.ints .u8 c)] => P.wu a b c (fun d => K (.fr 5 (.ints .u8 d)))
 | _ => none
noncomputable def spec : Abs.Spec := fun args K => aj (l7 [.sl (.ints .u8 []), .any, .sl (.ints .u8 [])] args) K
theorem ok0 : Proved Tryz.prog GLO.gB 72 aj := by
 refine bf (D := D) (fn := Tryz.f72) (c := Tryz.f72.body.getD .skip) [.fr 5 (.ints .u8 [])] (by kernel_rfl) (ah (by kernel_rfl)) (by kernel_rfl) (by kernel_rfl) (by kernel_rfl) ⟨jd.ok, aew.ok, trivial⟩ trivial ?_ ?_
 · rw [loops]; exact trivial
 · intro args K r h
   unfold aj at h
   split at h
   · rw [P.alb] at h; exact Eq.trans (by kernel_rfl) h
   · cases h
theorem ok : Proved Tryz.prog GLO.gB 72 spec := bq _ ok0
end wu

namespace acv
noncomputable def D : Ctx := ({ P := Tryz.prog, G := [(32, jd.spec), (62, aew.spec)], globs := GLO.gB, hints := [], loops := [], inl := [] } : Ctx)
theorem loops : bg (Tryz.f73.body.getD .skip) = [] := by kernel_rfl
noncomputable def aj : Abs.Spec := fun args K => match args with
 | [.sl (.ints .u8 a), .v (.int .u64 b), .sl (.ints .u8 c), .sl (.ints .u8 d)] => P.acv a b c d (fun e => K (.fr 5 (.ints .u8 e)))
 | _ => none
noncomputable def spec : Abs.Spec := fun args K => aj (l7 [.sl (.ints .u8 []), .any, .sl (.ints .u8 []), .sl (.ints .u8 [])] args) K
theorem ok0 : Proved Tryz.prog GLO.gB 73 aj := by
 refine bf (D := D) (fn := Tryz.f73) (c := Tryz.f73.body.getD .skip) [.fr 5 (.ints .u8 [])] (by kernel_rfl) (ah (by kernel_rfl)) (by kernel_rfl) (by kernel_rfl) (by kernel_rfl) ⟨jd.ok, aew.ok, trivial⟩ trivial ?_ ?_
 · rw [loops]; exact trivial
 · intro args K r h
   unfold aj at h
   split at h
   · rw [P.ase] at h; exact Eq.trans (by kernel_rfl) h
   · cases h
theorem ok : Proved Tryz.prog GLO.gB 73 spec := bq _ ok0
end acv

namespace aae
abbrev X4 := P.bq0
def S4 : X4 → ASt := fun (c, d, e, f, a, b, g) => ⟨[(1, .sl (.ints .u8 c)), (2, .sl (.ints .u8 d)), (3, .ptr 0 0), (7, .v (.int .i64 e)), (8, .own 1), (9, .v (.int .i64 f))], [(0, some ⟨.box 40 [.v (.int .i64 a), .v (.int .i64 b)], false⟩), (1, some ⟨.row 23 (.rows .u8 g), false⟩)], 2, 67⟩
def V4 : ASt → Option X4
 | ⟨[(1, .sl (.ints .u8 c)), (2, .sl (.ints .u8 d)), (3, .ptr 0 0), (7, .v (.int .i64 e)), (8, .own 1), (9, .v (.int .i64 f))], [(0, some ⟨.box 40 [.v (.int .i64 a), .v (.int .i64 b)], false⟩), (1, some ⟨.row 23 (.rows .u8 g), false⟩)], 2, 67⟩ => some (c, d, e, f, a, b, g)
 | _ => none
theorem ate (st) (x) (h : V4 st = some x) : st = S4 x := by
 unfold V4 at h
 split at h
 · cases h; rfl
 · cases h
abbrev Y4 := P.bx4
def E4 (K : AExit → ASt → Option R) : Y4 → Option R := (fun x => K (.exit 0) (S4 x))
noncomputable def L4 : ru := fun st K => ae3 (V4 st) fun x => P.bx9 x (E4 K)
noncomputable def D : Ctx := ({ P := Tryz.prog, G := [(71, abo.spec), (72, wu.spec), (73, acv.spec)], globs := GLO.gB, hints := [(4, ⟨[1, 2, 3, 7, 8, 9], [], [6], [], none, [], [], []⟩)], loops := [(4, L4)], inl := [] } : Ctx)
theorem akm (K) (next) (x) : l8 D (dx Tryz.f44 4) K next (S4 x) = P.bru x (fun x => next (S4 x)) (E4 K) := by kernel_rfl
theorem auq : j5 D (dx Tryz.f44 4) := fq S4 ate (by kernel_rfl) P.bz0 akm
theorem loops : bg (Tryz.f44.body.getD .skip) = [dx Tryz.f44 4] := by kernel_rfl
noncomputable def aj : Abs.Spec := fun args K => match args with
 | [.agg [.v (.int .i64 a), .v (.int .i64 b)], .sl (.ints .u8 c), .sl (.ints .u8 d)] => P.aae a b c d (fun e => K (.fr 23 (.rows .u8 e)))
 | _ => none
noncomputable def spec : Abs.Spec := fun args K => aj (l7 [.any, .sl (.ints .u8 []), .sl (.ints .u8 [])] args) K
theorem ok0 : Proved Tryz.prog GLO.gB 44 aj := by
 refine bf (D := D) (fn := Tryz.f44) (c := Tryz.f44.body.getD .skip) [.fr 23 (.rows .u8 [])] (by kernel_rfl) (ah (by kernel_rfl)) (by kernel_rfl) (by kernel_rfl) (by kernel_rfl) ⟨abo.ok, wu.ok, acv.ok, trivial⟩ trivial ?_ ?_
 · rw [loops]; exact ⟨auq, trivial⟩
 · intro args K r h
   unfold aj at h
   split at h
   · rw [P.aqm] at h; exact Eq.trans (by kernel_rfl) h
   · cases h
theorem ok : Proved Tryz.prog GLO.gB 44 spec := bq _ ok0
end aae

namespace uj
noncomputable def D : Ctx := ({ P := Tryz.prog, G := [(21, yx.spec)], globs := GLO.gB, hints := [], loops := [], inl := [] } : Ctx)
theorem loops : bg (Tryz.f42.body.getD .skip) = [] := by kernel_rfl
noncomputable def aj : Abs.Spec := fun args K => match args with
 | [.agg [.v (.int .i64 a), .v (.int .i64 b)], .sl (.ints .u8 c), .sl (.ints .u8 d)] => P.uj a b c d (fun e => K (.v (.int .i64 e)))
 | _ => none
noncomputable def spec : Abs.Spec := fun args K => aj (l7 [.any, .sl (.ints .u8 []), .sl (.ints .u8 [])] args) K
theorem ok0 : Proved Tryz.prog GLO.gB 42 aj := by
 refine bf (D := D) (fn := Tryz.f42) (c := Tryz.f42.body.getD .skip) [.any] (by kernel_rfl) (ah (by kernel_rfl)) (by kernel_rfl) (by kernel_rfl) (by kernel_rfl) ⟨yx.ok, trivial⟩ trivial ?_ ?_
 · rw [loops]; exact trivial
 · intro args K r h
   unfold aj at h
   split at h
   · rw [P.ap5] at h; exact Eq.trans (by kernel_rfl) h
   · cases h
theorem ok : Proved Tryz.prog GLO.gB 42 spec := bq _ ok0
end uj

namespace aam
noncomputable def D : Ctx := ({ P := Tryz.prog, G := [(37, kg.spec), (42, uj.spec), (43, aff.spec), (44, aae.spec)], globs := GLO.gB, hints := [], loops := [], inl := [] } : Ctx)
theorem loops : bg (Tryz.f17.body.getD .skip) = [] := by kernel_rfl
noncomputable def aj : Abs.Spec := fun args K => match args with
 | [.agg [.v (.int .i64 a), .v (.int .i64 b)], .sl (.ints .u8 c), .sl (.ints .u8 d)] => P.aam a b c d (fun e f => K (.tuple [.fr 5 (.ints .u8 e), .v (.int .i64 f)]))
 | _ => none
noncomputable def spec : Abs.Spec := fun args K => aj (l7 [.any, .sl (.ints .u8 []), .sl (.ints .u8 [])] args) K
theorem ok0 : Proved Tryz.prog GLO.gB 17 aj := by
 refine bf (D := D) (fn := Tryz.f17) (c := Tryz.f17.body.getD .skip) [.fr 5 (.ints .u8 []), .any] (by kernel_rfl) (ah (by kernel_rfl)) (by kernel_rfl) (by kernel_rfl) (by kernel_rfl) ⟨kg.ok, uj.ok, aff.ok, aae.ok, trivial⟩ trivial ?_ ?_
 · rw [loops]; exact trivial
 · intro args K r h
   unfold aj at h
   split at h
   · rw [P.ah9] at h; exact Eq.trans (by kernel_rfl) h
   · cases h
theorem ok : Proved Tryz.prog GLO.gB 17 spec := bq _ ok0
end aam

namespace acs
noncomputable def D : Ctx := ({ P := Tryz.prog, G := [], globs := GLO.gB, hints := [], loops := [], inl := [] } : Ctx)
theorem loops : bg (Tryz.f109.body.getD .skip) = [] := by kernel_rfl
noncomputable def aj : Abs.Spec := fun args K => match args with
 | [.sl (.ints .u8 a), .v (.int .i64 b), .v (.int .i64 c)] => P.acs a b c (fun d => K (.v (.bool d)))
 | _ => none
noncomputable def spec : Abs.Spec := fun args K => aj (l7 [.sl (.ints .u8 []), .any, .any] args) K
theorem ok0 : Proved Tryz.prog GLO.gB 109 aj := by
 refine bf (D := D) (fn := Tryz.f109) (c := Tryz.f109.body.getD .skip) [.any] (by kernel_rfl) (ah (by kernel_rfl)) (by kernel_rfl) (by kernel_rfl) (by kernel_rfl) trivial trivial ?_ ?_
 · rw [loops]; exact trivial
 · intro args K r h
   unfold aj at h
   split at h
   · rw [P.asv] at h; exact Eq.trans (by kernel_rfl) h
   · cases h
theorem ok : Proved Tryz.prog GLO.gB 109 spec := bq _ ok0
end acs

namespace u6
abbrev X9 := P.brt
def S9 : X9 → ASt := fun (b, c, d, e, f, a, g) => ⟨[(0, .sl (.ints .u8 b)), (1, .v (.int .i64 c)), (2, .v (.int .i64 d)), (7, .own 0), (8, .v (.int .i64 e)), (9, .v (.int .u32 f)), (10, .v (.int .i64 a))], [(0, some ⟨.row 41 (.ints .u32 g), false⟩)], 1, 51⟩
def V9 : ASt → Option X9
 | ⟨[(0, .sl (.ints .u8 b)), (1, .v (.int .i64 c)), (2, .v (.int .i64 d)), (7, .own 0), (8, .v (.int .i64 e)), (9, .v (.int .u32 f)), (10, .v (.int .i64 a))], [(0, some ⟨.row 41 (.ints .u32 g), false⟩)], 1, 51⟩ => some (b, c, d, e, f, a, g)
 | _ => none
theorem axz (st) (x) (h : V9 st = some x) : st = S9 x := by
 unfold V9 at h
 split at h
 · cases h; rfl
 · cases h
abbrev Y9 := P.bu2
abbrev X5 := P.bqj
def S5 : X5 → ASt := fun (a, b, c, d, e) => ⟨[(7, .own 0), (0, .sl (.ints .u8 a)), (1, .v (.int .i64 b)), (2, .v (.int .i64 c)), (8, .v (.int .i64 d))], [(0, some ⟨.row 41 (.ints .u32 e), false⟩)], 1, 51⟩
def V5 : ASt → Option X5
 | ⟨[(7, .own 0), (0, .sl (.ints .u8 a)), (1, .v (.int .i64 b)), (2, .v (.int .i64 c)), (8, .v (.int .i64 d))], [(0, some ⟨.row 41 (.ints .u32 e), false⟩)], 1, 51⟩ => some (a, b, c, d, e)
 | _ => none
theorem bb5 (st) (x) (h : V5 st = some x) : st = S5 x := by
 unfold V5 at h
 split at h
 · cases h; rfl
 · cases h
abbrev Y5 := P.bwk
def E9 (K : AExit → ASt → Option R) : Y9 → Option R := (fun x => K (.exit 2) (S9 x))
noncomputable def L9 : ru := fun st K => ae3 (V9 st) fun x => P.bxl x (E9 K)
def E5 (K : AExit → ASt → Option R) : Y5 → Option R := (fun x => K (.exit 0) (S5 x))
noncomputable def L5 : ru := fun st K => ae3 (V5 st) fun x => P.bvr x (E5 K)
noncomputable def D : Ctx := ({ P := Tryz.prog, G := [(109, acs.spec)], globs := GLO.gB, hints := [(9, ⟨[0, 1, 2, 7, 8, 9, 10], [], [6], [], none, [], [], []⟩), (5, ⟨[0, 1, 2, 8], [(7, 41, .ints .u32 [])], [6], [], none, [], [], []⟩)], loops := [(9, L9), (5, L5)], inl := [] } : Ctx)
theorem aon (K) (next) (x) : l8 D (dx Tryz.f97 9) K next (S9 x) = P.brl x (fun x => next (S9 x)) (E9 K) := by kernel_rfl
theorem aw4 : j5 D (dx Tryz.f97 9) := fq S9 axz (by kernel_rfl) P.by7 aon
theorem asi (K) (next) (x) : l8 D (dx Tryz.f97 5) K next (S5 x) = P.bsa x (fun x => next (S5 x)) (E5 K) := by kernel_rfl
theorem bbx : j5 D (dx Tryz.f97 5) := fq S5 bb5 (by kernel_rfl) P.bzc asi
theorem loops : bg (Tryz.f97.body.getD .skip) = [dx Tryz.f97 5, dx Tryz.f97 9] := by kernel_rfl
noncomputable def aj : Abs.Spec := fun args K => match args with
 | [.sl (.ints .u8 a), .v (.int .i64 b), .v (.int .i64 c)] => P.u6 a b c (fun d => K (.fr 41 (.ints .u32 d)))
 | _ => none
noncomputable def spec : Abs.Spec := fun args K => aj (l7 [.sl (.ints .u8 []), .any, .any] args) K
theorem ok0 : Proved Tryz.prog GLO.gB 97 aj := by
 refine bf (D := D) (fn := Tryz.f97) (c := Tryz.f97.body.getD .skip) [.fr 41 (.ints .u32 [])] (by kernel_rfl) (ah (by kernel_rfl)) (by kernel_rfl) (by kernel_rfl) (by kernel_rfl) ⟨acs.ok, trivial⟩ trivial ?_ ?_
 · rw [loops]; exact ⟨bbx, aw4, trivial⟩
 · intro args K r h
   unfold aj at h
   split at h
   · rw [P.amv] at h; exact Eq.trans (by kernel_rfl) h
   · cases h
theorem ok : Proved Tryz.prog GLO.gB 97 spec := bq _ ok0
end u6

namespace abq
abbrev X9 := P.bp0
def S9 : X9 → ASt := fun (c, d, e, f, a, b, g) => ⟨[(0, .v (.int .i64 c)), (1, .sl (.ints .u8 d)), (6, .v (.int .i64 e)), (7, .v (.int .i64 f)), (9, .own 0), (10, .v (.int .u64 a)), (11, .v (.int .i64 b))], [(0, some ⟨.row 41 (.ints .u32 g), false⟩)], 1, 55⟩
def V9 : ASt → Option X9
 | ⟨[(0, .v (.int .i64 c)), (1, .sl (.ints .u8 d)), (6, .v (.int .i64 e)), (7, .v (.int .i64 f)), (9, .own 0), (10, .v (.int .u64 a)), (11, .v (.int .i64 b))], [(0, some ⟨.row 41 (.ints .u32 g), false⟩)], 1, 55⟩ => some (c, d, e, f, a, b, g)
 | _ => none
theorem axz (st) (x) (h : V9 st = some x) : st = S9 x := by
 unfold V9 at h
 split at h
 · cases h; rfl
 · cases h
abbrev Y9 := P.bwx
def E9 (K : AExit → ASt → Option R) : Y9 → Option R := (fun x => K (.exit 0) (S9 x))
noncomputable def L9 : ru := fun st K => ae3 (V9 st) fun x => P.bvh x (E9 K)
noncomputable def D : Ctx := ({ P := Tryz.prog, G := [(32, jd.spec), (37, kg.spec), (70, og.spec), (97, u6.spec)], globs := GLO.gB, hints := [(9, ⟨[0, 1, 6, 7, 9, 10, 11], [], [4, 5], [], none, [], [], []⟩)], loops := [(9, L9)], inl := [] } : Ctx)
theorem aon (K) (next) (x) : l8 D (dx Tryz.f81 9) K next (S9 x) = P.bqz x (fun x => next (S9 x)) (E9 K) := by kernel_rfl
theorem aw4 : j5 D (dx Tryz.f81 9) := fq S9 axz (by kernel_rfl) P.bzi aon
theorem loops : bg (Tryz.f81.body.getD .skip) = [dx Tryz.f81 9] := by kernel_rfl
noncomputable def aj : Abs.Spec := fun args K => match args with
 | [.v (.int .i64 a), .sl (.ints .u8 b)] => P.abq a b (fun c d => K (.tuple [.fr 41 (.ints .u32 c), .v (.int .i64 d)]))
 | _ => none
noncomputable def spec : Abs.Spec := fun args K => aj (l7 [.any, .sl (.ints .u8 [])] args) K
theorem ok0 : Proved Tryz.prog GLO.gB 81 aj := by
 refine bf (D := D) (fn := Tryz.f81) (c := Tryz.f81.body.getD .skip) [.fr 41 (.ints .u32 []), .any] (by kernel_rfl) (ah (by kernel_rfl)) (by kernel_rfl) (by kernel_rfl) (by kernel_rfl) ⟨jd.ok, kg.ok, og.ok, u6.ok, trivial⟩ trivial ?_ ?_
 · rw [loops]; exact ⟨aw4, trivial⟩
 · intro args K r h
   unfold aj at h
   split at h
   · rw [P.an2] at h; exact Eq.trans (by kernel_rfl) h
   · cases h
theorem ok : Proved Tryz.prog GLO.gB 81 spec := bq _ ok0
end abq

namespace abt
noncomputable def D : Ctx := ({ P := Tryz.prog, G := [(32, jd.spec), (62, aew.spec)], globs := GLO.gB, hints := [], loops := [], inl := [] } : Ctx)
theorem loops : bg (Tryz.f82.body.getD .skip) = [] := by kernel_rfl
noncomputable def aj : Abs.Spec := fun args K => match args with
 | [.sl (.ints .u8 a), .v (.int .u32 b), .sl (.ints .u8 c), .sl (.ints .u8 d)] => P.abt a b c d (fun e => K (.fr 5 (.ints .u8 e)))
 | _ => none
noncomputable def spec : Abs.Spec := fun args K => aj (l7 [.sl (.ints .u8 []), .any, .sl (.ints .u8 []), .sl (.ints .u8 [])] args) K
theorem ok0 : Proved Tryz.prog GLO.gB 82 aj := by
 refine bf (D := D) (fn := Tryz.f82) (c := Tryz.f82.body.getD .skip) [.fr 5 (.ints .u8 [])] (by kernel_rfl) (ah (by kernel_rfl)) (by kernel_rfl) (by kernel_rfl) (by kernel_rfl) ⟨jd.ok, aew.ok, trivial⟩ trivial ?_ ?_
 · rw [loops]; exact trivial
 · intro args K r h
   unfold aj at h
   split at h
   · rw [P.ang] at h; exact Eq.trans (by kernel_rfl) h
   · cases h
theorem ok : Proved Tryz.prog GLO.gB 82 spec := bq _ ok0
end abt

namespace afc
abbrev X9 := P.bsl
def S9 : X9 → ASt := fun (c, d, e, a, b, f) => ⟨[(19, .own 40), (1, .sl (.ints .u8 c)), (2, .v (.int .u32 d)), (3, .sl (.ints .u8 e)), (17, .own 2), (20, .v (.int .i64 a))], [(40, some ⟨.row 23 (.rows .u8 b), false⟩), (2, some ⟨.row 41 (.ints .u32 f), false⟩)], 41, 77⟩
def V9 : ASt → Option X9
 | ⟨[(19, .own 40), (1, .sl (.ints .u8 c)), (2, .v (.int .u32 d)), (3, .sl (.ints .u8 e)), (17, .own 2), (20, .v (.int .i64 a))], [(40, some ⟨.row 23 (.rows .u8 b), false⟩), (2, some ⟨.row 41 (.ints .u32 f), false⟩)], 41, 77⟩ => some (c, d, e, a, b, f)
 | _ => none
theorem axz (st) (x) (h : V9 st = some x) : st = S9 x := by
 unfold V9 at h
 split at h
 · cases h; rfl
 · cases h
abbrev Y9 := P.bxp
def E9 (K : AExit → ASt → Option R) : Y9 → Option R := (fun x => K (.exit 0) (S9 x))
noncomputable def L9 : ru := fun st K => ae3 (V9 st) fun x => P.bw3 x (E9 K)
noncomputable def D : Ctx := ({ P := Tryz.prog, G := [(32, jd.spec), (37, kg.spec), (70, og.spec), (79, aaf.spec), (80, abv.spec), (81, abq.spec), (82, abt.spec), (83, aai.spec)], globs := GLO.gB, hints := [(9, ⟨[1, 2, 3, 17, 20], [(19, 23, .rows .u8 [])], [10, 11], [], some (40, [2]), [], [], []⟩)], loops := [(9, L9)], inl := [] } : Ctx)
theorem aon (K) (next) (x) : l8 D (dx Tryz.f48 9) K next (S9 x) = P.br1 x (fun x => next (S9 x)) (E9 K) := by kernel_rfl
theorem aw4 : j5 D (dx Tryz.f48 9) := fq S9 axz (by kernel_rfl) P.by4 aon
theorem loops : bg (Tryz.f48.body.getD .skip) = [dx Tryz.f48 9] := by kernel_rfl
noncomputable def aj : Abs.Spec := fun args K => match args with
 | [.v (.int .i64 a), .sl (.ints .u8 b), .v (.int .u32 c), .sl (.ints .u8 d), .sl (.ints .u8 e)] => P.afc a b c d e (fun f g => K (.tuple [.fr 5 (.ints .u8 f), .v (.int .i64 g)]))
 | _ => none
noncomputable def spec : Abs.Spec := fun args K => aj (l7 [.any, .sl (.ints .u8 []), .any, .sl (.ints .u8 []), .sl (.ints .u8 [])] args) K
theorem ok0 : Proved Tryz.prog GLO.gB 48 aj := by
 refine bf (D := D) (fn := Tryz.f48) (c := Tryz.f48.body.getD .skip) [.fr 5 (.ints .u8 []), .any] (by kernel_rfl) (ah (by kernel_rfl)) (by kernel_rfl) (by kernel_rfl) (by kernel_rfl) ⟨jd.ok, kg.ok, og.ok, aaf.ok, abv.ok, abq.ok, abt.ok, aai.ok, trivial⟩ trivial ?_ ?_
 · rw [loops]; exact ⟨aw4, trivial⟩
 · intro args K r h
   unfold aj at h
   split at h
   · rw [P.atb] at h; exact Eq.trans (by kernel_rfl) h
   · cases h
theorem ok : Proved Tryz.prog GLO.gB 48 spec := bq _ ok0
end afc

namespace ac5
abbrev X10 := P.brh
def S10 : X10 → ASt := fun (a, b, c) => ⟨[(15, .own 40), (16, .own 5), (17, .v (.int .i64 a))], [(40, some ⟨.row 23 (.rows .u8 b), false⟩), (5, some ⟨.row 23 (.rows .u8 c), false⟩)], 41, 74⟩
def V10 : ASt → Option X10
 | ⟨[(15, .own 40), (16, .own 5), (17, .v (.int .i64 a))], [(40, some ⟨.row 23 (.rows .u8 b), false⟩), (5, some ⟨.row 23 (.rows .u8 c), false⟩)], 41, 74⟩ => some (a, b, c)
 | _ => none
theorem at7 (st) (x) (h : V10 st = some x) : st = S10 x := by
 unfold V10 at h
 split at h
 · cases h; rfl
 · cases h
abbrev Y10 := P.bv4
def E10 (K : AExit → ASt → Option R) : Y10 → Option R := (fun x => K (.exit 0) (S10 x))
noncomputable def L10 : ru := fun st K => ae3 (V10 st) fun x => P.by1 x (E10 K)
noncomputable def D : Ctx := ({ P := Tryz.prog, G := [(32, jd.spec), (37, kg.spec), (42, uj.spec), (44, aae.spec), (48, afc.spec), (49, sw.spec)], globs := GLO.gB, hints := [(10, ⟨[16, 17], [(15, 23, .rows .u8 [])], [10, 11], [], some (40, [5]), [], [], []⟩)], loops := [(10, L10)], inl := [] } : Ctx)
theorem alk (K) (next) (x) : l8 D (dx Tryz.f19 10) K next (S10 x) = P.bqq x (fun x => next (S10 x)) (E10 K) := by kernel_rfl
theorem atq : j5 D (dx Tryz.f19 10) := fq S10 at7 (by kernel_rfl) P.b0e alk
theorem loops : bg (Tryz.f19.body.getD .skip) = [dx Tryz.f19 10] := by kernel_rfl
noncomputable def aj : Abs.Spec := fun args K => match args with
 | [.agg [.v (.int .i64 a), .v (.int .i64 b)], .sl (.ints .u8 c), .sl (.ints .u8 d), .v (.int .u32 e), .sl (.ints .u8 f)] => P.ac5 a b c d e f (fun g h => K (.tuple [.fr 5 (.ints .u8 g), .v (.int .i64 h)]))
 | _ => none
noncomputable def spec : Abs.Spec := fun args K => aj (l7 [.any, .sl (.ints .u8 []), .sl (.ints .u8 []), .any, .sl (.ints .u8 [])] args) K
theorem ok0 : Proved Tryz.prog GLO.gB 19 aj := by
 refine bf (D := D) (fn := Tryz.f19) (c := Tryz.f19.body.getD .skip) [.fr 5 (.ints .u8 []), .any] (by kernel_rfl) (ah (by kernel_rfl)) (by kernel_rfl) (by kernel_rfl) (by kernel_rfl) ⟨jd.ok, kg.ok, uj.ok, aae.ok, afc.ok, sw.ok, trivial⟩ trivial ?_ ?_
 · rw [loops]; exact ⟨atq, trivial⟩
 · intro args K r h
   unfold aj at h
   split at h
   · rw [P.aie] at h; exact Eq.trans (by kernel_rfl) h
   · cases h
theorem ok : Proved Tryz.prog GLO.gB 19 spec := bq _ ok0
end ac5

namespace ae7
noncomputable def D : Ctx := ({ P := Tryz.prog, G := [(21, yx.spec), (51, y9.spec)], globs := GLO.gB, hints := [], loops := [], inl := [] } : Ctx)
theorem loops : bg (Tryz.f23.body.getD .skip) = [] := by kernel_rfl
noncomputable def aj : Abs.Spec := fun args K => match args with
 | [.agg [.v (.int .i64 a), .v (.int .i64 b)]] => P.ae7 a b (fun c => K (.v (.int .i64 c)))
 | _ => none
noncomputable def spec : Abs.Spec := aj
theorem ok0 : Proved Tryz.prog GLO.gB 23 aj := by
 refine bf (D := D) (fn := Tryz.f23) (c := Tryz.f23.body.getD .skip) [.any] (by kernel_rfl) (ah (by kernel_rfl)) (by kernel_rfl) (by kernel_rfl) (by kernel_rfl) ⟨yx.ok, y9.ok, trivial⟩ trivial ?_ ?_
 · rw [loops]; exact trivial
 · intro args K r h
   unfold aj at h
   split at h
   · rw [P.amj] at h; exact Eq.trans (by kernel_rfl) h
   · cases h
theorem ok : Proved Tryz.prog GLO.gB 23 spec := ok0
end ae7

namespace l6
noncomputable def D : Ctx := ({ P := Tryz.prog, G := [(90, gy.spec)], globs := GLO.gB, hints := [], loops := [], inl := [] } : Ctx)
theorem loops : bg (Tryz.f75.body.getD .skip) = [] := by kernel_rfl
noncomputable def aj : Abs.Spec := fun args K => match args with
 | [.agg [.v (.int .i64 e), .sl (.ints .u8 d), .v (.int .u32 f), .v (.int .i64 a), .v (.int .i64 b), .v (.int .i64 c)], .v (.int .u64 g), .sl (.ints .u8 h)] => P.l6 e d f a b c g h (fun i => K (.fr 5 (.ints .u8 i)))
 | _ => none
noncomputable def spec : Abs.Spec := fun args K => aj (l7 [.agg [.any, .sl (.ints .u8 []), .any, .any, .any, .any], .any, .sl (.ints .u8 [])] args) K
theorem ok0 : Proved Tryz.prog GLO.gB 75 aj := by
 refine bf (D := D) (fn := Tryz.f75) (c := Tryz.f75.body.getD .skip) [.fr 5 (.ints .u8 [])] (by kernel_rfl) (ah (by kernel_rfl)) (by kernel_rfl) (by kernel_rfl) (by kernel_rfl) ⟨gy.ok, trivial⟩ trivial ?_ ?_
 · rw [loops]; exact trivial
 · intro args K r h
   unfold aj at h
   split at h
   · rw [P.agy] at h; exact Eq.trans (by kernel_rfl) h
   · cases h
theorem ok : Proved Tryz.prog GLO.gB 75 spec := bq _ ok0
end l6

namespace qh
noncomputable def D : Ctx := ({ P := Tryz.prog, G := [(95, tu.spec)], globs := GLO.gB, hints := [], loops := [], inl := [] } : Ctx)
theorem loops : bg (Tryz.f74.body.getD .skip) = [] := by kernel_rfl
noncomputable def aj : Abs.Spec := fun args K => match args with
 | [.v (.int .i64 g), .sl (.ints .u8 h), .v (.int .u32 i), .sl (.ints .u8 j)] => P.qh g h i j (fun e d f a b c k => K (.tuple [.agg [.v (.int .i64 e), .sl (.ints .u8 d), .v (.int .u32 f), .v (.int .i64 a), .v (.int .i64 b), .v (.int .i64 c)], .v (.int .i64 k)]))
 | _ => none
noncomputable def spec : Abs.Spec := fun args K => aj (l7 [.any, .sl (.ints .u8 []), .any, .sl (.ints .u8 [])] args) K
theorem ok0 : Proved Tryz.prog GLO.gB 74 aj := by
 refine bf (D := D) (fn := Tryz.f74) (c := Tryz.f74.body.getD .skip) [.agg [.any, .sl (.ints .u8 []), .any, .any, .any, .any], .any] (by kernel_rfl) (ah (by kernel_rfl)) (by kernel_rfl) (by kernel_rfl) (by kernel_rfl) ⟨tu.ok, trivial⟩ trivial ?_ ?_
 · rw [loops]; exact trivial
 · intro args K r h
   unfold aj at h
   split at h
   · rw [P.aj2] at h; exact Eq.trans (by kernel_rfl) h
   · cases h
theorem ok : Proved Tryz.prog GLO.gB 74 spec := bq _ ok0
end qh

end
