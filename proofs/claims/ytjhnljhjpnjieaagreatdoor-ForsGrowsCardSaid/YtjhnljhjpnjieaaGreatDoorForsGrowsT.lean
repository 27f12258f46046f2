/-
  ForsGrows, part 20: an interpreter of my own over abstract values, the pure functions, the walks and the plain law.
-/

import Derived.Test.YtjhnljhjpnjieaaGreatDoorForsGrowsK
import Derived.Test.YtjhnljhjpnjieaaGreatDoorForsGrowsG
import Derived.Test.YtjhnljhjpnjieaaGreatDoorProg
import Derived.Test.YtjhnljhjpnjieaaGreatDoorForsGrowsJ
import Derived.Test.YtjhnljhjpnjieaaGreatDoorForsGrowsP
import Derived.KernelRfl
import Derived.Test.YtjhnljhjpnjieaaGreatDoorForsGrowsL
import Derived.Test.YtjhnljhjpnjieaaGreatDoorForsGrowsM
import Derived.Test.YtjhnljhjpnjieaaGreatDoorForsGrowsQ
import Derived.Test.YtjhnljhjpnjieaaGreatDoorForsGrowsS

section
open Go Go.Abs Go.Proofs
set_option maxRecDepth 100000
set_option maxHeartbeats 0
set_option linter.unusedVariables false

namespace adr
noncomputable def D : Ctx := ({ P := Tryz.prog, G := [(38, gy.spec), (39, iw.spec)], globs := GLO.gx, hints := [], loops := [], inl := [] } : Ctx)
theorem loops : cu (Tryz.f13.body.getD .skip) = [] := by kernel_rfl
noncomputable def ay : Abs.Spec := fun args K => match args with
 | [.agg [.v (.int .i64 b), .v (.int .i64 c), .v (.int .i64 d), .v (.int .i64 e), .v (.int .i64 f), .v (.bool a)], .sl (.ints .u8 g), .sl (.ints .u8 h), .arr .u8 32 i, .v (.int .i64 j), .v (.int .u64 k)] => P.adr b c d e f a g h i j k (fun l => K (.sl (.ints .u8 l)))
 | _ => none
noncomputable def spec : Abs.Spec := fun args K => ay (om [.any, .sl (.ints .u8 []), .sl (.ints .u8 []), .any, .any, .any] args) K
theorem ok0 : Proved Tryz.prog GLO.gx 13 ay := by
 refine bq (D := D) (fn := Tryz.f13) (c := Tryz.f13.body.getD .skip) [.sl (.ints .u8 [])] (by kernel_rfl) (au (by kernel_rfl)) (by kernel_rfl) (by kernel_rfl) (by kernel_rfl) ⟨gy.ok, iw.ok, trivial⟩ trivial ?_ ?_
 · rw [loops]; exact trivial
 · intro args K r h
   unfold ay at h
   split at h
   · rw [P.adg] at h; exact Eq.trans (by kernel_rfl) h
   · cases h
theorem ok : Proved Tryz.prog GLO.gx 13 spec := d9 _ ok0
end adr

namespace uh
noncomputable def D : Ctx := ({ P := Tryz.prog, G := [(75, vg.spec), (76, jk.spec)], globs := GLO.gx, hints := [], loops := [], inl := [] } : Ctx)
theorem loops : cu (Tryz.f45.body.getD .skip) = [] := by kernel_rfl
noncomputable def ay : Abs.Spec := fun args K => match args with
 | [.agg [.v (.int .i64 c), .v (.int .i64 d), .v (.int .i64 e), .v (.int .i64 f), .v (.int .i64 g), .v (.bool a), .sl (.ints .u8 b), .sl (.ints .u8 h), .arr .u8 32 i], .sl (.ints .u8 j)] => P.uh c d e f g a b h i j (fun k => K (.sl (.ints .u8 k)))
 | _ => none
noncomputable def spec : Abs.Spec := fun args K => ay (om [.agg [.any, .any, .any, .any, .any, .any, .sl (.ints .u8 []), .sl (.ints .u8 []), .any], .sl (.ints .u8 [])] args) K
theorem ok0 : Proved Tryz.prog GLO.gx 45 ay := by
 refine bq (D := D) (fn := Tryz.f45) (c := Tryz.f45.body.getD .skip) [.sl (.ints .u8 [])] (by kernel_rfl) (au (by kernel_rfl)) (by kernel_rfl) (by kernel_rfl) (by kernel_rfl) ⟨vg.ok, jk.ok, trivial⟩ trivial ?_ ?_
 · rw [loops]; exact trivial
 · intro args K r h
   unfold ay at h
   split at h
   · rw [P.ai8] at h; exact Eq.trans (by kernel_rfl) h
   · cases h
theorem ok : Proved Tryz.prog GLO.gx 45 spec := d9 _ ok0
end uh

namespace uq
abbrev X6 := P.bsh
def S6 : X6 → ASt := fun (p, q, r, a, b, c, d, e, f, g, h, i, j, k, l, m, n, o) => ⟨[(11, .own 40), (4, .ptr 0 0), (9, .ptr 2 0), (24, .v (.int .i64 p)), (25, .v (.int .i64 q))], [(40, some ⟨.row 5 (.ints .u8 r), false⟩), (0, some ⟨.box 23 [.v (.int .i64 a), .v (.int .i64 b), .v (.int .i64 c), .v (.int .i64 d), .v (.int .i64 e), .v (.bool f)], false⟩), (2, some ⟨.box 47 [.v (.int .i64 g), .v (.int .i64 h), .v (.int .i64 i), .v (.int .i64 j), .v (.int .i64 k), .v (.bool l), .sl (.ints .u8 m), .sl (.ints .u8 n), .arr .u8 32 o], false⟩)], 41, 40⟩
def V6 : ASt → Option X6
 | ⟨[(11, .own 40), (4, .ptr 0 0), (9, .ptr 2 0), (24, .v (.int .i64 p)), (25, .v (.int .i64 q))], [(40, some ⟨.row 5 (.ints .u8 r), false⟩), (0, some ⟨.box 23 [.v (.int .i64 a), .v (.int .i64 b), .v (.int .i64 c), .v (.int .i64 d), .v (.int .i64 e), .v (.bool f)], false⟩), (2, some ⟨.box 47 [.v (.int .i64 g), .v (.int .i64 h), .v (.int .i64 i), .v (.int .i64 j), .v (.int .i64 k), .v (.bool l), .sl (.ints .u8 m), .sl (.ints .u8 n), .arr .u8 32 o], false⟩)], 41, 40⟩ => some (p, q, r, a, b, c, d, e, f, g, h, i, j, k, l, m, n, o)
 | _ => none
theorem bcm (st) (x) (h : V6 st = some x) : st = S6 x := by
 unfold V6 at h
 split at h
 · cases h; rfl
 · cases h
abbrev Y6 := P.bzw
def E6 (K : AExit → ASt → Option R) : Y6 → Option R := (fun x => K (.exit 0) (S6 x))
noncomputable def L6 : qc := fun st K => adi (V6 st) fun x => P.byi x (E6 K)
noncomputable def D : Ctx := ({ P := Tryz.prog, G := [(38, gy.spec), (39, iw.spec), (45, uh.spec)], globs := GLO.gx, hints := [(6, ⟨[4, 9, 24, 25], [(11, 5, .ints .u8 [])], [8], [], some (40, [0, 2]), [], []⟩)], loops := [(6, L6)], inl := [] } : Ctx)
theorem au9 (K) (next) (x) : kr D (dn Tryz.f15 6) K next (S6 x) = P.bte x (fun x => next (S6 x)) (E6 K) := by kernel_rfl
theorem bdj : jr D (dn Tryz.f15 6) := fu S6 bcm (by kernel_rfl) P.b2w au9
theorem loops : cu (Tryz.f15.body.getD .skip) = [dn Tryz.f15 6] := by kernel_rfl
noncomputable def ay : Abs.Spec := fun args K => match args with
 | [.agg [.v (.int .i64 b), .v (.int .i64 c), .v (.int .i64 d), .v (.int .i64 e), .v (.int .i64 f), .v (.bool a)], .sl (.ints .u8 g), .sl (.ints .u8 h), .arr .u8 32 i] => P.uq b c d e f a g h i (fun j => K (.sl (.ints .u8 j)))
 | _ => none
noncomputable def spec : Abs.Spec := fun args K => ay (om [.any, .sl (.ints .u8 []), .sl (.ints .u8 []), .any] args) K
theorem ok0 : Proved Tryz.prog GLO.gx 15 ay := by
 refine bq (D := D) (fn := Tryz.f15) (c := Tryz.f15.body.getD .skip) [.sl (.ints .u8 [])] (by kernel_rfl) (au (by kernel_rfl)) (by kernel_rfl) (by kernel_rfl) (by kernel_rfl) ⟨gy.ok, iw.ok, uh.ok, trivial⟩ trivial ?_ ?_
 · rw [loops]; exact ⟨bdj, trivial⟩
 · intro args K r h
   unfold ay at h
   split at h
   · rw [P.ais] at h; exact Eq.trans (by kernel_rfl) h
   · cases h
theorem ok : Proved Tryz.prog GLO.gx 15 spec := d9 _ ok0
end uq

namespace vw
noncomputable def D : Ctx := ({ P := Tryz.prog, G := [(7, afy.spec), (8, ze.spec), (9, ko.spec), (10, acv.spec), (11, zx.spec), (12, acf.spec), (13, adr.spec), (14, uo.spec), (15, uq.spec), (16, y9.spec)], globs := GLO.gx, hints := [], loops := [], inl := [] } : Ctx)
theorem loops : cu (Tryz.f3.body.getD .skip) = [] := by kernel_rfl
noncomputable def ay : Abs.Spec := fun args K => match args with
 | [.agg [.v (.int .i64 b), .v (.int .i64 c), .v (.int .i64 d), .v (.int .i64 e), .v (.int .i64 f), .v (.bool a)], .arr .u8 32 g, .sl (.ints .u8 h), .sl (.ints .u8 i), .v (.int .i64 j), .v (.int .u64 k)] => P.vw b c d e f a g h i j k (fun l => K (.v (.bool l)))
 | _ => none
noncomputable def spec : Abs.Spec := fun args K => ay (om [.any, .any, .sl (.ints .u8 []), .sl (.ints .u8 []), .any, .any] args) K
theorem ok0 : Proved Tryz.prog GLO.gx 3 ay := by
 refine bq (D := D) (fn := Tryz.f3) (c := Tryz.f3.body.getD .skip) [.any] (by kernel_rfl) (au (by kernel_rfl)) (by kernel_rfl) (by kernel_rfl) (by kernel_rfl) ⟨afy.ok, ze.ok, ko.ok, acv.ok, zx.ok, acf.ok, adr.ok, uo.ok, uq.ok, y9.ok, trivial⟩ trivial ?_ ?_
 · rw [loops]; exact trivial
 · intro args K r h
   unfold ay at h
   split at h
   · rw [P.akl] at h; exact Eq.trans (by kernel_rfl) h
   · cases h
theorem ok : Proved Tryz.prog GLO.gx 3 spec := d9 _ ok0
end vw

end
