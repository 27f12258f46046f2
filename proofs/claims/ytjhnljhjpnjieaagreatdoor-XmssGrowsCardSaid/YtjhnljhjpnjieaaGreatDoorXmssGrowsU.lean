/-
  XmssGrows, part 21: an interpreter of my own over abstract values, the pure functions, the walks and the plain law.
-/

import Derived.Test.YtjhnljhjpnjieaaGreatDoorXmssGrowsI
import Derived.Test.YtjhnljhjpnjieaaGreatDoorXmssGrowsG
import Derived.Test.YtjhnljhjpnjieaaGreatDoorProg
import Derived.Test.YtjhnljhjpnjieaaGreatDoorXmssGrowsH
import Derived.Test.YtjhnljhjpnjieaaGreatDoorXmssGrowsT
import Derived.Test.YtjhnljhjpnjieaaGreatDoorXmssGrowsK
import Derived.Test.YtjhnljhjpnjieaaGreatDoorXmssGrowsP
import Derived.KernelRfl
import Derived.Test.YtjhnljhjpnjieaaGreatDoorXmssGrowsJ
import Derived.Test.YtjhnljhjpnjieaaGreatDoorXmssGrowsS

section
open Go Go.Abs Go.Proofs
set_option maxRecDepth 100000
set_option maxHeartbeats 0
set_option linter.unusedVariables false

namespace abv
abbrev X6 := P.bxj
def S6 : X6 → ASt := fun (m, j, k, l, a, b, c, d, e, f, g, h, i) => ⟨[(14, .own 40), (5, .v (.int .u64 m)), (13, .ptr 3 0), (44, .v (.int .i64 j)), (45, .v (.int .i64 k))], [(40, some ⟨.row 5 (.ints .u8 l), false⟩), (3, some ⟨.box 68 [.v (.int .i64 a), .v (.int .i64 b), .v (.int .i64 c), .v (.int .i64 d), .v (.int .i64 e), .v (.bool f), .sl (.ints .u8 g), .sl (.ints .u8 h), .arr .u8 32 i], false⟩)], 41, 59⟩
def V6 : ASt → Option X6
 | ⟨[(14, .own 40), (5, .v (.int .u64 m)), (13, .ptr 3 0), (44, .v (.int .i64 j)), (45, .v (.int .i64 k))], [(40, some ⟨.row 5 (.ints .u8 l), false⟩), (3, some ⟨.box 68 [.v (.int .i64 a), .v (.int .i64 b), .v (.int .i64 c), .v (.int .i64 d), .v (.int .i64 e), .v (.bool f), .sl (.ints .u8 g), .sl (.ints .u8 h), .arr .u8 32 i], false⟩)], 41, 59⟩ => some (m, j, k, l, a, b, c, d, e, f, g, h, i)
 | _ => none
theorem ah4 (st) (x) (h : V6 st = some x) : st = S6 x := by
 unfold V6 at h
 split at h
 · cases h; rfl
 · cases h
abbrev Y6 := P.b2j
def E6 (K : AExit → ASt → Option R) : Y6 → Option R := (fun x => K (.exit 0) (S6 x))
noncomputable def L6 : p8 := fun st K => acg (V6 st) fun x => P.b49 x (E6 K)
noncomputable def D : Ctx := ({ P := Tryz.prog, G := [(51, jl.spec), (52, tu.spec), (53, oo.spec), (57, adh.spec), (58, nk.spec)], globs := GLO.gx, hints := [(6, ⟨[5, 13, 44, 45], [(14, 5, .ints .u8 [])], [12], [], some (40, [3]), [], []⟩)], loops := [(6, L6)], inl := [] } : Ctx)
theorem ac4 (K) (next) (x) : jq D (dz Tryz.f28 6) K next (S6 x) = P.bu1 x (fun x => next (S6 x)) (E6 K) := by kernel_rfl
theorem aiw : ji D (dz Tryz.f28 6) := gy S6 ah4 (by kernel_rfl) P.b8f ac4
theorem loops : d9 (Tryz.f28.body.getD .skip) = [dz Tryz.f28 6] := by kernel_rfl
noncomputable def bn : Abs.Spec := fun args K => match args with
 | [.agg [.v (.int .i64 b), .v (.int .i64 c), .v (.int .i64 d), .v (.int .i64 e), .v (.int .i64 f), .v (.bool a)], .sl (.ints .u8 g), .sl (.ints .u8 h), .sl (.ints .u8 i), .arr .u8 32 j, .v (.int .u64 k)] => P.abv b c d e f a g h i j k (fun l => K (.fr 5 (.ints .u8 l)))
 | _ => none
noncomputable def spec : Abs.Spec := fun args K => bn (oh [.any, .sl (.ints .u8 []), .sl (.ints .u8 []), .sl (.ints .u8 []), .any, .any] args) K
theorem ok0 : Proved Tryz.prog GLO.gx 28 bn := by
 refine dw (D := D) (fn := Tryz.f28) (c := Tryz.f28.body.getD .skip) [.fr 5 (.ints .u8 [])] (by kernel_rfl) (bf (by kernel_rfl)) (by kernel_rfl) (by kernel_rfl) (by kernel_rfl) ⟨jl.ok, tu.ok, oo.ok, adh.ok, nk.ok, trivial⟩ trivial ?_ ?_
 · rw [loops]; exact ⟨aiw, trivial⟩
 · intro args K r h
   unfold bn at h
   split at h
   · rw [P.ael] at h; exact Eq.trans (by kernel_rfl) h
   · cases h
theorem ok : Proved Tryz.prog GLO.gx 28 spec := eu _ ok0
end abv

namespace y7
noncomputable def D : Ctx := ({ P := Tryz.prog, G := [(12, abr.spec), (21, aa4.spec), (22, ag9.spec), (23, u6.spec), (24, qd.spec), (25, aau.spec), (26, z8.spec), (27, aaz.spec), (28, abv.spec), (29, ad8.spec), (30, qg.spec), (31, sj.spec)], globs := GLO.gx, hints := [], loops := [], inl := [] } : Ctx)
theorem loops : d9 (Tryz.f5.body.getD .skip) = [] := by kernel_rfl
noncomputable def bn : Abs.Spec := fun args K => match args with
 | [.agg [.v (.int .i64 b), .v (.int .i64 c), .v (.int .i64 d), .v (.int .i64 e), .v (.int .i64 f), .v (.bool a)], .arr .u8 32 g, .sl (.ints .u8 h), .sl (.ints .u8 i), .sl (.ints .u8 j), .v (.int .i64 k), .v (.int .u64 l), .sl (.ints .u8 m)] => P.y7 b c d e f a g h i j k l m (fun n => K (.v (.bool n)))
 | _ => none
noncomputable def spec : Abs.Spec := fun args K => bn (oh [.any, .any, .sl (.ints .u8 []), .sl (.ints .u8 []), .sl (.ints .u8 []), .any, .any, .sl (.ints .u8 [])] args) K
theorem ok0 : Proved Tryz.prog GLO.gx 5 bn := by
 refine dw (D := D) (fn := Tryz.f5) (c := Tryz.f5.body.getD .skip) [.any] (by kernel_rfl) (bf (by kernel_rfl)) (by kernel_rfl) (by kernel_rfl) (by kernel_rfl) ⟨abr.ok, aa4.ok, ag9.ok, u6.ok, qd.ok, aau.ok, z8.ok, aaz.ok, abv.ok, ad8.ok, qg.ok, sj.ok, trivial⟩ trivial ?_ ?_
 · rw [loops]; exact trivial
 · intro args K r h
   unfold bn at h
   split at h
   · rw [P.al0] at h; exact Eq.trans (by kernel_rfl) h
   · cases h
theorem ok : Proved Tryz.prog GLO.gx 5 spec := eu _ ok0
end y7

end
