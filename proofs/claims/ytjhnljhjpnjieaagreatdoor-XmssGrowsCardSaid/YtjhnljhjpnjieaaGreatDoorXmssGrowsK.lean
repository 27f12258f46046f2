/-
  XmssGrows, part 11: an interpreter of my own over abstract values, the pure functions, the walks and the plain law.
-/

import Derived.Test.YtjhnljhjpnjieaaGreatDoorXmssGrowsH
import Derived.Test.YtjhnljhjpnjieaaGreatDoorXmssGrowsG
import Derived.Test.YtjhnljhjpnjieaaGreatDoorProg
import Derived.KernelRfl

section
open Go Go.Abs Go.Proofs
set_option maxRecDepth 100000
set_option maxHeartbeats 0
set_option linter.unusedVariables false

namespace jl
noncomputable def D : Ctx := ({ P := Tryz.prog, G := [], globs := GLO.gx, hints := [], loops := [], inl := [] } : Ctx)
theorem loops : d9 (Tryz.f51.body.getD .skip) = [] := by kernel_rfl
noncomputable def bn : Abs.Spec := fun args K => match args with
 | [.agg [.v (.int .i64 b), .v (.int .i64 c), .v (.int .i64 d), .v (.int .i64 e), .v (.int .i64 f), .v (.bool a)]] => P.jl b c d e f a (fun g => K (.v (.int .i64 g)))
 | _ => none
noncomputable def spec : Abs.Spec := bn
theorem ok0 : Proved Tryz.prog GLO.gx 51 bn := by
 refine dw (D := D) (fn := Tryz.f51) (c := Tryz.f51.body.getD .skip) [.any] (by kernel_rfl) (bf (by kernel_rfl)) (by kernel_rfl) (by kernel_rfl) (by kernel_rfl) trivial trivial ?_ ?_
 · rw [loops]; exact trivial
 · intro args K r h
   unfold bn at h
   split at h
   · rw [P.at1] at h; exact Eq.trans (by kernel_rfl) h
   · cases h
theorem ok : Proved Tryz.prog GLO.gx 51 spec := ok0
end jl

namespace yg
noncomputable def D : Ctx := ({ P := Tryz.prog, G := [], globs := GLO.gx, hints := [], loops := [], inl := [] } : Ctx)
theorem loops : d9 (Tryz.f36.body.getD .skip) = [] := by kernel_rfl
noncomputable def bn : Abs.Spec := fun args K => match args with
 | [.agg [.v (.int .i64 b), .v (.int .i64 c), .v (.int .i64 d), .v (.int .i64 e), .v (.int .i64 f), .v (.bool a)]] => P.yg b c d e f a (fun g => K (.v (.bool g)))
 | _ => none
noncomputable def spec : Abs.Spec := bn
theorem ok0 : Proved Tryz.prog GLO.gx 36 bn := by
 refine dw (D := D) (fn := Tryz.f36) (c := Tryz.f36.body.getD .skip) [.any] (by kernel_rfl) (bf (by kernel_rfl)) (by kernel_rfl) (by kernel_rfl) (by kernel_rfl) trivial trivial ?_ ?_
 · rw [loops]; exact trivial
 · intro args K r h
   unfold bn at h
   split at h
   · rw [P.awf] at h; exact Eq.trans (by kernel_rfl) h
   · cases h
theorem ok : Proved Tryz.prog GLO.gx 36 spec := ok0
end yg

namespace tu
abbrev X2 := P.zt3
def S2 : X2 → ASt := fun (g, h, i, a, b, c, d, e, f) => ⟨[(2, .ptr 0 0), (7, .sl (.rows .u8 g)), (8, .v (.int .i64 h)), (9, .v (.int .i64 i))], [(0, some ⟨.box 23 [.v (.int .i64 a), .v (.int .i64 b), .v (.int .i64 c), .v (.int .i64 d), .v (.int .i64 e), .v (.bool f)], false⟩)], 1, 21⟩
def V2 : ASt → Option X2
 | ⟨[(2, .ptr 0 0), (7, .sl (.rows .u8 g)), (8, .v (.int .i64 h)), (9, .v (.int .i64 i))], [(0, some ⟨.box 23 [.v (.int .i64 a), .v (.int .i64 b), .v (.int .i64 c), .v (.int .i64 d), .v (.int .i64 e), .v (.bool f)], false⟩)], 1, 21⟩ => some (g, h, i, a, b, c, d, e, f)
 | _ => none
theorem axu (st) (x) (h : V2 st = some x) : st = S2 x := by
 unfold V2 at h
 split at h
 · cases h; rfl
 · cases h
abbrev Y2 := P.zy3
def E2 (K : AExit → ASt → Option R) : Y2 → Option R := (Sum.elim (fun x => K (.exit 0) (S2 x)) (fun (g, a, b, c, d, e, f) => K .ret ⟨[(4, .v (.bool g))], [(0, some ⟨.box 23 [.v (.int .i64 a), .v (.int .i64 b), .v (.int .i64 c), .v (.int .i64 d), .v (.int .i64 e), .v (.bool f)], false⟩)], 1, 21⟩))
noncomputable def L2 : p8 := fun st K => acg (V2 st) fun x => P.zm3 x (E2 K)
noncomputable def D : Ctx := ({ P := Tryz.prog, G := [(36, yg.spec)], globs := GLO.gx, hints := [(2, ⟨[2, 7, 8, 9], [], [4], [], none, [], []⟩)], loops := [(2, L2)], inl := [] } : Ctx)
theorem ame (K) (next) (x) : jq D (dz Tryz.f52 2) K next (S2 x) = P.zs3 x (fun x => next (S2 x)) (E2 K) := by kernel_rfl
theorem avz : ji D (dz Tryz.f52 2) := gy S2 axu (by kernel_rfl) P.ze3 ame
theorem loops : d9 (Tryz.f52.body.getD .skip) = [dz Tryz.f52 2] := by kernel_rfl
noncomputable def bn : Abs.Spec := fun args K => match args with
 | [.agg [.v (.int .i64 b), .v (.int .i64 c), .v (.int .i64 d), .v (.int .i64 e), .v (.int .i64 f), .v (.bool a)], .sl (.rows .u8 g)] => P.tu b c d e f a g (fun h => K (.v (.bool h)))
 | _ => none
noncomputable def spec : Abs.Spec := fun args K => bn (oh [.any, .sl (.rows .u8 [])] args) K
theorem ok0 : Proved Tryz.prog GLO.gx 52 bn := by
 refine dw (D := D) (fn := Tryz.f52) (c := Tryz.f52.body.getD .skip) [.any] (by kernel_rfl) (bf (by kernel_rfl)) (by kernel_rfl) (by kernel_rfl) (by kernel_rfl) ⟨yg.ok, trivial⟩ trivial ?_ ?_
 · rw [loops]; exact ⟨avz, trivial⟩
 · intro args K r h
   unfold bn at h
   split at h
   · rw [P.anp] at h; exact Eq.trans (by kernel_rfl) h
   · cases h
theorem ok : Proved Tryz.prog GLO.gx 52 spec := eu _ ok0
end tu

namespace af0
abbrev X5 := P.zt6
def S5 : X5 → ASt := fun (c, a, b, d) => ⟨[(0, .v (.int .u64 c)), (5, .own 0), (16, .v (.int .i64 a)), (17, .v (.int .i64 b))], [(0, some ⟨.row 5 (.ints .u8 d), false⟩)], 1, 30⟩
def V5 : ASt → Option X5
 | ⟨[(0, .v (.int .u64 c)), (5, .own 0), (16, .v (.int .i64 a)), (17, .v (.int .i64 b))], [(0, some ⟨.row 5 (.ints .u8 d), false⟩)], 1, 30⟩ => some (c, a, b, d)
 | _ => none
theorem atn (st) (x) (h : V5 st = some x) : st = S5 x := by
 unfold V5 at h
 split at h
 · cases h; rfl
 · cases h
abbrev Y5 := P.zy6
def E5 (K : AExit → ASt → Option R) : Y5 → Option R := (fun x => K (.exit 0) (S5 x))
noncomputable def L5 : p8 := fun st K => acg (V5 st) fun x => P.zm6 x (E5 K)
noncomputable def D : Ctx := ({ P := Tryz.prog, G := [], globs := GLO.gx, hints := [(5, ⟨[0, 5, 16, 17], [], [4], [], none, [], []⟩)], loops := [(5, L5)], inl := [] } : Ctx)
theorem akf (K) (next) (x) : jq D (dz Tryz.f119 5) K next (S5 x) = P.zs6 x (fun x => next (S5 x)) (E5 K) := by kernel_rfl
theorem atq : ji D (dz Tryz.f119 5) := gy S5 atn (by kernel_rfl) P.ze6 akf
theorem loops : d9 (Tryz.f119.body.getD .skip) = [dz Tryz.f119 5] := by kernel_rfl
noncomputable def bn : Abs.Spec := fun args K => match args with
 | [.v (.int .u64 a), .v (.int .i64 b)] => P.af0 a b (fun c => K (.fr 5 (.ints .u8 c)))
 | _ => none
noncomputable def spec : Abs.Spec := bn
theorem ok0 : Proved Tryz.prog GLO.gx 119 bn := by
 refine dw (D := D) (fn := Tryz.f119) (c := Tryz.f119.body.getD .skip) [.fr 5 (.ints .u8 [])] (by kernel_rfl) (bf (by kernel_rfl)) (by kernel_rfl) (by kernel_rfl) (by kernel_rfl) trivial trivial ?_ ?_
 · rw [loops]; exact ⟨atq, trivial⟩
 · intro args K r h
   unfold bn at h
   split at h
   · rw [P.bat] at h; exact Eq.trans (by kernel_rfl) h
   · cases h
theorem ok : Proved Tryz.prog GLO.gx 119 spec := ok0
end af0

namespace yc
abbrev b9h := P.zt7
def bw6 : b9h → ASt := fun (a, b, c) => ⟨[(0, .own 0), (2, .v (.int .i64 a)), (3, .v (.int .i64 b))], [(0, some ⟨.row 5 (.ints .u8 c), false⟩)], 1, 28⟩
def b35 : ASt → Option b9h
 | ⟨[(0, .own 0), (2, .v (.int .i64 a)), (3, .v (.int .i64 b))], [(0, some ⟨.row 5 (.ints .u8 c), false⟩)], 1, 28⟩ => some (a, b, c)
 | _ => none
theorem bqk (st) (x) (h : b35 st = some x) : st = bw6 x := by
 unfold b35 at h
 split at h
 · cases h; rfl
 · cases h
abbrev Y1_1 := P.zy7
def b9w (K : AExit → ASt → Option R) : Y1_1 → Option R := (fun x => K (.exit 0) (bw6 x))
noncomputable def L1_1 : p8 := fun st K => acg (b35 st) fun x => P.zm7 x (b9w K)
noncomputable def D1 : Ctx := ({ P := Tryz.prog, G := [(119, af0.spec)], globs := GLO.gx, hints := [(1, ⟨[0, 2, 3], [], [], [], none, [], []⟩)], loops := [(1, L1_1)], inl := [] } : Ctx)
noncomputable def D : Ctx := ({ P := Tryz.prog, G := [(119, af0.spec)], globs := GLO.gx, hints := [], loops := [], inl := [(120, ao0 D1 Tryz.f120)] } : Ctx)
theorem bo2 (K) (next) (x) : jq D1 (dz Tryz.f120 1) K next (bw6 x) = P.zs7 x (fun x => next (bw6 x)) (b9w K) := by kernel_rfl
theorem brj : ji D1 (dz Tryz.f120 1) := gy bw6 bqk (by kernel_rfl) P.ze7 bo2
theorem loops : d9 (Tryz.f108.body.getD .skip) = [] := by kernel_rfl
theorem ayf : d9 (Tryz.f120.body.getD .skip) = [dz Tryz.f120 1] := by kernel_rfl
noncomputable def bn : Abs.Spec := fun args K => match args with
 | [.v (.int .u64 a), .v (.int .i64 b)] => P.yc a b (fun c => K (.fr 5 (.ints .u8 c)))
 | _ => none
noncomputable def spec : Abs.Spec := bn
theorem ok0 : Proved Tryz.prog GLO.gx 108 bn := by
 refine dw (D := D) (fn := Tryz.f108) (c := Tryz.f108.body.getD .skip) [.fr 5 (.ints .u8 [])] (by kernel_rfl) (bf (by kernel_rfl)) (by kernel_rfl) (by kernel_rfl) (by kernel_rfl) ⟨af0.ok, trivial⟩ ⟨bet (D := D1) (D' := D) (fn := Tryz.f120) (c := Tryz.f120.body.getD .skip) rfl rfl (by kernel_rfl) (bf (by kernel_rfl)) (by kernel_rfl) (by kernel_rfl) (by kernel_rfl) ⟨af0.ok, trivial⟩ trivial (by rw [ayf]; exact ⟨brj, trivial⟩) (fun _ _ _ _ _ h => h), trivial⟩ ?_ ?_
 · rw [loops]; exact trivial
 · intro args K r h
   unfold bn at h
   split at h
   · rw [P.azi] at h; exact Eq.trans (by kernel_rfl) h
   · cases h
theorem ok : Proved Tryz.prog GLO.gx 108 spec := ok0
end yc

end
