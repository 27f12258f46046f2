/-
  XmssHypers, part 11: an interpreter of my own over abstract values, the pure functions, the walks and the plain law.
-/

import Derived.Test.YtjhnljhjpnjieaaGreatDoorXmssHypersH
import Derived.Test.YtjhnljhjpnjieaaGreatDoorXmssHypersG
import Derived.Test.YtjhnljhjpnjieaaGreatDoorProg
import Derived.KernelRfl

section
open Go Go.Abs Go.Proofs
set_option maxRecDepth 100000
set_option maxHeartbeats 0
set_option linter.unusedVariables false

namespace iy
noncomputable def D : Ctx := ({ P := Tryz.prog, G := [], globs := GLO.gx, hints := [], loops := [], inl := [] } : Ctx)
theorem loops : d9 (Tryz.f51.body.getD .skip) = [] := by kernel_rfl
noncomputable def bn : Abs.Spec := fun args K => match args with
 | [.agg [.v (.int .i64 b), .v (.int .i64 c), .v (.int .i64 d), .v (.int .i64 e), .v (.int .i64 f), .v (.bool a)]] => P.iy b c d e f a (fun g => K (.v (.int .i64 g)))
 | _ => none
noncomputable def spec : Abs.Spec := bn
theorem ok0 : Proved Tryz.prog GLO.gx 51 bn := by
 refine dh (D := D) (fn := Tryz.f51) (c := Tryz.f51.body.getD .skip) [.any] (by kernel_rfl) (bf (by kernel_rfl)) (by kernel_rfl) (by kernel_rfl) (by kernel_rfl) trivial trivial ?_ ?_
 · rw [loops]; exact trivial
 · intro args K r h
   unfold bn at h
   split at h
   · rw [P.avb] at h; exact Eq.trans (by kernel_rfl) h
   · cases h
theorem ok : Proved Tryz.prog GLO.gx 51 spec := ok0
end iy

namespace yw
noncomputable def D : Ctx := ({ P := Tryz.prog, G := [], globs := GLO.gx, hints := [], loops := [], inl := [] } : Ctx)
theorem loops : d9 (Tryz.f36.body.getD .skip) = [] := by kernel_rfl
noncomputable def bn : Abs.Spec := fun args K => match args with
 | [.agg [.v (.int .i64 b), .v (.int .i64 c), .v (.int .i64 d), .v (.int .i64 e), .v (.int .i64 f), .v (.bool a)]] => P.yw b c d e f a (fun g => K (.v (.bool g)))
 | _ => none
noncomputable def spec : Abs.Spec := bn
theorem ok0 : Proved Tryz.prog GLO.gx 36 bn := by
 refine dh (D := D) (fn := Tryz.f36) (c := Tryz.f36.body.getD .skip) [.any] (by kernel_rfl) (bf (by kernel_rfl)) (by kernel_rfl) (by kernel_rfl) (by kernel_rfl) trivial trivial ?_ ?_
 · rw [loops]; exact trivial
 · intro args K r h
   unfold bn at h
   split at h
   · rw [P.ay7] at h; exact Eq.trans (by kernel_rfl) h
   · cases h
theorem ok : Proved Tryz.prog GLO.gx 36 spec := ok0
end yw

namespace ku
abbrev X2 := P.zt3
def S2 : X2 → ASt := fun (g, h, i, a, b, c, d, e, f) => ⟨[(2, .ptr 0 0), (7, .sl (.rows .u8 g)), (8, .v (.int .i64 h)), (9, .v (.int .i64 i))], [(0, some ⟨.box 23 [.v (.int .i64 a), .v (.int .i64 b), .v (.int .i64 c), .v (.int .i64 d), .v (.int .i64 e), .v (.bool f)], false⟩)], 1, 21⟩
def V2 : ASt → Option X2
 | ⟨[(2, .ptr 0 0), (7, .sl (.rows .u8 g)), (8, .v (.int .i64 h)), (9, .v (.int .i64 i))], [(0, some ⟨.box 23 [.v (.int .i64 a), .v (.int .i64 b), .v (.int .i64 c), .v (.int .i64 d), .v (.int .i64 e), .v (.bool f)], false⟩)], 1, 21⟩ => some (g, h, i, a, b, c, d, e, f)
 | _ => none
theorem axf (st) (x) (h : V2 st = some x) : st = S2 x := by
 unfold V2 at h
 split at h
 · cases h; rfl
 · cases h
abbrev Y2 := P.zy3
def E2 (K : AExit → ASt → Option R) : Y2 → Option R := (Sum.elim (fun x => K (.exit 0) (S2 x)) (fun (g, a, b, c, d, e, f) => K .ret ⟨[(4, .v (.bool g))], [(0, some ⟨.box 23 [.v (.int .i64 a), .v (.int .i64 b), .v (.int .i64 c), .v (.int .i64 d), .v (.int .i64 e), .v (.bool f)], false⟩)], 1, 21⟩))
noncomputable def L2 : oz := fun st K => abx (V2 st) fun x => P.zm3 x (E2 K)
noncomputable def D : Ctx := ({ P := Tryz.prog, G := [(36, yw.spec)], globs := GLO.gx, hints := [(2, ⟨[2, 7, 8, 9], [], [4], [], none, [], []⟩)], loops := [(2, L2)], inl := [] } : Ctx)
theorem anm (K) (next) (x) : jo D (dz Tryz.f52 2) K next (S2 x) = P.zs3 x (fun x => next (S2 x)) (E2 K) := by kernel_rfl
theorem azp : jl D (dz Tryz.f52 2) := gq S2 axf (by kernel_rfl) P.ze3 anm
theorem loops : d9 (Tryz.f52.body.getD .skip) = [dz Tryz.f52 2] := by kernel_rfl
noncomputable def bn : Abs.Spec := fun args K => match args with
 | [.agg [.v (.int .i64 b), .v (.int .i64 c), .v (.int .i64 d), .v (.int .i64 e), .v (.int .i64 f), .v (.bool a)], .sl (.rows .u8 g)] => P.ku b c d e f a g (fun h => K (.v (.bool h)))
 | _ => none
noncomputable def spec : Abs.Spec := fun args K => bn (og [.any, .sl (.rows .u8 [])] args) K
theorem ok0 : Proved Tryz.prog GLO.gx 52 bn := by
 refine dh (D := D) (fn := Tryz.f52) (c := Tryz.f52.body.getD .skip) [.any] (by kernel_rfl) (bf (by kernel_rfl)) (by kernel_rfl) (by kernel_rfl) (by kernel_rfl) ⟨yw.ok, trivial⟩ trivial ?_ ?_
 · rw [loops]; exact ⟨azp, trivial⟩
 · intro args K r h
   unfold bn at h
   split at h
   · rw [P.anu] at h; exact Eq.trans (by kernel_rfl) h
   · cases h
theorem ok : Proved Tryz.prog GLO.gx 52 spec := eu _ ok0
end ku

namespace aga
abbrev X5 := P.zt6
def S5 : X5 → ASt := fun (c, a, b, d) => ⟨[(0, .v (.int .u64 c)), (5, .own 0), (16, .v (.int .i64 a)), (17, .v (.int .i64 b))], [(0, some ⟨.row 5 (.ints .u8 d), false⟩)], 1, 30⟩
def V5 : ASt → Option X5
 | ⟨[(0, .v (.int .u64 c)), (5, .own 0), (16, .v (.int .i64 a)), (17, .v (.int .i64 b))], [(0, some ⟨.row 5 (.ints .u8 d), false⟩)], 1, 30⟩ => some (c, a, b, d)
 | _ => none
theorem al9 (st) (x) (h : V5 st = some x) : st = S5 x := by
 unfold V5 at h
 split at h
 · cases h; rfl
 · cases h
abbrev Y5 := P.zy6
def E5 (K : AExit → ASt → Option R) : Y5 → Option R := (fun x => K (.exit 0) (S5 x))
noncomputable def L5 : oz := fun st K => abx (V5 st) fun x => P.zm6 x (E5 K)
noncomputable def D : Ctx := ({ P := Tryz.prog, G := [], globs := GLO.gx, hints := [(5, ⟨[0, 5, 16, 17], [], [4], [], none, [], []⟩)], loops := [(5, L5)], inl := [] } : Ctx)
theorem aey (K) (next) (x) : jo D (dz Tryz.f119 5) K next (S5 x) = P.zs6 x (fun x => next (S5 x)) (E5 K) := by kernel_rfl
theorem al6 : jl D (dz Tryz.f119 5) := gq S5 al9 (by kernel_rfl) P.ze6 aey
theorem loops : d9 (Tryz.f119.body.getD .skip) = [dz Tryz.f119 5] := by kernel_rfl
noncomputable def bn : Abs.Spec := fun args K => match args with
 | [.v (.int .u64 a), .v (.int .i64 b)] => P.aga a b (fun c => K (.fr 5 (.ints .u8 c)))
 | _ => none
noncomputable def spec : Abs.Spec := bn
theorem ok0 : Proved Tryz.prog GLO.gx 119 bn := by
 refine dh (D := D) (fn := Tryz.f119) (c := Tryz.f119.body.getD .skip) [.fr 5 (.ints .u8 [])] (by kernel_rfl) (bf (by kernel_rfl)) (by kernel_rfl) (by kernel_rfl) (by kernel_rfl) trivial trivial ?_ ?_
 · rw [loops]; exact ⟨al6, trivial⟩
 · intro args K r h
   unfold bn at h
   split at h
   · rw [P.bcr] at h; exact Eq.trans (by kernel_rfl) h
   · cases h
theorem ok : Proved Tryz.prog GLO.gx 119 spec := ok0
end aga

namespace yg
abbrev cdz := P.zt7
def b0i : cdz → ASt := fun (a, b, c) => ⟨[(0, .own 0), (2, .v (.int .i64 a)), (3, .v (.int .i64 b))], [(0, some ⟨.row 5 (.ints .u8 c), false⟩)], 1, 28⟩
def ca2 : ASt → Option cdz
 | ⟨[(0, .own 0), (2, .v (.int .i64 a)), (3, .v (.int .i64 b))], [(0, some ⟨.row 5 (.ints .u8 c), false⟩)], 1, 28⟩ => some (a, b, c)
 | _ => none
theorem bsi (st) (x) (h : ca2 st = some x) : st = b0i x := by
 unfold ca2 at h
 split at h
 · cases h; rfl
 · cases h
abbrev Y1_1 := P.zy7
def cdw (K : AExit → ASt → Option R) : Y1_1 → Option R := (fun x => K (.exit 0) (b0i x))
noncomputable def L1_1 : oz := fun st K => abx (ca2 st) fun x => P.zm7 x (cdw K)
noncomputable def D1 : Ctx := ({ P := Tryz.prog, G := [(119, aga.spec)], globs := GLO.gx, hints := [(1, ⟨[0, 2, 3], [], [], [], none, [], []⟩)], loops := [(1, L1_1)], inl := [] } : Ctx)
noncomputable def D : Ctx := ({ P := Tryz.prog, G := [(119, aga.spec)], globs := GLO.gx, hints := [], loops := [], inl := [(120, ahi D1 Tryz.f120)] } : Ctx)
theorem bqf (K) (next) (x) : jo D1 (dz Tryz.f120 1) K next (b0i x) = P.zs7 x (fun x => next (b0i x)) (cdw K) := by kernel_rfl
theorem bt1 : jl D1 (dz Tryz.f120 1) := gq b0i bsi (by kernel_rfl) P.ze7 bqf
theorem loops : d9 (Tryz.f108.body.getD .skip) = [] := by kernel_rfl
theorem ani : d9 (Tryz.f120.body.getD .skip) = [dz Tryz.f120 1] := by kernel_rfl
noncomputable def bn : Abs.Spec := fun args K => match args with
 | [.v (.int .u64 a), .v (.int .i64 b)] => P.yg a b (fun c => K (.fr 5 (.ints .u8 c)))
 | _ => none
noncomputable def spec : Abs.Spec := bn
theorem ok0 : Proved Tryz.prog GLO.gx 108 bn := by
 refine dh (D := D) (fn := Tryz.f108) (c := Tryz.f108.body.getD .skip) [.fr 5 (.ints .u8 [])] (by kernel_rfl) (bf (by kernel_rfl)) (by kernel_rfl) (by kernel_rfl) (by kernel_rfl) ⟨aga.ok, trivial⟩ ⟨asi (D := D1) (D' := D) (fn := Tryz.f120) (c := Tryz.f120.body.getD .skip) rfl rfl (by kernel_rfl) (bf (by kernel_rfl)) (by kernel_rfl) (by kernel_rfl) (by kernel_rfl) ⟨aga.ok, trivial⟩ trivial (by rw [ani]; exact ⟨bt1, trivial⟩) (fun _ _ _ _ _ h => h), trivial⟩ ?_ ?_
 · rw [loops]; exact trivial
 · intro args K r h
   unfold bn at h
   split at h
   · rw [P.bcu] at h; exact Eq.trans (by kernel_rfl) h
   · cases h
theorem ok : Proved Tryz.prog GLO.gx 108 spec := ok0
end yg

end
