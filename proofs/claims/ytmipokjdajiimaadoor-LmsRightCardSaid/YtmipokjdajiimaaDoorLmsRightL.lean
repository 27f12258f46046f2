/-
  LmsRight, part 12: an interpreter of my own over abstract values, the pure functions, the walks and the plain law.
-/

import Derived.Test.YtmipokjdajiimaaDoorLmsRightI
import Derived.Test.YtmipokjdajiimaaDoorLmsRightH
import Derived.Test.YtmipokjdajiimaaDoorProg
import Derived.Test.YtmipokjdajiimaaDoorLmsRightJ
import Derived.KernelRfl
import Derived.Test.YtmipokjdajiimaaDoorLmsRightK

section
open Go Go.Abs Go.Proofs
set_option maxRecDepth 100000
set_option maxHeartbeats 0
set_option linter.unusedVariables false

namespace mg
noncomputable def D : Ctx := ({ P := Tryd.prog, G := [], globs := GLO.gB, hints := [], loops := [], inl := [] } : Ctx)
theorem loops : bg (Tryd.f46.body.getD .skip) = [] := by kernel_rfl
noncomputable def av : Abs.Spec := fun args K => match args with
 | [.v (.int .i64 a)] => P.mg a (fun b => K (.v (.int .u64 b)))
 | _ => none
noncomputable def spec : Abs.Spec := av
theorem ok0 : Proved Tryd.prog GLO.gB 46 av := by
 refine cu (D := D) (fn := Tryd.f46) (c := Tryd.f46.body.getD .skip) [.any] (by kernel_rfl) (ah (by kernel_rfl)) (by kernel_rfl) (by kernel_rfl) (by kernel_rfl) trivial trivial ?_ ?_
 · rw [loops]; exact trivial
 · intro args K r h
   unfold av at h
   split at h
   · rw [P.aij] at h; exact Eq.trans (by kernel_rfl) h
   · cases h
theorem ok : Proved Tryd.prog GLO.gB 46 spec := ok0
end mg

namespace om
noncomputable def D : Ctx := ({ P := Tryd.prog, G := [], globs := GLO.gB, hints := [], loops := [], inl := [] } : Ctx)
theorem loops : bg (Tryd.f53.body.getD .skip) = [] := by kernel_rfl
noncomputable def av : Abs.Spec := fun args K => match args with
 | [.v (.int .i64 a)] => P.om a (fun b => K (.v (.int .u64 b)))
 | _ => none
noncomputable def spec : Abs.Spec := av
theorem ok0 : Proved Tryd.prog GLO.gB 53 av := by
 refine cu (D := D) (fn := Tryd.f53) (c := Tryd.f53.body.getD .skip) [.any] (by kernel_rfl) (ah (by kernel_rfl)) (by kernel_rfl) (by kernel_rfl) (by kernel_rfl) trivial trivial ?_ ?_
 · rw [loops]; exact trivial
 · intro args K r h
   unfold av at h
   split at h
   · rw [P.aei] at h; exact Eq.trans (by kernel_rfl) h
   · cases h
theorem ok : Proved Tryd.prog GLO.gB 53 spec := ok0
end om

namespace w9
noncomputable def D : Ctx := ({ P := Tryd.prog, G := [(46, mg.spec), (53, om.spec)], globs := GLO.gB, hints := [], loops := [], inl := [] } : Ctx)
theorem loops : bg (Tryd.f30.body.getD .skip) = [] := by kernel_rfl
noncomputable def av : Abs.Spec := fun args K => match args with
 | [.agg [.v (.int .i64 a), .v (.int .i64 b)]] => P.w9 a b (fun c => K (.v (.bool c)))
 | _ => none
noncomputable def spec : Abs.Spec := av
theorem ok0 : Proved Tryd.prog GLO.gB 30 av := by
 refine cu (D := D) (fn := Tryd.f30) (c := Tryd.f30.body.getD .skip) [.any] (by kernel_rfl) (ah (by kernel_rfl)) (by kernel_rfl) (by kernel_rfl) (by kernel_rfl) ⟨mg.ok, om.ok, trivial⟩ trivial ?_ ?_
 · rw [loops]; exact trivial
 · intro args K r h
   unfold av at h
   split at h
   · rw [P.afu] at h; exact Eq.trans (by kernel_rfl) h
   · cases h
theorem ok : Proved Tryd.prog GLO.gB 30 spec := ok0
end w9

namespace lu
noncomputable def D : Ctx := ({ P := Tryd.prog, G := [], globs := GLO.gB, hints := [], loops := [], inl := [] } : Ctx)
theorem loops : bg (Tryd.f74.body.getD .skip) = [] := by kernel_rfl
noncomputable def av : Abs.Spec := fun args K => match args with
 | [.v (.int .i64 d)] => P.lu d (fun a b c e => K (.tuple [.agg [.v (.int .i64 a), .v (.int .i64 b), .v (.int .i64 c)], .v (.bool e)]))
 | _ => none
noncomputable def spec : Abs.Spec := av
theorem ok0 : Proved Tryd.prog GLO.gB 74 av := by
 refine cu (D := D) (fn := Tryd.f74) (c := Tryd.f74.body.getD .skip) [.any, .any] (by kernel_rfl) (ah (by kernel_rfl)) (by kernel_rfl) (by kernel_rfl) (by kernel_rfl) trivial trivial ?_ ?_
 · rw [loops]; exact trivial
 · intro args K r h
   unfold av at h
   split at h
   · rw [P.zi] at h; exact Eq.trans (by kernel_rfl) h
   · cases h
theorem ok : Proved Tryd.prog GLO.gB 74 spec := ok0
end lu

namespace jf
noncomputable def D : Ctx := ({ P := Tryd.prog, G := [(74, lu.spec)], globs := GLO.gB, hints := [], loops := [], inl := [] } : Ctx)
theorem loops : bg (Tryd.f49.body.getD .skip) = [] := by kernel_rfl
noncomputable def av : Abs.Spec := fun args K => match args with
 | [.v (.int .i64 a)] => P.jf a (fun b => K (.v (.int .i64 b)))
 | _ => none
noncomputable def spec : Abs.Spec := av
theorem ok0 : Proved Tryd.prog GLO.gB 49 av := by
 refine cu (D := D) (fn := Tryd.f49) (c := Tryd.f49.body.getD .skip) [.any] (by kernel_rfl) (ah (by kernel_rfl)) (by kernel_rfl) (by kernel_rfl) (by kernel_rfl) ⟨lu.ok, trivial⟩ trivial ?_ ?_
 · rw [loops]; exact trivial
 · intro args K r h
   unfold av at h
   split at h
   · rw [P.aj2] at h; exact Eq.trans (by kernel_rfl) h
   · cases h
theorem ok : Proved Tryd.prog GLO.gB 49 spec := ok0
end jf

namespace y5
noncomputable def D : Ctx := ({ P := Tryd.prog, G := [(30, w9.spec), (49, jf.spec)], globs := GLO.gB, hints := [], loops := [], inl := [] } : Ctx)
theorem loops : bg (Tryd.f26.body.getD .skip) = [] := by kernel_rfl
noncomputable def av : Abs.Spec := fun args K => match args with
 | [.agg [.v (.int .i64 a), .v (.int .i64 b)]] => P.y5 a b (fun c => K (.v (.int .i64 c)))
 | _ => none
noncomputable def spec : Abs.Spec := av
theorem ok0 : Proved Tryd.prog GLO.gB 26 av := by
 refine cu (D := D) (fn := Tryd.f26) (c := Tryd.f26.body.getD .skip) [.any] (by kernel_rfl) (ah (by kernel_rfl)) (by kernel_rfl) (by kernel_rfl) (by kernel_rfl) ⟨w9.ok, jf.ok, trivial⟩ trivial ?_ ?_
 · rw [loops]; exact trivial
 · intro args K r h
   unfold av at h
   split at h
   · rw [P.amz] at h; exact Eq.trans (by kernel_rfl) h
   · cases h
theorem ok : Proved Tryd.prog GLO.gB 26 spec := ok0
end y5

namespace jl
abbrev X3 := P.zt6
def S3 : X3 → ASt := fun (a, b, c, d) => ⟨[(3, .v (.int .u64 a)), (6, .sl (.ints .u8 b)), (7, .v (.int .i64 c)), (8, .v (.int .i64 d))], [], 0, 19⟩
def V3 : ASt → Option X3
 | ⟨[(3, .v (.int .u64 a)), (6, .sl (.ints .u8 b)), (7, .v (.int .i64 c)), (8, .v (.int .i64 d))], [], 0, 19⟩ => some (a, b, c, d)
 | _ => none
theorem avd (st) (x) (h : V3 st = some x) : st = S3 x := by
 unfold V3 at h
 split at h
 · cases h; rfl
 · cases h
abbrev Y3 := P.zy6
def E3 (K : AExit → ASt → Option R) : Y3 → Option R := (fun x => K (.exit 0) (S3 x))
noncomputable def L3 : aat := fun st K => ahy (V3 st) fun x => P.zm6 x (E3 K)
noncomputable def D : Ctx := ({ P := Tryd.prog, G := [], globs := GLO.gB, hints := [(3, ⟨[3, 6, 7, 8], [], [2], [], none, [], [], []⟩)], loops := [(3, L3)], inl := [] } : Ctx)
theorem an8 (K) (next) (x) : qw D (eu Tryd.f32 3) K next (S3 x) = P.zs6 x (fun x => next (S3 x)) (E3 K) := by kernel_rfl
theorem awn : oh D (eu Tryd.f32 3) := jv S3 avd (by kernel_rfl) P.ze6 an8
theorem loops : bg (Tryd.f32.body.getD .skip) = [eu Tryd.f32 3] := by kernel_rfl
noncomputable def av : Abs.Spec := fun args K => match args with
 | [.sl (.ints .u8 a)] => P.jl a (fun b => K (.v (.int .u64 b)))
 | _ => none
noncomputable def spec : Abs.Spec := fun args K => av (qb [.sl (.ints .u8 [])] args) K
theorem ok0 : Proved Tryd.prog GLO.gB 32 av := by
 refine cu (D := D) (fn := Tryd.f32) (c := Tryd.f32.body.getD .skip) [.any] (by kernel_rfl) (ah (by kernel_rfl)) (by kernel_rfl) (by kernel_rfl) (by kernel_rfl) trivial trivial ?_ ?_
 · rw [loops]; exact ⟨awn, trivial⟩
 · intro args K r h
   unfold av at h
   split at h
   · rw [P.an0] at h; exact Eq.trans (by kernel_rfl) h
   · cases h
theorem ok : Proved Tryd.prog GLO.gB 32 spec := dz _ ok0
end jl

namespace vo
abbrev X5 := P.zt7
def S5 : X5 → ASt := fun (c, d, e, a, b) => ⟨[(0, .sl (.ints .u8 c)), (1, .sl (.ints .u8 d)), (5, .v (.int .u8 e)), (13, .v (.int .i64 a)), (14, .v (.int .i64 b))], [], 0, 31⟩
def V5 : ASt → Option X5
 | ⟨[(0, .sl (.ints .u8 c)), (1, .sl (.ints .u8 d)), (5, .v (.int .u8 e)), (13, .v (.int .i64 a)), (14, .v (.int .i64 b))], [], 0, 31⟩ => some (c, d, e, a, b)
 | _ => none
theorem bgl (st) (x) (h : V5 st = some x) : st = S5 x := by
 unfold V5 at h
 split at h
 · cases h; rfl
 · cases h
abbrev Y5 := P.zy7
def E5 (K : AExit → ASt → Option R) : Y5 → Option R := (fun x => K (.exit 0) (S5 x))
noncomputable def L5 : aat := fun st K => ahy (V5 st) fun x => P.zm7 x (E5 K)
noncomputable def D : Ctx := ({ P := Tryd.prog, G := [], globs := GLO.gB, hints := [(5, ⟨[0, 1, 5, 13, 14], [], [4], [], none, [], [], []⟩)], loops := [(5, L5)], inl := [] } : Ctx)
theorem bbp (K) (next) (x) : qw D (eu Tryd.f51 5) K next (S5 x) = P.zs7 x (fun x => next (S5 x)) (E5 K) := by kernel_rfl
theorem bgg : oh D (eu Tryd.f51 5) := jv S5 bgl (by kernel_rfl) P.ze7 bbp
theorem loops : bg (Tryd.f51.body.getD .skip) = [eu Tryd.f51 5] := by kernel_rfl
noncomputable def av : Abs.Spec := fun args K => match args with
 | [.sl (.ints .u8 a), .sl (.ints .u8 b)] => P.vo a b (fun c => K (.v (.bool c)))
 | _ => none
noncomputable def spec : Abs.Spec := fun args K => av (qb [.sl (.ints .u8 []), .sl (.ints .u8 [])] args) K
theorem ok0 : Proved Tryd.prog GLO.gB 51 av := by
 refine cu (D := D) (fn := Tryd.f51) (c := Tryd.f51.body.getD .skip) [.any] (by kernel_rfl) (ah (by kernel_rfl)) (by kernel_rfl) (by kernel_rfl) (by kernel_rfl) trivial trivial ?_ ?_
 · rw [loops]; exact ⟨bgg, trivial⟩
 · intro args K r h
   unfold av at h
   split at h
   · rw [P.alx] at h; exact Eq.trans (by kernel_rfl) h
   · cases h
theorem ok : Proved Tryd.prog GLO.gB 51 spec := dz _ ok0
end vo

namespace l8
noncomputable def D : Ctx := ({ P := Tryd.prog, G := [], globs := GLO.gB, hints := [], loops := [], inl := [] } : Ctx)
theorem loops : bg (Tryd.f83.body.getD .skip) = [] := by kernel_rfl
noncomputable def av : Abs.Spec := fun args K => match args with
 | [.v (.slice none 0 0), .v (.int .i64 a)] => P.l8 a (fun b => K (.fr 5 (.ints .u8 b)))
 | _ => none
noncomputable def spec : Abs.Spec := av
theorem ok0 : Proved Tryd.prog GLO.gB 83 av := by
 refine apu (D := D) (fn := Tryd.f83) (c := Tryd.f83.body.getD .skip) 5 (.ints .u8 []) (by kernel_rfl) (ah (by kernel_rfl)) (by kernel_rfl) (by kernel_rfl) (by kernel_rfl) trivial trivial ?_ ?_
 · rw [loops]; exact trivial
 · intro args K r h
   unfold av at h
   split at h
   · rw [P.aeh] at h; exact Eq.trans (by kernel_rfl) h
   · cases h
theorem ok : Proved Tryd.prog GLO.gB 83 spec := ok0
end l8

namespace gu
abbrev X3 := P.zt2
def S3 : X3 → ASt := fun (c, d, e, a, b) => ⟨[(0, .sl (.rows .u8 c)), (3, .v (.int .i64 d)), (9, .sl (.rows .u8 e)), (10, .v (.int .i64 a)), (11, .v (.int .i64 b))], [], 0, 36⟩
def V3 : ASt → Option X3
 | ⟨[(0, .sl (.rows .u8 c)), (3, .v (.int .i64 d)), (9, .sl (.rows .u8 e)), (10, .v (.int .i64 a)), (11, .v (.int .i64 b))], [], 0, 36⟩ => some (c, d, e, a, b)
 | _ => none
theorem avd (st) (x) (h : V3 st = some x) : st = S3 x := by
 unfold V3 at h
 split at h
 · cases h; rfl
 · cases h
abbrev Y3 := P.zy2
abbrev X11 := P.zt3
def S11 : X11 → ASt := fun (a, b, c, d) => ⟨[(6, .own 1), (25, .sl (.rows .u8 a)), (26, .v (.int .i64 b)), (27, .v (.int .i64 c))], [(1, some ⟨.row 5 (.ints .u8 d), false⟩), (0, none)], 2, 36⟩
def V11 : ASt → Option X11
 | ⟨[(6, .own 1), (25, .sl (.rows .u8 a)), (26, .v (.int .i64 b)), (27, .v (.int .i64 c))], [(1, some ⟨.row 5 (.ints .u8 d), false⟩), (0, none)], 2, 36⟩ => some (a, b, c, d)
 | _ => none
theorem bje (st) (x) (h : V11 st = some x) : st = S11 x := by
 unfold V11 at h
 split at h
 · cases h; rfl
 · cases h
abbrev Y11 := P.zy3
def E3 (K : AExit → ASt → Option R) : Y3 → Option R := (fun x => K (.exit 0) (S3 x))
noncomputable def L3 : aat := fun st K => ahy (V3 st) fun x => P.zm2 x (E3 K)
def E11 (K : AExit → ASt → Option R) : Y11 → Option R := (fun x => K (.exit 2) (S11 x))
noncomputable def L11 : aat := fun st K => ahy (V11 st) fun x => P.zm3 x (E11 K)
noncomputable def D : Ctx := ({ P := Tryd.prog, G := [(83, l8.spec)], globs := GLO.gB, hints := [(11, ⟨[25, 26, 27], [(6, 5, .ints .u8 [])], [2], [], none, [], [], []⟩), (3, ⟨[0, 3, 9, 10, 11], [], [2], [], none, [], [], []⟩)], loops := [(3, L3), (11, L11)], inl := [] } : Ctx)
theorem an8 (K) (next) (x) : qw D (eu Tryd.f62 3) K next (S3 x) = P.zs2 x (fun x => next (S3 x)) (E3 K) := by kernel_rfl
theorem awn : oh D (eu Tryd.f62 3) := jv S3 avd (by kernel_rfl) P.ze2 an8
theorem bgj (K) (next) (x) : qw D (eu Tryd.f62 11) K next (S11 x) = P.zs3 x (fun x => next (S11 x)) (E11 K) := by kernel_rfl
theorem bjy : oh D (eu Tryd.f62 11) := jv S11 bje (by kernel_rfl) P.ze3 bgj
theorem loops : bg (Tryd.f62.body.getD .skip) = [eu Tryd.f62 3, eu Tryd.f62 11] := by kernel_rfl
noncomputable def av : Abs.Spec := fun args K => match args with
 | [.sl (.rows .u8 a)] => P.gu a (fun b => K (.fr 5 (.ints .u8 b)))
 | _ => none
noncomputable def spec : Abs.Spec := fun args K => av (qb [.sl (.rows .u8 [])] args) K
theorem ok0 : Proved Tryd.prog GLO.gB 62 av := by
 refine cu (D := D) (fn := Tryd.f62) (c := Tryd.f62.body.getD .skip) [.fr 5 (.ints .u8 [])] (by kernel_rfl) (ah (by kernel_rfl)) (by kernel_rfl) (by kernel_rfl) (by kernel_rfl) ⟨l8.ok, trivial⟩ trivial ?_ ?_
 · rw [loops]; exact ⟨awn, bjy, trivial⟩
 · intro args K r h
   unfold av at h
   split at h
   · rw [P.ac2] at h; exact Eq.trans (by kernel_rfl) h
   · cases h
theorem ok : Proved Tryd.prog GLO.gB 62 spec := dz _ ok0
end gu

namespace d9
noncomputable def D : Ctx := ({ P := Tryd.prog, G := [(62, gu.spec)], globs := GLO.gB, hints := [], loops := [], inl := [] } : Ctx)
theorem loops : bg (Tryd.f37.body.getD .skip) = [] := by kernel_rfl
noncomputable def av : Abs.Spec := fun args K => match args with
 | [.sl (.rows .u8 a)] => P.d9 a (fun b => K (.fr 5 (.ints .u8 b)))
 | _ => none
noncomputable def spec : Abs.Spec := fun args K => av (qb [.sl (.rows .u8 [])] args) K
theorem ok0 : Proved Tryd.prog GLO.gB 37 av := by
 refine cu (D := D) (fn := Tryd.f37) (c := Tryd.f37.body.getD .skip) [.fr 5 (.ints .u8 [])] (by kernel_rfl) (ah (by kernel_rfl)) (by kernel_rfl) (by kernel_rfl) (by kernel_rfl) ⟨gu.ok, trivial⟩ trivial ?_ ?_
 · rw [loops]; exact trivial
 · intro args K r h
   unfold av at h
   split at h
   · rw [P.alu] at h; exact Eq.trans (by kernel_rfl) h
   · cases h
theorem ok : Proved Tryd.prog GLO.gB 37 spec := dz _ ok0
end d9

namespace um
noncomputable def D : Ctx := ({ P := Tryd.prog, G := [], globs := GLO.gB, hints := [], loops := [], inl := [] } : Ctx)
theorem loops : bg (Tryd.f48.body.getD .skip) = [] := by kernel_rfl
noncomputable def av : Abs.Spec := fun args K => match args with
 | [.v (.int .u64 a)] => P.um a (fun b => K (.v (.int .i64 b)))
 | _ => none
noncomputable def spec : Abs.Spec := av
theorem ok0 : Proved Tryd.prog GLO.gB 48 av := by
 refine cu (D := D) (fn := Tryd.f48) (c := Tryd.f48.body.getD .skip) [.any] (by kernel_rfl) (ah (by kernel_rfl)) (by kernel_rfl) (by kernel_rfl) (by kernel_rfl) trivial trivial ?_ ?_
 · rw [loops]; exact trivial
 · intro args K r h
   unfold av at h
   split at h
   · rw [P.al1] at h; exact Eq.trans (by kernel_rfl) h
   · cases h
theorem ok : Proved Tryd.prog GLO.gB 48 spec := ok0
end um

namespace qj
noncomputable def D : Ctx := ({ P := Tryd.prog, G := [], globs := GLO.gB, hints := [], loops := [], inl := [] } : Ctx)
theorem loops : bg (Tryd.f50.body.getD .skip) = [] := by kernel_rfl
noncomputable def av : Abs.Spec := fun args K => match args with
 | [.v (.int .u64 a)] => P.qj a (fun b => K (.v (.int .i64 b)))
 | _ => none
noncomputable def spec : Abs.Spec := av
theorem ok0 : Proved Tryd.prog GLO.gB 50 av := by
 refine cu (D := D) (fn := Tryd.f50) (c := Tryd.f50.body.getD .skip) [.any] (by kernel_rfl) (ah (by kernel_rfl)) (by kernel_rfl) (by kernel_rfl) (by kernel_rfl) trivial trivial ?_ ?_
 · rw [loops]; exact trivial
 · intro args K r h
   unfold av at h
   split at h
   · rw [P.ajd] at h; exact Eq.trans (by kernel_rfl) h
   · cases h
theorem ok : Proved Tryd.prog GLO.gB 50 spec := ok0
end qj

namespace abp
noncomputable def D : Ctx := ({ P := Tryd.prog, G := [(26, y5.spec), (32, jl.spec), (37, d9.spec), (48, um.spec), (49, jf.spec), (50, qj.spec)], globs := GLO.gB, hints := [], loops := [], inl := [] } : Ctx)
theorem loops : bg (Tryd.f25.body.getD .skip) = [] := by kernel_rfl
noncomputable def av : Abs.Spec := fun args K => match args with
 | [.sl (.ints .u8 c)] => P.abp c (fun d a b e f => K (.tuple [.fr 5 (.ints .u8 d), .agg [.v (.int .i64 a), .v (.int .i64 b)], .fr 5 (.ints .u8 e), .v (.int .i64 f)]))
 | _ => none
noncomputable def spec : Abs.Spec := fun args K => av (qb [.sl (.ints .u8 [])] args) K
theorem ok0 : Proved Tryd.prog GLO.gB 25 av := by
 refine cu (D := D) (fn := Tryd.f25) (c := Tryd.f25.body.getD .skip) [.fr 5 (.ints .u8 []), .any, .fr 5 (.ints .u8 []), .any] (by kernel_rfl) (ah (by kernel_rfl)) (by kernel_rfl) (by kernel_rfl) (by kernel_rfl) ⟨y5.ok, jl.ok, d9.ok, um.ok, jf.ok, qj.ok, trivial⟩ trivial ?_ ?_
 · rw [loops]; exact trivial
 · intro args K r h
   unfold av at h
   split at h
   · rw [P.aqb] at h; exact Eq.trans (by kernel_rfl) h
   · cases h
theorem ok : Proved Tryd.prog GLO.gB 25 spec := dz _ ok0
end abp

namespace acs
abbrev X5 := P.zt4
def S5 : X5 → ASt := fun (c, a, b, d) => ⟨[(0, .v (.int .u64 c)), (5, .own 0), (16, .v (.int .i64 a)), (17, .v (.int .i64 b))], [(0, some ⟨.row 5 (.ints .u8 d), false⟩)], 1, 30⟩
def V5 : ASt → Option X5
 | ⟨[(0, .v (.int .u64 c)), (5, .own 0), (16, .v (.int .i64 a)), (17, .v (.int .i64 b))], [(0, some ⟨.row 5 (.ints .u8 d), false⟩)], 1, 30⟩ => some (c, a, b, d)
 | _ => none
theorem bgl (st) (x) (h : V5 st = some x) : st = S5 x := by
 unfold V5 at h
 split at h
 · cases h; rfl
 · cases h
abbrev Y5 := P.zy4
def E5 (K : AExit → ASt → Option R) : Y5 → Option R := (fun x => K (.exit 0) (S5 x))
noncomputable def L5 : aat := fun st K => ahy (V5 st) fun x => P.zm4 x (E5 K)
noncomputable def D : Ctx := ({ P := Tryd.prog, G := [], globs := GLO.gB, hints := [(5, ⟨[0, 5, 16, 17], [], [4], [], none, [], [], []⟩)], loops := [(5, L5)], inl := [] } : Ctx)
theorem bbp (K) (next) (x) : qw D (eu Tryd.f63 5) K next (S5 x) = P.zs4 x (fun x => next (S5 x)) (E5 K) := by kernel_rfl
theorem bgg : oh D (eu Tryd.f63 5) := jv S5 bgl (by kernel_rfl) P.ze4 bbp
theorem loops : bg (Tryd.f63.body.getD .skip) = [eu Tryd.f63 5] := by kernel_rfl
noncomputable def av : Abs.Spec := fun args K => match args with
 | [.v (.int .u64 a), .v (.int .i64 b)] => P.acs a b (fun c => K (.fr 5 (.ints .u8 c)))
 | _ => none
noncomputable def spec : Abs.Spec := av
theorem ok0 : Proved Tryd.prog GLO.gB 63 av := by
 refine cu (D := D) (fn := Tryd.f63) (c := Tryd.f63.body.getD .skip) [.fr 5 (.ints .u8 [])] (by kernel_rfl) (ah (by kernel_rfl)) (by kernel_rfl) (by kernel_rfl) (by kernel_rfl) trivial trivial ?_ ?_
 · rw [loops]; exact ⟨bgg, trivial⟩
 · intro args K r h
   unfold av at h
   split at h
   · rw [P.apk] at h; exact Eq.trans (by kernel_rfl) h
   · cases h
theorem ok : Proved Tryd.prog GLO.gB 63 spec := ok0
end acs

namespace jg
abbrev bn8 := P.zt5
def bh7 : bn8 → ASt := fun (a, b, c) => ⟨[(0, .own 0), (2, .v (.int .i64 a)), (3, .v (.int .i64 b))], [(0, some ⟨.row 5 (.ints .u8 c), false⟩)], 1, 28⟩
def bmb : ASt → Option bn8
 | ⟨[(0, .own 0), (2, .v (.int .i64 a)), (3, .v (.int .i64 b))], [(0, some ⟨.row 5 (.ints .u8 c), false⟩)], 1, 28⟩ => some (a, b, c)
 | _ => none
theorem bfl (st) (x) (h : bmb st = some x) : st = bh7 x := by
 unfold bmb at h
 split at h
 · cases h; rfl
 · cases h
abbrev Y1_1 := P.zy5
def bou (K : AExit → ASt → Option R) : Y1_1 → Option R := (fun x => K (.exit 0) (bh7 x))
noncomputable def L1_1 : aat := fun st K => ahy (bmb st) fun x => P.zm5 x (bou K)
noncomputable def D1 : Ctx := ({ P := Tryd.prog, G := [(63, acs.spec)], globs := GLO.gB, hints := [(1, ⟨[0, 2, 3], [], [], [], none, [], [], []⟩)], loops := [(1, L1_1)], inl := [] } : Ctx)
noncomputable def D : Ctx := ({ P := Tryd.prog, G := [(63, acs.spec)], globs := GLO.gB, hints := [], loops := [], inl := [(64, agk D1 Tryd.f64)] } : Ctx)
theorem bdc (K) (next) (x) : qw D1 (eu Tryd.f64 1) K next (bh7 x) = P.zs5 x (fun x => next (bh7 x)) (bou K) := by kernel_rfl
theorem bfo : oh D1 (eu Tryd.f64 1) := jv bh7 bfl (by kernel_rfl) P.ze5 bdc
theorem loops : bg (Tryd.f38.body.getD .skip) = [] := by kernel_rfl
theorem asq : bg (Tryd.f64.body.getD .skip) = [eu Tryd.f64 1] := by kernel_rfl
noncomputable def av : Abs.Spec := fun args K => match args with
 | [.v (.int .u64 a), .v (.int .i64 b)] => P.jg a b (fun c => K (.fr 5 (.ints .u8 c)))
 | _ => none
noncomputable def spec : Abs.Spec := av
theorem ok0 : Proved Tryd.prog GLO.gB 38 av := by
 refine cu (D := D) (fn := Tryd.f38) (c := Tryd.f38.body.getD .skip) [.fr 5 (.ints .u8 [])] (by kernel_rfl) (ah (by kernel_rfl)) (by kernel_rfl) (by kernel_rfl) (by kernel_rfl) ⟨acs.ok, trivial⟩ ⟨auh (D := D1) (D' := D) (fn := Tryd.f64) (c := Tryd.f64.body.getD .skip) rfl rfl (by kernel_rfl) (ah (by kernel_rfl)) (by kernel_rfl) (by kernel_rfl) (by kernel_rfl) ⟨acs.ok, trivial⟩ trivial (by rw [asq]; exact ⟨bfo, trivial⟩) (fun _ _ _ _ _ h => h), trivial⟩ ?_ ?_
 · rw [loops]; exact trivial
 · intro args K r h
   unfold av at h
   split at h
   · rw [P.aqg] at h; exact Eq.trans (by kernel_rfl) h
   · cases h
theorem ok : Proved Tryd.prog GLO.gB 38 spec := ok0
end jg

namespace abe
noncomputable def D : Ctx := ({ P := Tryd.prog, G := [(37, d9.spec), (38, jg.spec), (46, mg.spec), (53, om.spec)], globs := GLO.gB, hints := [], loops := [], inl := [] } : Ctx)
theorem loops : bg (Tryd.f43.body.getD .skip) = [] := by kernel_rfl
noncomputable def av : Abs.Spec := fun args K => match args with
 | [.agg [.v (.int .i64 a), .v (.int .i64 b)]] => P.abe a b (fun c => K (.fr 5 (.ints .u8 c)))
 | _ => none
noncomputable def spec : Abs.Spec := av
theorem ok0 : Proved Tryd.prog GLO.gB 43 av := by
 refine cu (D := D) (fn := Tryd.f43) (c := Tryd.f43.body.getD .skip) [.fr 5 (.ints .u8 [])] (by kernel_rfl) (ah (by kernel_rfl)) (by kernel_rfl) (by kernel_rfl) (by kernel_rfl) ⟨d9.ok, jg.ok, mg.ok, om.ok, trivial⟩ trivial ?_ ?_
 · rw [loops]; exact trivial
 · intro args K r h
   unfold av at h
   split at h
   · rw [P.aod] at h; exact Eq.trans (by kernel_rfl) h
   · cases h
theorem ok : Proved Tryd.prog GLO.gB 43 spec := ok0
end abe

namespace qz
noncomputable def D : Ctx := ({ P := Tryd.prog, G := [(74, lu.spec)], globs := GLO.gB, hints := [], loops := [], inl := [] } : Ctx)
theorem loops : bg (Tryd.f90.body.getD .skip) = [] := by kernel_rfl
noncomputable def av : Abs.Spec := fun args K => match args with
 | [.v (.int .i64 g), .sl (.ints .u8 h), .v (.int .u32 i)] => P.qz g h i (fun e d f a b c j => K (.tuple [.agg [.v (.int .i64 e), .sl (.ints .u8 d), .v (.int .u32 f), .v (.int .i64 a), .v (.int .i64 b), .v (.int .i64 c)], .v (.int .i64 j)]))
 | _ => none
noncomputable def spec : Abs.Spec := fun args K => av (qb [.any, .sl (.ints .u8 []), .any] args) K
theorem ok0 : Proved Tryd.prog GLO.gB 90 av := by
 refine cu (D := D) (fn := Tryd.f90) (c := Tryd.f90.body.getD .skip) [.agg [.any, .sl (.ints .u8 []), .any, .any, .any, .any], .any] (by kernel_rfl) (ah (by kernel_rfl)) (by kernel_rfl) (by kernel_rfl) (by kernel_rfl) ⟨lu.ok, trivial⟩ trivial ?_ ?_
 · rw [loops]; exact trivial
 · intro args K r h
   unfold av at h
   split at h
   · rw [P.ah5] at h; exact Eq.trans (by kernel_rfl) h
   · cases h
theorem ok : Proved Tryd.prog GLO.gB 90 spec := dz _ ok0
end qz

namespace l7
noncomputable def D : Ctx := ({ P := Tryd.prog, G := [], globs := GLO.gB, hints := [], loops := [], inl := [] } : Ctx)
theorem loops : bg (Tryd.f110.body.getD .skip) = [] := by kernel_rfl
noncomputable def av : Abs.Spec := fun args K => match args with
 | [.v (.int .i64 a)] => P.l7 a (fun b => K (.v (.int .u64 b)))
 | _ => none
noncomputable def spec : Abs.Spec := av
theorem ok0 : Proved Tryd.prog GLO.gB 110 av := by
 refine cu (D := D) (fn := Tryd.f110) (c := Tryd.f110.body.getD .skip) [.any] (by kernel_rfl) (ah (by kernel_rfl)) (by kernel_rfl) (by kernel_rfl) (by kernel_rfl) trivial trivial ?_ ?_
 · rw [loops]; exact trivial
 · intro args K r h
   unfold av at h
   split at h
   · rw [P.ah2] at h; exact Eq.trans (by kernel_rfl) h
   · cases h
theorem ok : Proved Tryd.prog GLO.gB 110 spec := ok0
end l7

namespace aas
noncomputable def D : Ctx := ({ P := Tryd.prog, G := [(110, l7.spec)], globs := GLO.gB, hints := [], loops := [], inl := [] } : Ctx)
theorem loops : bg (Tryd.f99.body.getD .skip) = [] := by kernel_rfl
noncomputable def av : Abs.Spec := fun args K => match args with
 | [] => P.aas (fun f e a b c d => K (.agg [.v (.int .i64 f), .v (.int .i64 e), .arr .i64 3 a, .arr .i64 3 b, .arr .i64 3 c, .arr .i64 3 d, .fn (.func 110) [] []]))
 | _ => none
noncomputable def spec : Abs.Spec := av
theorem ok0 : Proved Tryd.prog GLO.gB 99 av := by
 refine cu (D := D) (fn := Tryd.f99) (c := Tryd.f99.body.getD .skip) [.any] (by kernel_rfl) (ah (by kernel_rfl)) (by kernel_rfl) (by kernel_rfl) (by kernel_rfl) ⟨l7.ok, trivial⟩ trivial ?_ ?_
 · rw [loops]; exact trivial
 · intro args K r h
   unfold av at h
   split at h
   · rw [P.al6] at h; exact Eq.trans (by kernel_rfl) h
   · cases h
theorem ok : Proved Tryd.prog GLO.gB 99 spec := ok0
end aas

namespace lq
noncomputable def D : Ctx := ({ P := Tryd.prog, G := [], globs := GLO.gB, hints := [], loops := [], inl := [] } : Ctx)
theorem loops : bg (Tryd.f108.body.getD .skip) = [] := by kernel_rfl
noncomputable def av : Abs.Spec := fun args K => match args with
 | [.v (.int .i64 a)] => P.lq a (fun b => K (.v (.int .u32 b)))
 | _ => none
noncomputable def spec : Abs.Spec := av
theorem ok0 : Proved Tryd.prog GLO.gB 108 av := by
 refine cu (D := D) (fn := Tryd.f108) (c := Tryd.f108.body.getD .skip) [.any] (by kernel_rfl) (ah (by kernel_rfl)) (by kernel_rfl) (by kernel_rfl) (by kernel_rfl) trivial trivial ?_ ?_
 · rw [loops]; exact trivial
 · intro args K r h
   unfold av at h
   split at h
   · rw [P.ah3] at h; exact Eq.trans (by kernel_rfl) h
   · cases h
theorem ok : Proved Tryd.prog GLO.gB 108 spec := ok0
end lq

end
