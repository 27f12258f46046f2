/-
  HssTells, part 16: an interpreter of my own over abstract values, the pure functions, the walks and the plain law.
-/

import Derived.Test.YtmipokjdajiimaaDoorHssTellsK
import Derived.Test.YtmipokjdajiimaaDoorHssTellsH
import Derived.Test.YtmipokjdajiimaaDoorProg
import Derived.Test.YtmipokjdajiimaaDoorHssTellsJ
import Derived.Test.YtmipokjdajiimaaDoorHssTellsO
import Derived.KernelRfl
import Derived.Test.YtmipokjdajiimaaDoorHssTellsL

section
open Go Go.Abs Go.Proofs
set_option maxRecDepth 100000
set_option maxHeartbeats 0
set_option linter.unusedVariables false

namespace aau
abbrev X3 := P.bjj
def S3 : X3 → ASt := fun (f, g, a, b, c, d, e) => ⟨[(1, .ptr 0 0), (3, .v (.int .i64 f)), (4, .v (.int .i64 g))], [(0, some ⟨.box 25 [.sl (.cols a [.ints .i64 b, .ints .i64 c]), .sl (.ints .u8 d), .sl (.ints .u8 e)], false⟩)], 1, 54⟩
def V3 : ASt → Option X3
 | ⟨[(1, .ptr 0 0), (3, .v (.int .i64 f)), (4, .v (.int .i64 g))], [(0, some ⟨.box 25 [.sl (.cols a [.ints .i64 b, .ints .i64 c]), .sl (.ints .u8 d), .sl (.ints .u8 e)], false⟩)], 1, 54⟩ => some (f, g, a, b, c, d, e)
 | _ => none
theorem am3 (st) (x) (h : V3 st = some x) : st = S3 x := by
 unfold V3 at h
 split at h
 · cases h; rfl
 · cases h
abbrev Y3 := P.blh
def E3 (K : AExit → ASt → Option R) : Y3 → Option R := (Sum.elim (fun x => K (.exit 0) (S3 x)) (fun (j, f, g, a, b, c, d, e, h, i) => K .ret ⟨[(2, .v (.bool j))], [(1, some ⟨.box 44 [.v (.int .i64 f), .v (.int .i64 g)], false⟩), (1, some ⟨.box 44 [.v (.int .i64 a), .v (.int .i64 b)], false⟩), (0, some ⟨.box 25 [.sl (.cols c [.ints .i64 d, .ints .i64 e]), .sl (.ints .u8 h), .sl (.ints .u8 i)], false⟩)], 2, 54⟩))
noncomputable def L3 : xg := fun st K => af5 (V3 st) fun x => P.bkw x (E3 K)
noncomputable def D : Ctx := ({ P := Tryd.prog, G := [(31, ae2.spec)], globs := GLO.gB, hints := [(3, ⟨[1, 3, 4], [], [2], [], none, [], [], []⟩)], loops := [(3, L3)], inl := [] } : Ctx)
theorem af9 (K) (next) (x) : og D (dw Tryd.f13 3) K next (S3 x) = P.bge x (fun x => next (S3 x)) (E3 K) := by kernel_rfl
theorem an2 : l6 D (dw Tryd.f13 3) := jc S3 am3 (by kernel_rfl) P.bnm af9
theorem loops : bn (Tryd.f13.body.getD .skip) = [dw Tryd.f13 3] := by kernel_rfl
noncomputable def av : Abs.Spec := fun args K => match args with
 | [.agg [.sl (.cols a [.ints .i64 b, .ints .i64 c]), .sl (.ints .u8 e), .sl (.ints .u8 d)]] => P.aau a b c e d (fun f => K (.v (.bool f)))
 | _ => none
noncomputable def spec : Abs.Spec := fun args K => av (o7 [.agg [.sl (.cols 0 [.ints .i64 [], .ints .i64 []]), .sl (.ints .u8 []), .sl (.ints .u8 [])]] args) K
theorem ok0 : Proved Tryd.prog GLO.gB 13 av := by
 refine bq (D := D) (fn := Tryd.f13) (c := Tryd.f13.body.getD .skip) [.any] (by kernel_rfl) (ah (by kernel_rfl)) (by kernel_rfl) (by kernel_rfl) (by kernel_rfl) ⟨ae2.ok, trivial⟩ trivial ?_ ?_
 · rw [loops]; exact ⟨an2, trivial⟩
 · intro args K r h
   unfold av at h
   split at h
   · rw [P.akt] at h; exact Eq.trans (by kernel_rfl) h
   · cases h
theorem ok : Proved Tryd.prog GLO.gB 13 spec := dz _ ok0
end aau

namespace ql
abbrev X5 := P.bhb
def S5 : X5 → ASt := fun (f, g, a, b, c, d, e) => ⟨[(1, .ptr 0 0), (3, .v (.int .u64 f)), (4, .v (.int .i64 g))], [(0, some ⟨.box 25 [.sl (.cols a [.ints .i64 b, .ints .i64 c]), .sl (.ints .u8 d), .sl (.ints .u8 e)], false⟩)], 1, 24⟩
def V5 : ASt → Option X5
 | ⟨[(1, .ptr 0 0), (3, .v (.int .u64 f)), (4, .v (.int .i64 g))], [(0, some ⟨.box 25 [.sl (.cols a [.ints .i64 b, .ints .i64 c]), .sl (.ints .u8 d), .sl (.ints .u8 e)], false⟩)], 1, 24⟩ => some (f, g, a, b, c, d, e)
 | _ => none
theorem avd (st) (x) (h : V5 st = some x) : st = S5 x := by
 unfold V5 at h
 split at h
 · cases h; rfl
 · cases h
abbrev Y5 := P.bmy
def E5 (K : AExit → ASt → Option R) : Y5 → Option R := (fun x => K (.exit 0) (S5 x))
noncomputable def L5 : xg := fun st K => af5 (V5 st) fun x => P.bku x (E5 K)
noncomputable def D : Ctx := ({ P := Tryd.prog, G := [(13, aau.spec)], globs := GLO.gB, hints := [(5, ⟨[1, 3, 4], [], [2], [], none, [], [], []⟩)], loops := [(5, L5)], inl := [] } : Ctx)
theorem anl (K) (next) (x) : og D (dw Tryd.f15 5) K next (S5 x) = P.bg8 x (fun x => next (S5 x)) (E5 K) := by kernel_rfl
theorem avx : l6 D (dw Tryd.f15 5) := jc S5 avd (by kernel_rfl) P.bn4 anl
theorem loops : bn (Tryd.f15.body.getD .skip) = [dw Tryd.f15 5] := by kernel_rfl
noncomputable def av : Abs.Spec := fun args K => match args with
 | [.agg [.sl (.cols a [.ints .i64 b, .ints .i64 c]), .sl (.ints .u8 e), .sl (.ints .u8 d)]] => P.ql a b c e d (fun f => K (.v (.int .u64 f)))
 | _ => none
noncomputable def spec : Abs.Spec := fun args K => av (o7 [.agg [.sl (.cols 0 [.ints .i64 [], .ints .i64 []]), .sl (.ints .u8 []), .sl (.ints .u8 [])]] args) K
theorem ok0 : Proved Tryd.prog GLO.gB 15 av := by
 refine bq (D := D) (fn := Tryd.f15) (c := Tryd.f15.body.getD .skip) [.any] (by kernel_rfl) (ah (by kernel_rfl)) (by kernel_rfl) (by kernel_rfl) (by kernel_rfl) ⟨aau.ok, trivial⟩ trivial ?_ ?_
 · rw [loops]; exact ⟨avx, trivial⟩
 · intro args K r h
   unfold av at h
   split at h
   · rw [P.afo] at h; exact Eq.trans (by kernel_rfl) h
   · cases h
theorem ok : Proved Tryd.prog GLO.gB 15 spec := dz _ ok0
end ql

namespace vw
abbrev X7 := P.bgl
def S7 : X7 → ASt := fun (f, g, a, b, c, d, e, h) => ⟨[(1, .v (.int .u64 f)), (2, .ptr 0 0), (6, .own 1), (7, .v (.int .i64 g))], [(0, some ⟨.box 25 [.sl (.cols a [.ints .i64 b, .ints .i64 c]), .sl (.ints .u8 d), .sl (.ints .u8 e)], false⟩), (1, some ⟨.row 42 (.ints .u32 h), false⟩)], 2, 49⟩
def V7 : ASt → Option X7
 | ⟨[(1, .v (.int .u64 f)), (2, .ptr 0 0), (6, .own 1), (7, .v (.int .i64 g))], [(0, some ⟨.box 25 [.sl (.cols a [.ints .i64 b, .ints .i64 c]), .sl (.ints .u8 d), .sl (.ints .u8 e)], false⟩), (1, some ⟨.row 42 (.ints .u32 h), false⟩)], 2, 49⟩ => some (f, g, a, b, c, d, e, h)
 | _ => none
theorem bmz (st) (x) (h : V7 st = some x) : st = S7 x := by
 unfold V7 at h
 split at h
 · cases h; rfl
 · cases h
abbrev Y7 := P.bmr
def E7 (K : AExit → ASt → Option R) : Y7 → Option R := (fun x => K (.exit 0) (S7 x))
noncomputable def L7 : xg := fun st K => af5 (V7 st) fun x => P.bl8 x (E7 K)
noncomputable def D : Ctx := ({ P := Tryd.prog, G := [(13, aau.spec), (15, ql.spec)], globs := GLO.gB, hints := [(7, ⟨[1, 2, 6, 7], [], [4, 5], [], none, [], [], []⟩)], loops := [(7, L7)], inl := [] } : Ctx)
theorem bhm (K) (next) (x) : og D (dw Tryd.f11 7) K next (S7 x) = P.bhe x (fun x => next (S7 x)) (E7 K) := by kernel_rfl
theorem bl2 : l6 D (dw Tryd.f11 7) := jc S7 bmz (by kernel_rfl) P.bn8 bhm
theorem loops : bn (Tryd.f11.body.getD .skip) = [dw Tryd.f11 7] := by kernel_rfl
noncomputable def av : Abs.Spec := fun args K => match args with
 | [.agg [.sl (.cols a [.ints .i64 b, .ints .i64 c]), .sl (.ints .u8 e), .sl (.ints .u8 d)], .v (.int .u64 f)] => P.vw a b c e d f (fun g h => K (.tuple [.fr 42 (.ints .u32 g), .v (.int .i64 h)]))
 | _ => none
noncomputable def spec : Abs.Spec := fun args K => av (o7 [.agg [.sl (.cols 0 [.ints .i64 [], .ints .i64 []]), .sl (.ints .u8 []), .sl (.ints .u8 [])], .any] args) K
theorem ok0 : Proved Tryd.prog GLO.gB 11 av := by
 refine bq (D := D) (fn := Tryd.f11) (c := Tryd.f11.body.getD .skip) [.fr 42 (.ints .u32 []), .any] (by kernel_rfl) (ah (by kernel_rfl)) (by kernel_rfl) (by kernel_rfl) (by kernel_rfl) ⟨aau.ok, ql.ok, trivial⟩ trivial ?_ ?_
 · rw [loops]; exact ⟨bl2, trivial⟩
 · intro args K r h
   unfold av at h
   split at h
   · rw [P.adg] at h; exact Eq.trans (by kernel_rfl) h
   · cases h
theorem ok : Proved Tryd.prog GLO.gB 11 spec := dz _ ok0
end vw

namespace uh
noncomputable def D : Ctx := ({ P := Tryd.prog, G := [(8, ac4.spec), (9, p9.spec), (10, qc.spec), (11, vw.spec), (12, aa7.spec), (13, aau.spec), (14, qm.spec), (15, ql.spec), (16, mh.spec)], globs := GLO.gB, hints := [], loops := [], inl := [] } : Ctx)
theorem loops : bn (Tryd.f3.body.getD .skip) = [] := by kernel_rfl
noncomputable def av : Abs.Spec := fun args K => match args with
 | [.agg [.sl (.cols a [.ints .i64 b, .ints .i64 c]), .sl (.ints .u8 e), .sl (.ints .u8 d)], .v (.int .u64 f)] => P.uh a b c e d f (fun g => K (.v (.bool g)))
 | _ => none
noncomputable def spec : Abs.Spec := fun args K => av (o7 [.agg [.sl (.cols 0 [.ints .i64 [], .ints .i64 []]), .sl (.ints .u8 []), .sl (.ints .u8 [])], .any] args) K
theorem ok0 : Proved Tryd.prog GLO.gB 3 av := by
 refine bq (D := D) (fn := Tryd.f3) (c := Tryd.f3.body.getD .skip) [.any] (by kernel_rfl) (ah (by kernel_rfl)) (by kernel_rfl) (by kernel_rfl) (by kernel_rfl) ⟨ac4.ok, p9.ok, qc.ok, vw.ok, aa7.ok, aau.ok, qm.ok, ql.ok, mh.ok, trivial⟩ trivial ?_ ?_
 · rw [loops]; exact trivial
 · intro args K r h
   unfold av at h
   split at h
   · rw [P.aga] at h; exact Eq.trans (by kernel_rfl) h
   · cases h
theorem ok : Proved Tryd.prog GLO.gB 3 spec := dz _ ok0
end uh

end
