/-
  HssOnce, part 16: an interpreter of my own over abstract values, the pure functions, the walks and the plain law.
-/

import Derived.Test.YtmipokjdajiimaaDoorHssOnceK
import Derived.Test.YtmipokjdajiimaaDoorHssOnceH
import Derived.Test.YtmipokjdajiimaaDoorProg
import Derived.Test.YtmipokjdajiimaaDoorHssOnceJ
import Derived.Test.YtmipokjdajiimaaDoorHssOnceO
import Derived.KernelRfl
import Derived.Test.YtmipokjdajiimaaDoorHssOnceL

section
open Go Go.Abs Go.Proofs
set_option maxRecDepth 100000
set_option maxHeartbeats 0
set_option linter.unusedVariables false

namespace ael
abbrev X3 := P.bi0
def S3 : X3 → ASt := fun (f, g, a, b, c, d, e) => ⟨[(1, .ptr 0 0), (3, .v (.int .i64 f)), (4, .v (.int .i64 g))], [(0, some ⟨.box 25 [.sl (.cols a [.ints .i64 b, .ints .i64 c]), .sl (.ints .u8 d), .sl (.ints .u8 e)], false⟩)], 1, 54⟩
def V3 : ASt → Option X3
 | ⟨[(1, .ptr 0 0), (3, .v (.int .i64 f)), (4, .v (.int .i64 g))], [(0, some ⟨.box 25 [.sl (.cols a [.ints .i64 b, .ints .i64 c]), .sl (.ints .u8 d), .sl (.ints .u8 e)], false⟩)], 1, 54⟩ => some (f, g, a, b, c, d, e)
 | _ => none
theorem anv (st) (x) (h : V3 st = some x) : st = S3 x := by
 unfold V3 at h
 split at h
 · cases h; rfl
 · cases h
abbrev Y3 := P.bk5
def E3 (K : AExit → ASt → Option R) : Y3 → Option R := (Sum.elim (fun x => K (.exit 0) (S3 x)) (fun (j, f, g, a, b, c, d, e, h, i) => K .ret ⟨[(2, .v (.bool j))], [(1, some ⟨.box 44 [.v (.int .i64 f), .v (.int .i64 g)], false⟩), (1, some ⟨.box 44 [.v (.int .i64 a), .v (.int .i64 b)], false⟩), (0, some ⟨.box 25 [.sl (.cols c [.ints .i64 d, .ints .i64 e]), .sl (.ints .u8 h), .sl (.ints .u8 i)], false⟩)], 2, 54⟩))
noncomputable def L3 : wz := fun st K => afx (V3 st) fun x => P.bkh x (E3 K)
noncomputable def D : Ctx := ({ P := Tryd.prog, G := [(31, aeu.spec)], globs := GLO.gB, hints := [(3, ⟨[1, 3, 4], [], [2], [], none, [], [], []⟩)], loops := [(3, L3)], inl := [] } : Ctx)
theorem agc (K) (next) (x) : oq D (dx Tryd.f13 3) K next (S3 x) = P.bf0 x (fun x => next (S3 x)) (E3 K) := by kernel_rfl
theorem amc : l7 D (dx Tryd.f13 3) := jd S3 anv (by kernel_rfl) P.bnm agc
theorem loops : bn (Tryd.f13.body.getD .skip) = [dx Tryd.f13 3] := by kernel_rfl
noncomputable def av : Abs.Spec := fun args K => match args with
 | [.agg [.sl (.cols a [.ints .i64 b, .ints .i64 c]), .sl (.ints .u8 e), .sl (.ints .u8 d)]] => P.ael a b c e d (fun f => K (.v (.bool f)))
 | _ => none
noncomputable def spec : Abs.Spec := fun args K => av (pq [.agg [.sl (.cols 0 [.ints .i64 [], .ints .i64 []]), .sl (.ints .u8 []), .sl (.ints .u8 [])]] args) K
theorem ok0 : Proved Tryd.prog GLO.gB 13 av := by
 refine cu (D := D) (fn := Tryd.f13) (c := Tryd.f13.body.getD .skip) [.any] (by kernel_rfl) (ah (by kernel_rfl)) (by kernel_rfl) (by kernel_rfl) (by kernel_rfl) ⟨aeu.ok, trivial⟩ trivial ?_ ?_
 · rw [loops]; exact ⟨amc, trivial⟩
 · intro args K r h
   unfold av at h
   split at h
   · rw [P.akg] at h; exact Eq.trans (by kernel_rfl) h
   · cases h
theorem ok : Proved Tryd.prog GLO.gB 13 spec := dz _ ok0
end ael

namespace wm
abbrev X13 := P.bie
def S13 : X13 → ASt := fun (i, j, f, g, h, a, b, c, d, e, k) => ⟨[(1, .v (.int .u64 i)), (3, .ptr 0 0), (7, .v (.int .u64 j)), (8, .own 2), (14, .v (.int .u64 f)), (85, .own 2), (86, .v (.int .i64 g)), (87, .v (.int .i64 h))], [(0, some ⟨.box 25 [.sl (.cols a [.ints .i64 b, .ints .i64 c]), .sl (.ints .u8 d), .sl (.ints .u8 e)], false⟩), (2, some ⟨.row 42 (.ints .u32 k), false⟩)], 40, 129⟩
def V13 : ASt → Option X13
 | ⟨[(1, .v (.int .u64 i)), (3, .ptr 0 0), (7, .v (.int .u64 j)), (8, .own 2), (14, .v (.int .u64 f)), (85, .own 2), (86, .v (.int .i64 g)), (87, .v (.int .i64 h))], [(0, some ⟨.box 25 [.sl (.cols a [.ints .i64 b, .ints .i64 c]), .sl (.ints .u8 d), .sl (.ints .u8 e)], false⟩), (2, some ⟨.row 42 (.ints .u32 k), false⟩)], 40, 129⟩ => some (i, j, f, g, h, a, b, c, d, e, k)
 | _ => none
theorem bgh (st) (x) (h : V13 st = some x) : st = S13 x := by
 unfold V13 at h
 split at h
 · cases h; rfl
 · cases h
abbrev Y13 := P.bji
def E13 (K : AExit → ASt → Option R) : Y13 → Option R := (Sum.elim (fun x => K (.exit 0) (S13 x)) (fun (f, a, b, c, d, e, g) => K .ret ⟨[(6, .v (.bool f))], [(0, some ⟨.box 25 [.sl (.cols a [.ints .i64 b, .ints .i64 c]), .sl (.ints .u8 d), .sl (.ints .u8 e)], false⟩), (2, some ⟨.row 42 (.ints .u32 g), false⟩)], 40, 129⟩))
noncomputable def L13 : wz := fun st K => afx (V13 st) fun x => P.bly x (E13 K)
noncomputable def D : Ctx := ({ P := Tryd.prog, G := [(8, acw.spec), (9, p8.spec), (10, oz.spec), (13, ael.spec), (14, tq.spec), (16, pz.spec)], globs := GLO.gB, hints := [(13, ⟨[1, 3, 7, 8, 14, 85, 86, 87], [], [6], [], some (40, [0, 2]), [], [], []⟩)], loops := [(13, L13)], inl := [] } : Ctx)
theorem bem (K) (next) (x) : oq D (dx Tryd.f5 13) K next (S13 x) = P.bgc x (fun x => next (S13 x)) (E13 K) := by kernel_rfl
theorem bf9 : l7 D (dx Tryd.f5 13) := jd S13 bgh (by kernel_rfl) P.bm1 bem
theorem loops : bn (Tryd.f5.body.getD .skip) = [dx Tryd.f5 13] := by kernel_rfl
noncomputable def av : Abs.Spec := fun args K => match args with
 | [.agg [.sl (.cols a [.ints .i64 b, .ints .i64 c]), .sl (.ints .u8 e), .sl (.ints .u8 d)], .v (.int .u64 f), .v (.int .u64 g)] => P.wm a b c e d f g (fun h => K (.v (.bool h)))
 | _ => none
noncomputable def spec : Abs.Spec := fun args K => av (pq [.agg [.sl (.cols 0 [.ints .i64 [], .ints .i64 []]), .sl (.ints .u8 []), .sl (.ints .u8 [])], .any, .any] args) K
theorem ok0 : Proved Tryd.prog GLO.gB 5 av := by
 refine cu (D := D) (fn := Tryd.f5) (c := Tryd.f5.body.getD .skip) [.any] (by kernel_rfl) (ah (by kernel_rfl)) (by kernel_rfl) (by kernel_rfl) (by kernel_rfl) ⟨acw.ok, p8.ok, oz.ok, ael.ok, tq.ok, pz.ok, trivial⟩ trivial ?_ ?_
 · rw [loops]; exact ⟨bf9, trivial⟩
 · intro args K r h
   unfold av at h
   split at h
   · rw [P.ahe] at h; exact Eq.trans (by kernel_rfl) h
   · cases h
theorem ok : Proved Tryd.prog GLO.gB 5 spec := dz _ ok0
end wm

end
