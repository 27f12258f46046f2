/-
  HssRight, part 13: an interpreter of my own over abstract values, the pure functions, the walks and the plain law.
-/

import Derived.Test.YtmipokjdajiimaaDoorHssRightI
import Derived.Test.YtmipokjdajiimaaDoorHssRightH
import Derived.Test.YtmipokjdajiimaaDoorProg
import Derived.Test.YtmipokjdajiimaaDoorHssRightJ
import Derived.KernelRfl

section
open Go Go.Abs Go.Proofs
set_option maxRecDepth 100000
set_option maxHeartbeats 0
set_option linter.unusedVariables false

namespace pz
noncomputable def D : Ctx := ({ P := Tryd.prog, G := [], globs := GLO.gB, hints := [], loops := [], inl := [] } : Ctx)
theorem loops : dh (Tryd.f46.body.getD .skip) = [] := by kernel_rfl
noncomputable def bn : Abs.Spec := fun args K => match args with
 | [.v (.int .i64 a)] => P.pz a (fun b => K (.v (.int .u64 b)))
 | _ => none
noncomputable def spec : Abs.Spec := bn
theorem ok0 : Proved Tryd.prog GLO.gB 46 bn := by
 refine dx (D := D) (fn := Tryd.f46) (c := Tryd.f46.body.getD .skip) [.any] (by kernel_rfl) (aj (by kernel_rfl)) (by kernel_rfl) (by kernel_rfl) (by kernel_rfl) trivial trivial ?_ ?_
 · rw [loops]; exact trivial
 · intro args K r h
   unfold bn at h
   split at h
   · rw [P.aok] at h; exact Eq.trans (by kernel_rfl) h
   · cases h
theorem ok : Proved Tryd.prog GLO.gB 46 spec := ok0
end pz

namespace qm
noncomputable def D : Ctx := ({ P := Tryd.prog, G := [], globs := GLO.gB, hints := [], loops := [], inl := [] } : Ctx)
theorem loops : dh (Tryd.f53.body.getD .skip) = [] := by kernel_rfl
noncomputable def bn : Abs.Spec := fun args K => match args with
 | [.v (.int .i64 a)] => P.qm a (fun b => K (.v (.int .u64 b)))
 | _ => none
noncomputable def spec : Abs.Spec := bn
theorem ok0 : Proved Tryd.prog GLO.gB 53 bn := by
 refine dx (D := D) (fn := Tryd.f53) (c := Tryd.f53.body.getD .skip) [.any] (by kernel_rfl) (aj (by kernel_rfl)) (by kernel_rfl) (by kernel_rfl) (by kernel_rfl) trivial trivial ?_ ?_
 · rw [loops]; exact trivial
 · intro args K r h
   unfold bn at h
   split at h
   · rw [P.af9] at h; exact Eq.trans (by kernel_rfl) h
   · cases h
theorem ok : Proved Tryd.prog GLO.gB 53 spec := ok0
end qm

namespace acg
noncomputable def D : Ctx := ({ P := Tryd.prog, G := [(46, pz.spec), (53, qm.spec)], globs := GLO.gB, hints := [], loops := [], inl := [] } : Ctx)
theorem loops : dh (Tryd.f30.body.getD .skip) = [] := by kernel_rfl
noncomputable def bn : Abs.Spec := fun args K => match args with
 | [.agg [.v (.int .i64 a), .v (.int .i64 b)]] => P.acg a b (fun c => K (.v (.bool c)))
 | _ => none
noncomputable def spec : Abs.Spec := bn
theorem ok0 : Proved Tryd.prog GLO.gB 30 bn := by
 refine dx (D := D) (fn := Tryd.f30) (c := Tryd.f30.body.getD .skip) [.any] (by kernel_rfl) (aj (by kernel_rfl)) (by kernel_rfl) (by kernel_rfl) (by kernel_rfl) ⟨pz.ok, qm.ok, trivial⟩ trivial ?_ ?_
 · rw [loops]; exact trivial
 · intro args K r h
   unfold bn at h
   split at h
   · rw [P.aq3] at h; exact Eq.trans (by kernel_rfl) h
   · cases h
theorem ok : Proved Tryd.prog GLO.gB 30 spec := ok0
end acg

namespace acv
abbrev X5 := P.zt2
def S5 : X5 → ASt := fun (k, d, e, f, i, j, a, b, c, g, h) => ⟨[(1, .ptr 0 0), (3, .v (.int .i64 k)), (11, .sl (.cols d [.ints .i64 e, .ints .i64 f])), (12, .v (.int .i64 i)), (13, .v (.int .i64 j))], [(0, some ⟨.box 25 [.sl (.cols a [.ints .i64 b, .ints .i64 c]), .sl (.ints .u8 g), .sl (.ints .u8 h)], false⟩)], 1, 50⟩
def V5 : ASt → Option X5
 | ⟨[(1, .ptr 0 0), (3, .v (.int .i64 k)), (11, .sl (.cols d [.ints .i64 e, .ints .i64 f])), (12, .v (.int .i64 i)), (13, .v (.int .i64 j))], [(0, some ⟨.box 25 [.sl (.cols a [.ints .i64 b, .ints .i64 c]), .sl (.ints .u8 g), .sl (.ints .u8 h)], false⟩)], 1, 50⟩ => some (k, d, e, f, i, j, a, b, c, g, h)
 | _ => none
theorem blx (st) (x) (h : V5 st = some x) : st = S5 x := by
 unfold V5 at h
 split at h
 · cases h; rfl
 · cases h
abbrev Y5 := P.zy2
def E5 (K : AExit → ASt → Option R) : Y5 → Option R := (Sum.elim (fun x => K (.exit 0) (S5 x)) (fun (j, f, g, a, b, c, d, e, h, i) => K .ret ⟨[(2, .v (.bool j))], [(1, some ⟨.box 44 [.v (.int .i64 f), .v (.int .i64 g)], false⟩), (1, some ⟨.box 44 [.v (.int .i64 a), .v (.int .i64 b)], false⟩), (0, some ⟨.box 25 [.sl (.cols c [.ints .i64 d, .ints .i64 e]), .sl (.ints .u8 h), .sl (.ints .u8 i)], false⟩)], 2, 50⟩))
noncomputable def L5 : aah := fun st K => akb (V5 st) fun x => P.zm2 x (E5 K)
noncomputable def D : Ctx := ({ P := Tryd.prog, G := [(30, acg.spec)], globs := GLO.gB, hints := [(5, ⟨[1, 3, 11, 12, 13], [], [2], [], none, [], [], []⟩)], loops := [(5, L5)], inl := [] } : Ctx)
theorem bds (K) (next) (x) : rz D (fu Tryd.f12 5) K next (S5 x) = P.zs2 x (fun x => next (S5 x)) (E5 K) := by kernel_rfl
theorem bli : pq D (fu Tryd.f12 5) := jq S5 blx (by kernel_rfl) P.ze2 bds
theorem loops : dh (Tryd.f12.body.getD .skip) = [fu Tryd.f12 5] := by kernel_rfl
noncomputable def bn : Abs.Spec := fun args K => match args with
 | [.agg [.sl (.cols a [.ints .i64 b, .ints .i64 c]), .sl (.ints .u8 e), .sl (.ints .u8 d)]] => P.acv a b c e d (fun f => K (.v (.bool f)))
 | _ => none
noncomputable def spec : Abs.Spec := fun args K => bn (p9 [.agg [.sl (.cols 0 [.ints .i64 [], .ints .i64 []]), .sl (.ints .u8 []), .sl (.ints .u8 [])]] args) K
theorem ok0 : Proved Tryd.prog GLO.gB 12 bn := by
 refine dx (D := D) (fn := Tryd.f12) (c := Tryd.f12.body.getD .skip) [.any] (by kernel_rfl) (aj (by kernel_rfl)) (by kernel_rfl) (by kernel_rfl) (by kernel_rfl) ⟨acg.ok, trivial⟩ trivial ?_ ?_
 · rw [loops]; exact ⟨bli, trivial⟩
 · intro args K r h
   unfold bn at h
   split at h
   · rw [P.amo] at h; exact Eq.trans (by kernel_rfl) h
   · cases h
theorem ok : Proved Tryd.prog GLO.gB 12 spec := dz _ ok0
end acv

namespace ab0
abbrev X3 := P.zt3
def S3 : X3 → ASt := fun (d, a, b, c, e, f) => ⟨[(3, .v (.int .i64 d)), (7, .sl (.cols a [.ints .i64 b, .ints .i64 c])), (8, .v (.int .i64 e)), (9, .v (.int .i64 f))], [], 40, 19⟩
def V3 : ASt → Option X3
 | ⟨[(3, .v (.int .i64 d)), (7, .sl (.cols a [.ints .i64 b, .ints .i64 c])), (8, .v (.int .i64 e)), (9, .v (.int .i64 f))], [], 40, 19⟩ => some (d, a, b, c, e, f)
 | _ => none
theorem bbg (st) (x) (h : V3 st = some x) : st = S3 x := by
 unfold V3 at h
 split at h
 · cases h; rfl
 · cases h
abbrev Y3 := P.zy3
def E3 (K : AExit → ASt → Option R) : Y3 → Option R := (fun x => K (.exit 0) (S3 x))
noncomputable def L3 : aah := fun st K => akb (V3 st) fun x => P.zm3 x (E3 K)
noncomputable def D : Ctx := ({ P := Tryd.prog, G := [], globs := GLO.gB, hints := [(3, ⟨[3, 7, 8, 9], [], [2], [], some (40, []), [], [], []⟩)], loops := [(3, L3)], inl := [] } : Ctx)
theorem aqt (K) (next) (x) : rz D (fu Tryd.f29 3) K next (S3 x) = P.zs3 x (fun x => next (S3 x)) (E3 K) := by kernel_rfl
theorem bca : pq D (fu Tryd.f29 3) := jq S3 bbg (by kernel_rfl) P.ze3 aqt
theorem loops : dh (Tryd.f29.body.getD .skip) = [fu Tryd.f29 3] := by kernel_rfl
noncomputable def bn : Abs.Spec := fun args K => match args with
 | [.agg [.sl (.cols a [.ints .i64 b, .ints .i64 c]), .sl (.ints .u8 e), .sl (.ints .u8 d)]] => P.ab0 a b c e d (fun f => K (.v (.int .i64 f)))
 | _ => none
noncomputable def spec : Abs.Spec := fun args K => bn (p9 [.agg [.sl (.cols 0 [.ints .i64 [], .ints .i64 []]), .sl (.ints .u8 []), .sl (.ints .u8 [])]] args) K
theorem ok0 : Proved Tryd.prog GLO.gB 29 bn := by
 refine dx (D := D) (fn := Tryd.f29) (c := Tryd.f29.body.getD .skip) [.any] (by kernel_rfl) (aj (by kernel_rfl)) (by kernel_rfl) (by kernel_rfl) (by kernel_rfl) trivial trivial ?_ ?_
 · rw [loops]; exact ⟨bca, trivial⟩
 · intro args K r h
   unfold bn at h
   split at h
   · rw [P.axh] at h; exact Eq.trans (by kernel_rfl) h
   · cases h
theorem ok : Proved Tryd.prog GLO.gB 29 spec := dz _ ok0
end ab0

namespace yw
noncomputable def D : Ctx := ({ P := Tryd.prog, G := [(12, acv.spec), (29, ab0.spec)], globs := GLO.gB, hints := [], loops := [], inl := [] } : Ctx)
theorem loops : dh (Tryd.f14.body.getD .skip) = [] := by kernel_rfl
noncomputable def bn : Abs.Spec := fun args K => match args with
 | [.agg [.sl (.cols a [.ints .i64 b, .ints .i64 c]), .sl (.ints .u8 e), .sl (.ints .u8 d)]] => P.yw a b c e d (fun f => K (.v (.int .u64 f)))
 | _ => none
noncomputable def spec : Abs.Spec := fun args K => bn (p9 [.agg [.sl (.cols 0 [.ints .i64 [], .ints .i64 []]), .sl (.ints .u8 []), .sl (.ints .u8 [])]] args) K
theorem ok0 : Proved Tryd.prog GLO.gB 14 bn := by
 refine dx (D := D) (fn := Tryd.f14) (c := Tryd.f14.body.getD .skip) [.any] (by kernel_rfl) (aj (by kernel_rfl)) (by kernel_rfl) (by kernel_rfl) (by kernel_rfl) ⟨acv.ok, ab0.ok, trivial⟩ trivial ?_ ?_
 · rw [loops]; exact trivial
 · intro args K r h
   unfold bn at h
   split at h
   · rw [P.aot] at h; exact Eq.trans (by kernel_rfl) h
   · cases h
theorem ok : Proved Tryd.prog GLO.gB 14 spec := dz _ ok0
end yw

namespace qg
abbrev X8 := P.zt4
def S8 : X8 → ASt := fun (g, h, a, b, c, d, e, f) => ⟨[(6, .own 40), (1, .v (.int .u64 g)), (7, .v (.int .i64 h)), (23, .sl (.cols a [.ints .i64 b, .ints .i64 c])), (24, .v (.int .i64 d)), (25, .v (.int .i64 e))], [(40, some ⟨.row 42 (.ints .u32 f), false⟩)], 41, 47⟩
def V8 : ASt → Option X8
 | ⟨[(6, .own 40), (1, .v (.int .u64 g)), (7, .v (.int .i64 h)), (23, .sl (.cols a [.ints .i64 b, .ints .i64 c])), (24, .v (.int .i64 d)), (25, .v (.int .i64 e))], [(40, some ⟨.row 42 (.ints .u32 f), false⟩)], 41, 47⟩ => some (g, h, a, b, c, d, e, f)
 | _ => none
theorem bho (st) (x) (h : V8 st = some x) : st = S8 x := by
 unfold V8 at h
 split at h
 · cases h; rfl
 · cases h
abbrev Y8 := P.zy4
def E8 (K : AExit → ASt → Option R) : Y8 → Option R := (fun x => K (.exit 1) (S8 x))
noncomputable def L8 : aah := fun st K => akb (V8 st) fun x => P.zm4 x (E8 K)
noncomputable def D : Ctx := ({ P := Tryd.prog, G := [(12, acv.spec), (29, ab0.spec)], globs := GLO.gB, hints := [(8, ⟨[1, 7, 23, 24, 25], [(6, 42, .ints .u32 [])], [4, 5], [], some (40, []), [], [], []⟩)], loops := [(8, L8)], inl := [] } : Ctx)
theorem avn (K) (next) (x) : rz D (fu Tryd.f10 8) K next (S8 x) = P.zs4 x (fun x => next (S8 x)) (E8 K) := by kernel_rfl
theorem bgs : pq D (fu Tryd.f10 8) := jq S8 bho (by kernel_rfl) P.ze4 avn
theorem loops : dh (Tryd.f10.body.getD .skip) = [fu Tryd.f10 8] := by kernel_rfl
noncomputable def bn : Abs.Spec := fun args K => match args with
 | [.agg [.sl (.cols a [.ints .i64 b, .ints .i64 c]), .sl (.ints .u8 e), .sl (.ints .u8 d)], .v (.int .u64 f)] => P.qg a b c e d f (fun g h => K (.tuple [.fr 42 (.ints .u32 g), .v (.int .i64 h)]))
 | _ => none
noncomputable def spec : Abs.Spec := fun args K => bn (p9 [.agg [.sl (.cols 0 [.ints .i64 [], .ints .i64 []]), .sl (.ints .u8 []), .sl (.ints .u8 [])], .any] args) K
theorem ok0 : Proved Tryd.prog GLO.gB 10 bn := by
 refine dx (D := D) (fn := Tryd.f10) (c := Tryd.f10.body.getD .skip) [.fr 42 (.ints .u32 []), .any] (by kernel_rfl) (aj (by kernel_rfl)) (by kernel_rfl) (by kernel_rfl) (by kernel_rfl) ⟨acv.ok, ab0.ok, trivial⟩ trivial ?_ ?_
 · rw [loops]; exact ⟨bgs, trivial⟩
 · intro args K r h
   unfold bn at h
   split at h
   · rw [P.aqm] at h; exact Eq.trans (by kernel_rfl) h
   · cases h
theorem ok : Proved Tryd.prog GLO.gB 10 spec := dz _ ok0
end qg

namespace jh
abbrev X3 := P.zt5
def S3 : X3 → ASt := fun (a, b, c, d) => ⟨[(3, .v (.int .u64 a)), (6, .sl (.ints .u8 b)), (7, .v (.int .i64 c)), (8, .v (.int .i64 d))], [], 0, 19⟩
def V3 : ASt → Option X3
 | ⟨[(3, .v (.int .u64 a)), (6, .sl (.ints .u8 b)), (7, .v (.int .i64 c)), (8, .v (.int .i64 d))], [], 0, 19⟩ => some (a, b, c, d)
 | _ => none
theorem bbg (st) (x) (h : V3 st = some x) : st = S3 x := by
 unfold V3 at h
 split at h
 · cases h; rfl
 · cases h
abbrev Y3 := P.zy5
def E3 (K : AExit → ASt → Option R) : Y3 → Option R := (fun x => K (.exit 0) (S3 x))
noncomputable def L3 : aah := fun st K => akb (V3 st) fun x => P.zm5 x (E3 K)
noncomputable def D : Ctx := ({ P := Tryd.prog, G := [], globs := GLO.gB, hints := [(3, ⟨[3, 6, 7, 8], [], [2], [], none, [], [], []⟩)], loops := [(3, L3)], inl := [] } : Ctx)
theorem aqt (K) (next) (x) : rz D (fu Tryd.f32 3) K next (S3 x) = P.zs5 x (fun x => next (S3 x)) (E3 K) := by kernel_rfl
theorem bca : pq D (fu Tryd.f32 3) := jq S3 bbg (by kernel_rfl) P.ze5 aqt
theorem loops : dh (Tryd.f32.body.getD .skip) = [fu Tryd.f32 3] := by kernel_rfl
noncomputable def bn : Abs.Spec := fun args K => match args with
 | [.sl (.ints .u8 a)] => P.jh a (fun b => K (.v (.int .u64 b)))
 | _ => none
noncomputable def spec : Abs.Spec := fun args K => bn (p9 [.sl (.ints .u8 [])] args) K
theorem ok0 : Proved Tryd.prog GLO.gB 32 bn := by
 refine dx (D := D) (fn := Tryd.f32) (c := Tryd.f32.body.getD .skip) [.any] (by kernel_rfl) (aj (by kernel_rfl)) (by kernel_rfl) (by kernel_rfl) (by kernel_rfl) trivial trivial ?_ ?_
 · rw [loops]; exact ⟨bca, trivial⟩
 · intro args K r h
   unfold bn at h
   split at h
   · rw [P.awt] at h; exact Eq.trans (by kernel_rfl) h
   · cases h
theorem ok : Proved Tryd.prog GLO.gB 32 spec := dz _ ok0
end jh

namespace nk
noncomputable def D : Ctx := ({ P := Tryd.prog, G := [], globs := GLO.gB, hints := [], loops := [], inl := [] } : Ctx)
theorem loops : dh (Tryd.f83.body.getD .skip) = [] := by kernel_rfl
noncomputable def bn : Abs.Spec := fun args K => match args with
 | [.v (.slice none 0 0), .v (.int .i64 a)] => P.nk a (fun b => K (.fr 5 (.ints .u8 b)))
 | _ => none
noncomputable def spec : Abs.Spec := bn
theorem ok0 : Proved Tryd.prog GLO.gB 83 bn := by
 refine azu (D := D) (fn := Tryd.f83) (c := Tryd.f83.body.getD .skip) 5 (.ints .u8 []) (by kernel_rfl) (aj (by kernel_rfl)) (by kernel_rfl) (by kernel_rfl) (by kernel_rfl) trivial trivial ?_ ?_
 · rw [loops]; exact trivial
 · intro args K r h
   unfold bn at h
   split at h
   · rw [P.agi] at h; exact Eq.trans (by kernel_rfl) h
   · cases h
theorem ok : Proved Tryd.prog GLO.gB 83 spec := ok0
end nk

namespace iq
abbrev X3 := P.zt6
def S3 : X3 → ASt := fun (c, d, e, a, b) => ⟨[(0, .sl (.rows .u8 c)), (3, .v (.int .i64 d)), (9, .sl (.rows .u8 e)), (10, .v (.int .i64 a)), (11, .v (.int .i64 b))], [], 0, 36⟩
def V3 : ASt → Option X3
 | ⟨[(0, .sl (.rows .u8 c)), (3, .v (.int .i64 d)), (9, .sl (.rows .u8 e)), (10, .v (.int .i64 a)), (11, .v (.int .i64 b))], [], 0, 36⟩ => some (c, d, e, a, b)
 | _ => none
theorem bbg (st) (x) (h : V3 st = some x) : st = S3 x := by
 unfold V3 at h
 split at h
 · cases h; rfl
 · cases h
abbrev Y3 := P.zy6
abbrev X11 := P.zt7
def S11 : X11 → ASt := fun (a, b, c, d) => ⟨[(6, .own 1), (25, .sl (.rows .u8 a)), (26, .v (.int .i64 b)), (27, .v (.int .i64 c))], [(1, some ⟨.row 5 (.ints .u8 d), false⟩), (0, none)], 2, 36⟩
def V11 : ASt → Option X11
 | ⟨[(6, .own 1), (25, .sl (.rows .u8 a)), (26, .v (.int .i64 b)), (27, .v (.int .i64 c))], [(1, some ⟨.row 5 (.ints .u8 d), false⟩), (0, none)], 2, 36⟩ => some (a, b, c, d)
 | _ => none
theorem bvu (st) (x) (h : V11 st = some x) : st = S11 x := by
 unfold V11 at h
 split at h
 · cases h; rfl
 · cases h
abbrev Y11 := P.zy7
def E3 (K : AExit → ASt → Option R) : Y3 → Option R := (fun x => K (.exit 0) (S3 x))
noncomputable def L3 : aah := fun st K => akb (V3 st) fun x => P.zm6 x (E3 K)
def E11 (K : AExit → ASt → Option R) : Y11 → Option R := (fun x => K (.exit 2) (S11 x))
noncomputable def L11 : aah := fun st K => akb (V11 st) fun x => P.zm7 x (E11 K)
noncomputable def D : Ctx := ({ P := Tryd.prog, G := [(83, nk.spec)], globs := GLO.gB, hints := [(11, ⟨[25, 26, 27], [(6, 5, .ints .u8 [])], [2], [], none, [], [], []⟩), (3, ⟨[0, 3, 9, 10, 11], [], [2], [], none, [], [], []⟩)], loops := [(3, L3), (11, L11)], inl := [] } : Ctx)
theorem aqt (K) (next) (x) : rz D (fu Tryd.f62 3) K next (S3 x) = P.zs6 x (fun x => next (S3 x)) (E3 K) := by kernel_rfl
theorem bca : pq D (fu Tryd.f62 3) := jq S3 bbg (by kernel_rfl) P.ze6 aqt
theorem btk (K) (next) (x) : rz D (fu Tryd.f62 11) K next (S11 x) = P.zs7 x (fun x => next (S11 x)) (E11 K) := by kernel_rfl
theorem bvv : pq D (fu Tryd.f62 11) := jq S11 bvu (by kernel_rfl) P.ze7 btk
theorem loops : dh (Tryd.f62.body.getD .skip) = [fu Tryd.f62 3, fu Tryd.f62 11] := by kernel_rfl
noncomputable def bn : Abs.Spec := fun args K => match args with
 | [.sl (.rows .u8 a)] => P.iq a (fun b => K (.fr 5 (.ints .u8 b)))
 | _ => none
noncomputable def spec : Abs.Spec := fun args K => bn (p9 [.sl (.rows .u8 [])] args) K
theorem ok0 : Proved Tryd.prog GLO.gB 62 bn := by
 refine dx (D := D) (fn := Tryd.f62) (c := Tryd.f62.body.getD .skip) [.fr 5 (.ints .u8 [])] (by kernel_rfl) (aj (by kernel_rfl)) (by kernel_rfl) (by kernel_rfl) (by kernel_rfl) ⟨nk.ok, trivial⟩ trivial ?_ ?_
 · rw [loops]; exact ⟨bca, bvv, trivial⟩
 · intro args K r h
   unfold bn at h
   split at h
   · rw [P.ae1] at h; exact Eq.trans (by kernel_rfl) h
   · cases h
theorem ok : Proved Tryd.prog GLO.gB 62 spec := dz _ ok0
end iq

namespace eu
noncomputable def D : Ctx := ({ P := Tryd.prog, G := [(62, iq.spec)], globs := GLO.gB, hints := [], loops := [], inl := [] } : Ctx)
theorem loops : dh (Tryd.f37.body.getD .skip) = [] := by kernel_rfl
noncomputable def bn : Abs.Spec := fun args K => match args with
 | [.sl (.rows .u8 a)] => P.eu a (fun b => K (.fr 5 (.ints .u8 b)))
 | _ => none
noncomputable def spec : Abs.Spec := fun args K => bn (p9 [.sl (.rows .u8 [])] args) K
theorem ok0 : Proved Tryd.prog GLO.gB 37 bn := by
 refine dx (D := D) (fn := Tryd.f37) (c := Tryd.f37.body.getD .skip) [.fr 5 (.ints .u8 [])] (by kernel_rfl) (aj (by kernel_rfl)) (by kernel_rfl) (by kernel_rfl) (by kernel_rfl) ⟨iq.ok, trivial⟩ trivial ?_ ?_
 · rw [loops]; exact trivial
 · intro args K r h
   unfold bn at h
   split at h
   · rw [P.as7] at h; exact Eq.trans (by kernel_rfl) h
   · cases h
theorem ok : Proved Tryd.prog GLO.gB 37 spec := dz _ ok0
end eu

namespace ni
noncomputable def D : Ctx := ({ P := Tryd.prog, G := [], globs := GLO.gB, hints := [], loops := [], inl := [] } : Ctx)
theorem loops : dh (Tryd.f74.body.getD .skip) = [] := by kernel_rfl
noncomputable def bn : Abs.Spec := fun args K => match args with
 | [.v (.int .i64 d)] => P.ni d (fun a b c e => K (.tuple [.agg [.v (.int .i64 a), .v (.int .i64 b), .v (.int .i64 c)], .v (.bool e)]))
 | _ => none
noncomputable def spec : Abs.Spec := bn
theorem ok0 : Proved Tryd.prog GLO.gB 74 bn := by
 refine dx (D := D) (fn := Tryd.f74) (c := Tryd.f74.body.getD .skip) [.any, .any] (by kernel_rfl) (aj (by kernel_rfl)) (by kernel_rfl) (by kernel_rfl) (by kernel_rfl) trivial trivial ?_ ?_
 · rw [loops]; exact trivial
 · intro args K r h
   unfold bn at h
   split at h
   · rw [P.aav] at h; exact Eq.trans (by kernel_rfl) h
   · cases h
theorem ok : Proved Tryd.prog GLO.gB 74 spec := ok0
end ni

namespace jk
noncomputable def D : Ctx := ({ P := Tryd.prog, G := [(74, ni.spec)], globs := GLO.gB, hints := [], loops := [], inl := [] } : Ctx)
theorem loops : dh (Tryd.f49.body.getD .skip) = [] := by kernel_rfl
noncomputable def bn : Abs.Spec := fun args K => match args with
 | [.v (.int .i64 a)] => P.jk a (fun b => K (.v (.int .i64 b)))
 | _ => none
noncomputable def spec : Abs.Spec := bn
theorem ok0 : Proved Tryd.prog GLO.gB 49 bn := by
 refine dx (D := D) (fn := Tryd.f49) (c := Tryd.f49.body.getD .skip) [.any] (by kernel_rfl) (aj (by kernel_rfl)) (by kernel_rfl) (by kernel_rfl) (by kernel_rfl) ⟨ni.ok, trivial⟩ trivial ?_ ?_
 · rw [loops]; exact trivial
 · intro args K r h
   unfold bn at h
   split at h
   · rw [P.ao9] at h; exact Eq.trans (by kernel_rfl) h
   · cases h
theorem ok : Proved Tryd.prog GLO.gB 49 spec := ok0
end jk

namespace afw
noncomputable def D : Ctx := ({ P := Tryd.prog, G := [(30, acg.spec), (49, jk.spec)], globs := GLO.gB, hints := [], loops := [], inl := [] } : Ctx)
theorem loops : dh (Tryd.f26.body.getD .skip) = [] := by kernel_rfl
noncomputable def bn : Abs.Spec := fun args K => match args with
 | [.agg [.v (.int .i64 a), .v (.int .i64 b)]] => P.afw a b (fun c => K (.v (.int .i64 c)))
 | _ => none
noncomputable def spec : Abs.Spec := bn
theorem ok0 : Proved Tryd.prog GLO.gB 26 bn := by
 refine dx (D := D) (fn := Tryd.f26) (c := Tryd.f26.body.getD .skip) [.any] (by kernel_rfl) (aj (by kernel_rfl)) (by kernel_rfl) (by kernel_rfl) (by kernel_rfl) ⟨acg.ok, jk.ok, trivial⟩ trivial ?_ ?_
 · rw [loops]; exact trivial
 · intro args K r h
   unfold bn at h
   split at h
   · rw [P.avj] at h; exact Eq.trans (by kernel_rfl) h
   · cases h
theorem ok : Proved Tryd.prog GLO.gB 26 spec := ok0
end afw

namespace p8
noncomputable def D : Ctx := ({ P := Tryd.prog, G := [], globs := GLO.gB, hints := [], loops := [], inl := [] } : Ctx)
theorem loops : dh (Tryd.f48.body.getD .skip) = [] := by kernel_rfl
noncomputable def bn : Abs.Spec := fun args K => match args with
 | [.v (.int .u64 a)] => P.p8 a (fun b => K (.v (.int .i64 b)))
 | _ => none
noncomputable def spec : Abs.Spec := bn
theorem ok0 : Proved Tryd.prog GLO.gB 48 bn := by
 refine dx (D := D) (fn := Tryd.f48) (c := Tryd.f48.body.getD .skip) [.any] (by kernel_rfl) (aj (by kernel_rfl)) (by kernel_rfl) (by kernel_rfl) (by kernel_rfl) trivial trivial ?_ ?_
 · rw [loops]; exact trivial
 · intro args K r h
   unfold bn at h
   split at h
   · rw [P.asl] at h; exact Eq.trans (by kernel_rfl) h
   · cases h
theorem ok : Proved Tryd.prog GLO.gB 48 spec := ok0
end p8

namespace mg
noncomputable def D : Ctx := ({ P := Tryd.prog, G := [], globs := GLO.gB, hints := [], loops := [], inl := [] } : Ctx)
theorem loops : dh (Tryd.f50.body.getD .skip) = [] := by kernel_rfl
noncomputable def bn : Abs.Spec := fun args K => match args with
 | [.v (.int .u64 a)] => P.mg a (fun b => K (.v (.int .i64 b)))
 | _ => none
noncomputable def spec : Abs.Spec := bn
theorem ok0 : Proved Tryd.prog GLO.gB 50 bn := by
 refine dx (D := D) (fn := Tryd.f50) (c := Tryd.f50.body.getD .skip) [.any] (by kernel_rfl) (aj (by kernel_rfl)) (by kernel_rfl) (by kernel_rfl) (by kernel_rfl) trivial trivial ?_ ?_
 · rw [loops]; exact trivial
 · intro args K r h
   unfold bn at h
   split at h
   · rw [P.ao3] at h; exact Eq.trans (by kernel_rfl) h
   · cases h
theorem ok : Proved Tryd.prog GLO.gB 50 spec := ok0
end mg

namespace zi
noncomputable def D : Ctx := ({ P := Tryd.prog, G := [(26, afw.spec), (32, jh.spec), (37, eu.spec), (48, p8.spec), (49, jk.spec), (50, mg.spec)], globs := GLO.gB, hints := [], loops := [], inl := [] } : Ctx)
theorem loops : dh (Tryd.f25.body.getD .skip) = [] := by kernel_rfl
noncomputable def bn : Abs.Spec := fun args K => match args with
 | [.sl (.ints .u8 c)] => P.zi c (fun d a b e f => K (.tuple [.fr 5 (.ints .u8 d), .agg [.v (.int .i64 a), .v (.int .i64 b)], .fr 5 (.ints .u8 e), .v (.int .i64 f)]))
 | _ => none
noncomputable def spec : Abs.Spec := fun args K => bn (p9 [.sl (.ints .u8 [])] args) K
theorem ok0 : Proved Tryd.prog GLO.gB 25 bn := by
 refine dx (D := D) (fn := Tryd.f25) (c := Tryd.f25.body.getD .skip) [.fr 5 (.ints .u8 []), .any, .fr 5 (.ints .u8 []), .any] (by kernel_rfl) (aj (by kernel_rfl)) (by kernel_rfl) (by kernel_rfl) (by kernel_rfl) ⟨afw.ok, jh.ok, eu.ok, p8.ok, jk.ok, mg.ok, trivial⟩ trivial ?_ ?_
 · rw [loops]; exact trivial
 · intro args K r h
   unfold bn at h
   split at h
   · rw [P.az2] at h; exact Eq.trans (by kernel_rfl) h
   · cases h
theorem ok : Proved Tryd.prog GLO.gB 25 spec := dz _ ok0
end zi

namespace qj
abbrev X5 := P.bur
def S5 : X5 → ASt := fun (c, d, e, a, b) => ⟨[(0, .sl (.ints .u8 c)), (1, .sl (.ints .u8 d)), (5, .v (.int .u8 e)), (13, .v (.int .i64 a)), (14, .v (.int .i64 b))], [], 0, 31⟩
def V5 : ASt → Option X5
 | ⟨[(0, .sl (.ints .u8 c)), (1, .sl (.ints .u8 d)), (5, .v (.int .u8 e)), (13, .v (.int .i64 a)), (14, .v (.int .i64 b))], [], 0, 31⟩ => some (c, d, e, a, b)
 | _ => none
theorem blx (st) (x) (h : V5 st = some x) : st = S5 x := by
 unfold V5 at h
 split at h
 · cases h; rfl
 · cases h
abbrev Y5 := P.b0k
def E5 (K : AExit → ASt → Option R) : Y5 → Option R := (fun x => K (.exit 0) (S5 x))
noncomputable def L5 : aah := fun st K => akb (V5 st) fun x => P.b2c x (E5 K)
noncomputable def D : Ctx := ({ P := Tryd.prog, G := [], globs := GLO.gB, hints := [(5, ⟨[0, 1, 5, 13, 14], [], [4], [], none, [], [], []⟩)], loops := [(5, L5)], inl := [] } : Ctx)
theorem bds (K) (next) (x) : rz D (fu Tryd.f51 5) K next (S5 x) = P.bwn x (fun x => next (S5 x)) (E5 K) := by kernel_rfl
theorem bli : pq D (fu Tryd.f51 5) := jq S5 blx (by kernel_rfl) P.b6u bds
theorem loops : dh (Tryd.f51.body.getD .skip) = [fu Tryd.f51 5] := by kernel_rfl
noncomputable def bn : Abs.Spec := fun args K => match args with
 | [.sl (.ints .u8 a), .sl (.ints .u8 b)] => P.qj a b (fun c => K (.v (.bool c)))
 | _ => none
noncomputable def spec : Abs.Spec := fun args K => bn (p9 [.sl (.ints .u8 []), .sl (.ints .u8 [])] args) K
theorem ok0 : Proved Tryd.prog GLO.gB 51 bn := by
 refine dx (D := D) (fn := Tryd.f51) (c := Tryd.f51.body.getD .skip) [.any] (by kernel_rfl) (aj (by kernel_rfl)) (by kernel_rfl) (by kernel_rfl) (by kernel_rfl) trivial trivial ?_ ?_
 · rw [loops]; exact ⟨bli, trivial⟩
 · intro args K r h
   unfold bn at h
   split at h
   · rw [P.atl] at h; exact Eq.trans (by kernel_rfl) h
   · cases h
theorem ok : Proved Tryd.prog GLO.gB 51 spec := dz _ ok0
end qj

namespace aei
abbrev X5 := P.zt8
def S5 : X5 → ASt := fun (c, a, b, d) => ⟨[(0, .v (.int .u64 c)), (5, .own 0), (16, .v (.int .i64 a)), (17, .v (.int .i64 b))], [(0, some ⟨.row 5 (.ints .u8 d), false⟩)], 1, 30⟩
def V5 : ASt → Option X5
 | ⟨[(0, .v (.int .u64 c)), (5, .own 0), (16, .v (.int .i64 a)), (17, .v (.int .i64 b))], [(0, some ⟨.row 5 (.ints .u8 d), false⟩)], 1, 30⟩ => some (c, a, b, d)
 | _ => none
theorem blx (st) (x) (h : V5 st = some x) : st = S5 x := by
 unfold V5 at h
 split at h
 · cases h; rfl
 · cases h
abbrev Y5 := P.zy8
def E5 (K : AExit → ASt → Option R) : Y5 → Option R := (fun x => K (.exit 0) (S5 x))
noncomputable def L5 : aah := fun st K => akb (V5 st) fun x => P.zm8 x (E5 K)
noncomputable def D : Ctx := ({ P := Tryd.prog, G := [], globs := GLO.gB, hints := [(5, ⟨[0, 5, 16, 17], [], [4], [], none, [], [], []⟩)], loops := [(5, L5)], inl := [] } : Ctx)
theorem bds (K) (next) (x) : rz D (fu Tryd.f63 5) K next (S5 x) = P.zs8 x (fun x => next (S5 x)) (E5 K) := by kernel_rfl
theorem bli : pq D (fu Tryd.f63 5) := jq S5 blx (by kernel_rfl) P.ze8 bds
theorem loops : dh (Tryd.f63.body.getD .skip) = [fu Tryd.f63 5] := by kernel_rfl
noncomputable def bn : Abs.Spec := fun args K => match args with
 | [.v (.int .u64 a), .v (.int .i64 b)] => P.aei a b (fun c => K (.fr 5 (.ints .u8 c)))
 | _ => none
noncomputable def spec : Abs.Spec := bn
theorem ok0 : Proved Tryd.prog GLO.gB 63 bn := by
 refine dx (D := D) (fn := Tryd.f63) (c := Tryd.f63.body.getD .skip) [.fr 5 (.ints .u8 [])] (by kernel_rfl) (aj (by kernel_rfl)) (by kernel_rfl) (by kernel_rfl) (by kernel_rfl) trivial trivial ?_ ?_
 · rw [loops]; exact ⟨bli, trivial⟩
 · intro args K r h
   unfold bn at h
   split at h
   · rw [P.ayo] at h; exact Eq.trans (by kernel_rfl) h
   · cases h
theorem ok : Proved Tryd.prog GLO.gB 63 spec := ok0
end aei

end
