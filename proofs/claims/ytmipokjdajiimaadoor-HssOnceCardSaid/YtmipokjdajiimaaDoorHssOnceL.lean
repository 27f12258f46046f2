/-
  HssOnce, part 12: an interpreter of my own over abstract values, the pure functions, the walks and the plain law.
-/

import Derived.Test.YtmipokjdajiimaaDoorHssOnceI
import Derived.Test.YtmipokjdajiimaaDoorHssOnceH
import Derived.Test.YtmipokjdajiimaaDoorProg
import Derived.Test.YtmipokjdajiimaaDoorHssOnceJ
import Derived.KernelRfl

section
open Go Go.Abs Go.Proofs
set_option maxRecDepth 100000
set_option maxHeartbeats 0
set_option linter.unusedVariables false

namespace uq
noncomputable def D : Ctx := ({ P := Tryd.prog, G := [], globs := GLO.gB, hints := [], loops := [], inl := [] } : Ctx)
theorem loops : bn (Tryd.f46.body.getD .skip) = [] := by kernel_rfl
noncomputable def av : Abs.Spec := fun args K => match args with
 | [.v (.int .i64 a)] => P.uq a (fun b => K (.v (.int .u64 b)))
 | _ => none
noncomputable def spec : Abs.Spec := av
theorem ok0 : Proved Tryd.prog GLO.gB 46 av := by
 refine cu (D := D) (fn := Tryd.f46) (c := Tryd.f46.body.getD .skip) [.any] (by kernel_rfl) (ah (by kernel_rfl)) (by kernel_rfl) (by kernel_rfl) (by kernel_rfl) trivial trivial ?_ ?_
 · rw [loops]; exact trivial
 · intro args K r h
   unfold av at h
   split at h
   · rw [P.aht] at h; exact Eq.trans (by kernel_rfl) h
   · cases h
theorem ok : Proved Tryd.prog GLO.gB 46 spec := ok0
end uq

namespace mh
noncomputable def D : Ctx := ({ P := Tryd.prog, G := [], globs := GLO.gB, hints := [], loops := [], inl := [] } : Ctx)
theorem loops : bn (Tryd.f53.body.getD .skip) = [] := by kernel_rfl
noncomputable def av : Abs.Spec := fun args K => match args with
 | [.v (.int .i64 a)] => P.mh a (fun b => K (.v (.int .u64 b)))
 | _ => none
noncomputable def spec : Abs.Spec := av
theorem ok0 : Proved Tryd.prog GLO.gB 53 av := by
 refine cu (D := D) (fn := Tryd.f53) (c := Tryd.f53.body.getD .skip) [.any] (by kernel_rfl) (ah (by kernel_rfl)) (by kernel_rfl) (by kernel_rfl) (by kernel_rfl) trivial trivial ?_ ?_
 · rw [loops]; exact trivial
 · intro args K r h
   unfold av at h
   split at h
   · rw [P.ado] at h; exact Eq.trans (by kernel_rfl) h
   · cases h
theorem ok : Proved Tryd.prog GLO.gB 53 spec := ok0
end mh

namespace aby
noncomputable def D : Ctx := ({ P := Tryd.prog, G := [(46, uq.spec), (53, mh.spec)], globs := GLO.gB, hints := [], loops := [], inl := [] } : Ctx)
theorem loops : bn (Tryd.f30.body.getD .skip) = [] := by kernel_rfl
noncomputable def av : Abs.Spec := fun args K => match args with
 | [.agg [.v (.int .i64 a), .v (.int .i64 b)]] => P.aby a b (fun c => K (.v (.bool c)))
 | _ => none
noncomputable def spec : Abs.Spec := av
theorem ok0 : Proved Tryd.prog GLO.gB 30 av := by
 refine cu (D := D) (fn := Tryd.f30) (c := Tryd.f30.body.getD .skip) [.any] (by kernel_rfl) (ah (by kernel_rfl)) (by kernel_rfl) (by kernel_rfl) (by kernel_rfl) ⟨uq.ok, mh.ok, trivial⟩ trivial ?_ ?_
 · rw [loops]; exact trivial
 · intro args K r h
   unfold av at h
   split at h
   · rw [P.akq] at h; exact Eq.trans (by kernel_rfl) h
   · cases h
theorem ok : Proved Tryd.prog GLO.gB 30 spec := ok0
end aby

namespace acp
abbrev X5 := P.zt2
def S5 : X5 → ASt := fun (k, d, e, f, i, j, a, b, c, g, h) => ⟨[(1, .ptr 0 0), (3, .v (.int .i64 k)), (11, .sl (.cols d [.ints .i64 e, .ints .i64 f])), (12, .v (.int .i64 i)), (13, .v (.int .i64 j))], [(0, some ⟨.box 25 [.sl (.cols a [.ints .i64 b, .ints .i64 c]), .sl (.ints .u8 g), .sl (.ints .u8 h)], false⟩)], 1, 50⟩
def V5 : ASt → Option X5
 | ⟨[(1, .ptr 0 0), (3, .v (.int .i64 k)), (11, .sl (.cols d [.ints .i64 e, .ints .i64 f])), (12, .v (.int .i64 i)), (13, .v (.int .i64 j))], [(0, some ⟨.box 25 [.sl (.cols a [.ints .i64 b, .ints .i64 c]), .sl (.ints .u8 g), .sl (.ints .u8 h)], false⟩)], 1, 50⟩ => some (k, d, e, f, i, j, a, b, c, g, h)
 | _ => none
theorem azf (st) (x) (h : V5 st = some x) : st = S5 x := by
 unfold V5 at h
 split at h
 · cases h; rfl
 · cases h
abbrev Y5 := P.zy2
def E5 (K : AExit → ASt → Option R) : Y5 → Option R := (Sum.elim (fun x => K (.exit 0) (S5 x)) (fun (j, f, g, a, b, c, d, e, h, i) => K .ret ⟨[(2, .v (.bool j))], [(1, some ⟨.box 44 [.v (.int .i64 f), .v (.int .i64 g)], false⟩), (1, some ⟨.box 44 [.v (.int .i64 a), .v (.int .i64 b)], false⟩), (0, some ⟨.box 25 [.sl (.cols c [.ints .i64 d, .ints .i64 e]), .sl (.ints .u8 h), .sl (.ints .u8 i)], false⟩)], 2, 50⟩))
noncomputable def L5 : wz := fun st K => afx (V5 st) fun x => P.zm2 x (E5 K)
noncomputable def D : Ctx := ({ P := Tryd.prog, G := [(30, aby.spec)], globs := GLO.gB, hints := [(5, ⟨[1, 3, 11, 12, 13], [], [2], [], none, [], [], []⟩)], loops := [(5, L5)], inl := [] } : Ctx)
theorem asz (K) (next) (x) : oq D (dx Tryd.f12 5) K next (S5 x) = P.zs2 x (fun x => next (S5 x)) (E5 K) := by kernel_rfl
theorem ayf : l7 D (dx Tryd.f12 5) := jd S5 azf (by kernel_rfl) P.ze2 asz
theorem loops : bn (Tryd.f12.body.getD .skip) = [dx Tryd.f12 5] := by kernel_rfl
noncomputable def av : Abs.Spec := fun args K => match args with
 | [.agg [.sl (.cols a [.ints .i64 b, .ints .i64 c]), .sl (.ints .u8 e), .sl (.ints .u8 d)]] => P.acp a b c e d (fun f => K (.v (.bool f)))
 | _ => none
noncomputable def spec : Abs.Spec := fun args K => av (pq [.agg [.sl (.cols 0 [.ints .i64 [], .ints .i64 []]), .sl (.ints .u8 []), .sl (.ints .u8 [])]] args) K
theorem ok0 : Proved Tryd.prog GLO.gB 12 av := by
 refine cu (D := D) (fn := Tryd.f12) (c := Tryd.f12.body.getD .skip) [.any] (by kernel_rfl) (ah (by kernel_rfl)) (by kernel_rfl) (by kernel_rfl) (by kernel_rfl) ⟨aby.ok, trivial⟩ trivial ?_ ?_
 · rw [loops]; exact ⟨ayf, trivial⟩
 · intro args K r h
   unfold av at h
   split at h
   · rw [P.agr] at h; exact Eq.trans (by kernel_rfl) h
   · cases h
theorem ok : Proved Tryd.prog GLO.gB 12 spec := dz _ ok0
end acp

namespace aag
abbrev X3 := P.zt3
def S3 : X3 → ASt := fun (d, a, b, c, e, f) => ⟨[(3, .v (.int .i64 d)), (7, .sl (.cols a [.ints .i64 b, .ints .i64 c])), (8, .v (.int .i64 e)), (9, .v (.int .i64 f))], [], 40, 19⟩
def V3 : ASt → Option X3
 | ⟨[(3, .v (.int .i64 d)), (7, .sl (.cols a [.ints .i64 b, .ints .i64 c])), (8, .v (.int .i64 e)), (9, .v (.int .i64 f))], [], 40, 19⟩ => some (d, a, b, c, e, f)
 | _ => none
theorem anv (st) (x) (h : V3 st = some x) : st = S3 x := by
 unfold V3 at h
 split at h
 · cases h; rfl
 · cases h
abbrev Y3 := P.zy3
def E3 (K : AExit → ASt → Option R) : Y3 → Option R := (fun x => K (.exit 0) (S3 x))
noncomputable def L3 : wz := fun st K => afx (V3 st) fun x => P.zm3 x (E3 K)
noncomputable def D : Ctx := ({ P := Tryd.prog, G := [], globs := GLO.gB, hints := [(3, ⟨[3, 7, 8, 9], [], [2], [], some (40, []), [], [], []⟩)], loops := [(3, L3)], inl := [] } : Ctx)
theorem agc (K) (next) (x) : oq D (dx Tryd.f29 3) K next (S3 x) = P.zs3 x (fun x => next (S3 x)) (E3 K) := by kernel_rfl
theorem amc : l7 D (dx Tryd.f29 3) := jd S3 anv (by kernel_rfl) P.ze3 agc
theorem loops : bn (Tryd.f29.body.getD .skip) = [dx Tryd.f29 3] := by kernel_rfl
noncomputable def av : Abs.Spec := fun args K => match args with
 | [.agg [.sl (.cols a [.ints .i64 b, .ints .i64 c]), .sl (.ints .u8 e), .sl (.ints .u8 d)]] => P.aag a b c e d (fun f => K (.v (.int .i64 f)))
 | _ => none
noncomputable def spec : Abs.Spec := fun args K => av (pq [.agg [.sl (.cols 0 [.ints .i64 [], .ints .i64 []]), .sl (.ints .u8 []), .sl (.ints .u8 [])]] args) K
theorem ok0 : Proved Tryd.prog GLO.gB 29 av := by
 refine cu (D := D) (fn := Tryd.f29) (c := Tryd.f29.body.getD .skip) [.any] (by kernel_rfl) (ah (by kernel_rfl)) (by kernel_rfl) (by kernel_rfl) (by kernel_rfl) trivial trivial ?_ ?_
 · rw [loops]; exact ⟨amc, trivial⟩
 · intro args K r h
   unfold av at h
   split at h
   · rw [P.amr] at h; exact Eq.trans (by kernel_rfl) h
   · cases h
theorem ok : Proved Tryd.prog GLO.gB 29 spec := dz _ ok0
end aag

namespace tq
noncomputable def D : Ctx := ({ P := Tryd.prog, G := [(12, acp.spec), (29, aag.spec)], globs := GLO.gB, hints := [], loops := [], inl := [] } : Ctx)
theorem loops : bn (Tryd.f14.body.getD .skip) = [] := by kernel_rfl
noncomputable def av : Abs.Spec := fun args K => match args with
 | [.agg [.sl (.cols a [.ints .i64 b, .ints .i64 c]), .sl (.ints .u8 e), .sl (.ints .u8 d)]] => P.tq a b c e d (fun f => K (.v (.int .u64 f)))
 | _ => none
noncomputable def spec : Abs.Spec := fun args K => av (pq [.agg [.sl (.cols 0 [.ints .i64 [], .ints .i64 []]), .sl (.ints .u8 []), .sl (.ints .u8 [])]] args) K
theorem ok0 : Proved Tryd.prog GLO.gB 14 av := by
 refine cu (D := D) (fn := Tryd.f14) (c := Tryd.f14.body.getD .skip) [.any] (by kernel_rfl) (ah (by kernel_rfl)) (by kernel_rfl) (by kernel_rfl) (by kernel_rfl) ⟨acp.ok, aag.ok, trivial⟩ trivial ?_ ?_
 · rw [loops]; exact trivial
 · intro args K r h
   unfold av at h
   split at h
   · rw [P.ai0] at h; exact Eq.trans (by kernel_rfl) h
   · cases h
theorem ok : Proved Tryd.prog GLO.gB 14 spec := dz _ ok0
end tq

namespace oz
abbrev X8 := P.zt4
def S8 : X8 → ASt := fun (g, h, a, b, c, d, e, f) => ⟨[(6, .own 40), (1, .v (.int .u64 g)), (7, .v (.int .i64 h)), (23, .sl (.cols a [.ints .i64 b, .ints .i64 c])), (24, .v (.int .i64 d)), (25, .v (.int .i64 e))], [(40, some ⟨.row 42 (.ints .u32 f), false⟩)], 41, 47⟩
def V8 : ASt → Option X8
 | ⟨[(6, .own 40), (1, .v (.int .u64 g)), (7, .v (.int .i64 h)), (23, .sl (.cols a [.ints .i64 b, .ints .i64 c])), (24, .v (.int .i64 d)), (25, .v (.int .i64 e))], [(40, some ⟨.row 42 (.ints .u32 f), false⟩)], 41, 47⟩ => some (g, h, a, b, c, d, e, f)
 | _ => none
theorem avk (st) (x) (h : V8 st = some x) : st = S8 x := by
 unfold V8 at h
 split at h
 · cases h; rfl
 · cases h
abbrev Y8 := P.zy4
def E8 (K : AExit → ASt → Option R) : Y8 → Option R := (fun x => K (.exit 1) (S8 x))
noncomputable def L8 : wz := fun st K => afx (V8 st) fun x => P.zm4 x (E8 K)
noncomputable def D : Ctx := ({ P := Tryd.prog, G := [(12, acp.spec), (29, aag.spec)], globs := GLO.gB, hints := [(8, ⟨[1, 7, 23, 24, 25], [(6, 42, .ints .u32 [])], [4, 5], [], some (40, []), [], [], []⟩)], loops := [(8, L8)], inl := [] } : Ctx)
theorem ani (K) (next) (x) : oq D (dx Tryd.f10 8) K next (S8 x) = P.zs4 x (fun x => next (S8 x)) (E8 K) := by kernel_rfl
theorem avw : l7 D (dx Tryd.f10 8) := jd S8 avk (by kernel_rfl) P.ze4 ani
theorem loops : bn (Tryd.f10.body.getD .skip) = [dx Tryd.f10 8] := by kernel_rfl
noncomputable def av : Abs.Spec := fun args K => match args with
 | [.agg [.sl (.cols a [.ints .i64 b, .ints .i64 c]), .sl (.ints .u8 e), .sl (.ints .u8 d)], .v (.int .u64 f)] => P.oz a b c e d f (fun g h => K (.tuple [.fr 42 (.ints .u32 g), .v (.int .i64 h)]))
 | _ => none
noncomputable def spec : Abs.Spec := fun args K => av (pq [.agg [.sl (.cols 0 [.ints .i64 [], .ints .i64 []]), .sl (.ints .u8 []), .sl (.ints .u8 [])], .any] args) K
theorem ok0 : Proved Tryd.prog GLO.gB 10 av := by
 refine cu (D := D) (fn := Tryd.f10) (c := Tryd.f10.body.getD .skip) [.fr 42 (.ints .u32 []), .any] (by kernel_rfl) (ah (by kernel_rfl)) (by kernel_rfl) (by kernel_rfl) (by kernel_rfl) ⟨acp.ok, aag.ok, trivial⟩ trivial ?_ ?_
 · rw [loops]; exact ⟨avw, trivial⟩
 · intro args K r h
   unfold av at h
   split at h
   · rw [P.afm] at h; exact Eq.trans (by kernel_rfl) h
   · cases h
theorem ok : Proved Tryd.prog GLO.gB 10 spec := dz _ ok0
end oz

namespace iw
abbrev X3 := P.zt5
def S3 : X3 → ASt := fun (a, b, c, d) => ⟨[(3, .v (.int .u64 a)), (6, .sl (.ints .u8 b)), (7, .v (.int .i64 c)), (8, .v (.int .i64 d))], [], 0, 19⟩
def V3 : ASt → Option X3
 | ⟨[(3, .v (.int .u64 a)), (6, .sl (.ints .u8 b)), (7, .v (.int .i64 c)), (8, .v (.int .i64 d))], [], 0, 19⟩ => some (a, b, c, d)
 | _ => none
theorem anv (st) (x) (h : V3 st = some x) : st = S3 x := by
 unfold V3 at h
 split at h
 · cases h; rfl
 · cases h
abbrev Y3 := P.zy5
def E3 (K : AExit → ASt → Option R) : Y3 → Option R := (fun x => K (.exit 0) (S3 x))
noncomputable def L3 : wz := fun st K => afx (V3 st) fun x => P.zm5 x (E3 K)
noncomputable def D : Ctx := ({ P := Tryd.prog, G := [], globs := GLO.gB, hints := [(3, ⟨[3, 6, 7, 8], [], [2], [], none, [], [], []⟩)], loops := [(3, L3)], inl := [] } : Ctx)
theorem agc (K) (next) (x) : oq D (dx Tryd.f32 3) K next (S3 x) = P.zs5 x (fun x => next (S3 x)) (E3 K) := by kernel_rfl
theorem amc : l7 D (dx Tryd.f32 3) := jd S3 anv (by kernel_rfl) P.ze5 agc
theorem loops : bn (Tryd.f32.body.getD .skip) = [dx Tryd.f32 3] := by kernel_rfl
noncomputable def av : Abs.Spec := fun args K => match args with
 | [.sl (.ints .u8 a)] => P.iw a (fun b => K (.v (.int .u64 b)))
 | _ => none
noncomputable def spec : Abs.Spec := fun args K => av (pq [.sl (.ints .u8 [])] args) K
theorem ok0 : Proved Tryd.prog GLO.gB 32 av := by
 refine cu (D := D) (fn := Tryd.f32) (c := Tryd.f32.body.getD .skip) [.any] (by kernel_rfl) (ah (by kernel_rfl)) (by kernel_rfl) (by kernel_rfl) (by kernel_rfl) trivial trivial ?_ ?_
 · rw [loops]; exact ⟨amc, trivial⟩
 · intro args K r h
   unfold av at h
   split at h
   · rw [P.an4] at h; exact Eq.trans (by kernel_rfl) h
   · cases h
theorem ok : Proved Tryd.prog GLO.gB 32 spec := dz _ ok0
end iw

namespace kg
noncomputable def D : Ctx := ({ P := Tryd.prog, G := [], globs := GLO.gB, hints := [], loops := [], inl := [] } : Ctx)
theorem loops : bn (Tryd.f83.body.getD .skip) = [] := by kernel_rfl
noncomputable def av : Abs.Spec := fun args K => match args with
 | [.v (.slice none 0 0), .v (.int .i64 a)] => P.kg a (fun b => K (.fr 5 (.ints .u8 b)))
 | _ => none
noncomputable def spec : Abs.Spec := av
theorem ok0 : Proved Tryd.prog GLO.gB 83 av := by
 refine apd (D := D) (fn := Tryd.f83) (c := Tryd.f83.body.getD .skip) 5 (.ints .u8 []) (by kernel_rfl) (ah (by kernel_rfl)) (by kernel_rfl) (by kernel_rfl) (by kernel_rfl) trivial trivial ?_ ?_
 · rw [loops]; exact trivial
 · intro args K r h
   unfold av at h
   split at h
   · rw [P.adg] at h; exact Eq.trans (by kernel_rfl) h
   · cases h
theorem ok : Proved Tryd.prog GLO.gB 83 spec := ok0
end kg

namespace eu
abbrev X3 := P.zt6
def S3 : X3 → ASt := fun (c, d, e, a, b) => ⟨[(0, .sl (.rows .u8 c)), (3, .v (.int .i64 d)), (9, .sl (.rows .u8 e)), (10, .v (.int .i64 a)), (11, .v (.int .i64 b))], [], 0, 36⟩
def V3 : ASt → Option X3
 | ⟨[(0, .sl (.rows .u8 c)), (3, .v (.int .i64 d)), (9, .sl (.rows .u8 e)), (10, .v (.int .i64 a)), (11, .v (.int .i64 b))], [], 0, 36⟩ => some (c, d, e, a, b)
 | _ => none
theorem anv (st) (x) (h : V3 st = some x) : st = S3 x := by
 unfold V3 at h
 split at h
 · cases h; rfl
 · cases h
abbrev Y3 := P.zy6
abbrev X11 := P.zt7
def S11 : X11 → ASt := fun (a, b, c, d) => ⟨[(6, .own 1), (25, .sl (.rows .u8 a)), (26, .v (.int .i64 b)), (27, .v (.int .i64 c))], [(1, some ⟨.row 5 (.ints .u8 d), false⟩), (0, none)], 2, 36⟩
def V11 : ASt → Option X11
 | ⟨[(6, .own 1), (25, .sl (.rows .u8 a)), (26, .v (.int .i64 b)), (27, .v (.int .i64 c))], [(1, some ⟨.row 5 (.ints .u8 d), false⟩), (0, none)], 2, 36⟩ => some (a, b, c, d)
 | _ => none
theorem bf7 (st) (x) (h : V11 st = some x) : st = S11 x := by
 unfold V11 at h
 split at h
 · cases h; rfl
 · cases h
abbrev Y11 := P.zy7
def E3 (K : AExit → ASt → Option R) : Y3 → Option R := (fun x => K (.exit 0) (S3 x))
noncomputable def L3 : wz := fun st K => afx (V3 st) fun x => P.zm6 x (E3 K)
def E11 (K : AExit → ASt → Option R) : Y11 → Option R := (fun x => K (.exit 2) (S11 x))
noncomputable def L11 : wz := fun st K => afx (V11 st) fun x => P.zm7 x (E11 K)
noncomputable def D : Ctx := ({ P := Tryd.prog, G := [(83, kg.spec)], globs := GLO.gB, hints := [(11, ⟨[25, 26, 27], [(6, 5, .ints .u8 [])], [2], [], none, [], [], []⟩), (3, ⟨[0, 3, 9, 10, 11], [], [2], [], none, [], [], []⟩)], loops := [(3, L3), (11, L11)], inl := [] } : Ctx)
theorem agc (K) (next) (x) : oq D (dx Tryd.f62 3) K next (S3 x) = P.zs6 x (fun x => next (S3 x)) (E3 K) := by kernel_rfl
theorem amc : l7 D (dx Tryd.f62 3) := jd S3 anv (by kernel_rfl) P.ze6 agc
theorem be6 (K) (next) (x) : oq D (dx Tryd.f62 11) K next (S11 x) = P.zs7 x (fun x => next (S11 x)) (E11 K) := by kernel_rfl
theorem bhl : l7 D (dx Tryd.f62 11) := jd S11 bf7 (by kernel_rfl) P.ze7 be6
theorem loops : bn (Tryd.f62.body.getD .skip) = [dx Tryd.f62 3, dx Tryd.f62 11] := by kernel_rfl
noncomputable def av : Abs.Spec := fun args K => match args with
 | [.sl (.rows .u8 a)] => P.eu a (fun b => K (.fr 5 (.ints .u8 b)))
 | _ => none
noncomputable def spec : Abs.Spec := fun args K => av (pq [.sl (.rows .u8 [])] args) K
theorem ok0 : Proved Tryd.prog GLO.gB 62 av := by
 refine cu (D := D) (fn := Tryd.f62) (c := Tryd.f62.body.getD .skip) [.fr 5 (.ints .u8 [])] (by kernel_rfl) (ah (by kernel_rfl)) (by kernel_rfl) (by kernel_rfl) (by kernel_rfl) ⟨kg.ok, trivial⟩ trivial ?_ ?_
 · rw [loops]; exact ⟨amc, bhl, trivial⟩
 · intro args K r h
   unfold av at h
   split at h
   · rw [P.aci] at h; exact Eq.trans (by kernel_rfl) h
   · cases h
theorem ok : Proved Tryd.prog GLO.gB 62 spec := dz _ ok0
end eu

namespace jv
noncomputable def D : Ctx := ({ P := Tryd.prog, G := [(62, eu.spec)], globs := GLO.gB, hints := [], loops := [], inl := [] } : Ctx)
theorem loops : bn (Tryd.f37.body.getD .skip) = [] := by kernel_rfl
noncomputable def av : Abs.Spec := fun args K => match args with
 | [.sl (.rows .u8 a)] => P.jv a (fun b => K (.fr 5 (.ints .u8 b)))
 | _ => none
noncomputable def spec : Abs.Spec := fun args K => av (pq [.sl (.rows .u8 [])] args) K
theorem ok0 : Proved Tryd.prog GLO.gB 37 av := by
 refine cu (D := D) (fn := Tryd.f37) (c := Tryd.f37.body.getD .skip) [.fr 5 (.ints .u8 [])] (by kernel_rfl) (ah (by kernel_rfl)) (by kernel_rfl) (by kernel_rfl) (by kernel_rfl) ⟨eu.ok, trivial⟩ trivial ?_ ?_
 · rw [loops]; exact trivial
 · intro args K r h
   unfold av at h
   split at h
   · rw [P.ak0] at h; exact Eq.trans (by kernel_rfl) h
   · cases h
theorem ok : Proved Tryd.prog GLO.gB 37 spec := dz _ ok0
end jv

namespace l6
noncomputable def D : Ctx := ({ P := Tryd.prog, G := [], globs := GLO.gB, hints := [], loops := [], inl := [] } : Ctx)
theorem loops : bn (Tryd.f74.body.getD .skip) = [] := by kernel_rfl
noncomputable def av : Abs.Spec := fun args K => match args with
 | [.v (.int .i64 d)] => P.l6 d (fun a b c e => K (.tuple [.agg [.v (.int .i64 a), .v (.int .i64 b), .v (.int .i64 c)], .v (.bool e)]))
 | _ => none
noncomputable def spec : Abs.Spec := av
theorem ok0 : Proved Tryd.prog GLO.gB 74 av := by
 refine cu (D := D) (fn := Tryd.f74) (c := Tryd.f74.body.getD .skip) [.any, .any] (by kernel_rfl) (ah (by kernel_rfl)) (by kernel_rfl) (by kernel_rfl) (by kernel_rfl) trivial trivial ?_ ?_
 · rw [loops]; exact trivial
 · intro args K r h
   unfold av at h
   split at h
   · rw [P.aar] at h; exact Eq.trans (by kernel_rfl) h
   · cases h
theorem ok : Proved Tryd.prog GLO.gB 74 spec := ok0
end l6

namespace jg
noncomputable def D : Ctx := ({ P := Tryd.prog, G := [(74, l6.spec)], globs := GLO.gB, hints := [], loops := [], inl := [] } : Ctx)
theorem loops : bn (Tryd.f49.body.getD .skip) = [] := by kernel_rfl
noncomputable def av : Abs.Spec := fun args K => match args with
 | [.v (.int .i64 a)] => P.jg a (fun b => K (.v (.int .i64 b)))
 | _ => none
noncomputable def spec : Abs.Spec := av
theorem ok0 : Proved Tryd.prog GLO.gB 49 av := by
 refine cu (D := D) (fn := Tryd.f49) (c := Tryd.f49.body.getD .skip) [.any] (by kernel_rfl) (ah (by kernel_rfl)) (by kernel_rfl) (by kernel_rfl) (by kernel_rfl) ⟨l6.ok, trivial⟩ trivial ?_ ?_
 · rw [loops]; exact trivial
 · intro args K r h
   unfold av at h
   split at h
   · rw [P.air] at h; exact Eq.trans (by kernel_rfl) h
   · cases h
theorem ok : Proved Tryd.prog GLO.gB 49 spec := ok0
end jg

namespace ac3
noncomputable def D : Ctx := ({ P := Tryd.prog, G := [(30, aby.spec), (49, jg.spec)], globs := GLO.gB, hints := [], loops := [], inl := [] } : Ctx)
theorem loops : bn (Tryd.f26.body.getD .skip) = [] := by kernel_rfl
noncomputable def av : Abs.Spec := fun args K => match args with
 | [.agg [.v (.int .i64 a), .v (.int .i64 b)]] => P.ac3 a b (fun c => K (.v (.int .i64 c)))
 | _ => none
noncomputable def spec : Abs.Spec := av
theorem ok0 : Proved Tryd.prog GLO.gB 26 av := by
 refine cu (D := D) (fn := Tryd.f26) (c := Tryd.f26.body.getD .skip) [.any] (by kernel_rfl) (ah (by kernel_rfl)) (by kernel_rfl) (by kernel_rfl) (by kernel_rfl) ⟨aby.ok, jg.ok, trivial⟩ trivial ?_ ?_
 · rw [loops]; exact trivial
 · intro args K r h
   unfold av at h
   split at h
   · rw [P.amx] at h; exact Eq.trans (by kernel_rfl) h
   · cases h
theorem ok : Proved Tryd.prog GLO.gB 26 spec := ok0
end ac3

namespace uf
noncomputable def D : Ctx := ({ P := Tryd.prog, G := [], globs := GLO.gB, hints := [], loops := [], inl := [] } : Ctx)
theorem loops : bn (Tryd.f48.body.getD .skip) = [] := by kernel_rfl
noncomputable def av : Abs.Spec := fun args K => match args with
 | [.v (.int .u64 a)] => P.uf a (fun b => K (.v (.int .i64 b)))
 | _ => none
noncomputable def spec : Abs.Spec := av
theorem ok0 : Proved Tryd.prog GLO.gB 48 av := by
 refine cu (D := D) (fn := Tryd.f48) (c := Tryd.f48.body.getD .skip) [.any] (by kernel_rfl) (ah (by kernel_rfl)) (by kernel_rfl) (by kernel_rfl) (by kernel_rfl) trivial trivial ?_ ?_
 · rw [loops]; exact trivial
 · intro args K r h
   unfold av at h
   split at h
   · rw [P.alg] at h; exact Eq.trans (by kernel_rfl) h
   · cases h
theorem ok : Proved Tryd.prog GLO.gB 48 spec := ok0
end uf

namespace qc
noncomputable def D : Ctx := ({ P := Tryd.prog, G := [], globs := GLO.gB, hints := [], loops := [], inl := [] } : Ctx)
theorem loops : bn (Tryd.f50.body.getD .skip) = [] := by kernel_rfl
noncomputable def av : Abs.Spec := fun args K => match args with
 | [.v (.int .u64 a)] => P.qc a (fun b => K (.v (.int .i64 b)))
 | _ => none
noncomputable def spec : Abs.Spec := av
theorem ok0 : Proved Tryd.prog GLO.gB 50 av := by
 refine cu (D := D) (fn := Tryd.f50) (c := Tryd.f50.body.getD .skip) [.any] (by kernel_rfl) (ah (by kernel_rfl)) (by kernel_rfl) (by kernel_rfl) (by kernel_rfl) trivial trivial ?_ ?_
 · rw [loops]; exact trivial
 · intro args K r h
   unfold av at h
   split at h
   · rw [P.ajv] at h; exact Eq.trans (by kernel_rfl) h
   · cases h
theorem ok : Proved Tryd.prog GLO.gB 50 spec := ok0
end qc

namespace abz
noncomputable def D : Ctx := ({ P := Tryd.prog, G := [(26, ac3.spec), (32, iw.spec), (37, jv.spec), (48, uf.spec), (49, jg.spec), (50, qc.spec)], globs := GLO.gB, hints := [], loops := [], inl := [] } : Ctx)
theorem loops : bn (Tryd.f25.body.getD .skip) = [] := by kernel_rfl
noncomputable def av : Abs.Spec := fun args K => match args with
 | [.sl (.ints .u8 c)] => P.abz c (fun d a b e f => K (.tuple [.fr 5 (.ints .u8 d), .agg [.v (.int .i64 a), .v (.int .i64 b)], .fr 5 (.ints .u8 e), .v (.int .i64 f)]))
 | _ => none
noncomputable def spec : Abs.Spec := fun args K => av (pq [.sl (.ints .u8 [])] args) K
theorem ok0 : Proved Tryd.prog GLO.gB 25 av := by
 refine cu (D := D) (fn := Tryd.f25) (c := Tryd.f25.body.getD .skip) [.fr 5 (.ints .u8 []), .any, .fr 5 (.ints .u8 []), .any] (by kernel_rfl) (ah (by kernel_rfl)) (by kernel_rfl) (by kernel_rfl) (by kernel_rfl) ⟨ac3.ok, iw.ok, jv.ok, uf.ok, jg.ok, qc.ok, trivial⟩ trivial ?_ ?_
 · rw [loops]; exact trivial
 · intro args K r h
   unfold av at h
   split at h
   · rw [P.apl] at h; exact Eq.trans (by kernel_rfl) h
   · cases h
theorem ok : Proved Tryd.prog GLO.gB 25 spec := dz _ ok0
end abz

namespace zi
abbrev X5 := P.bho
def S5 : X5 → ASt := fun (c, d, e, a, b) => ⟨[(0, .sl (.ints .u8 c)), (1, .sl (.ints .u8 d)), (5, .v (.int .u8 e)), (13, .v (.int .i64 a)), (14, .v (.int .i64 b))], [], 0, 31⟩
def V5 : ASt → Option X5
 | ⟨[(0, .sl (.ints .u8 c)), (1, .sl (.ints .u8 d)), (5, .v (.int .u8 e)), (13, .v (.int .i64 a)), (14, .v (.int .i64 b))], [], 0, 31⟩ => some (c, d, e, a, b)
 | _ => none
theorem azf (st) (x) (h : V5 st = some x) : st = S5 x := by
 unfold V5 at h
 split at h
 · cases h; rfl
 · cases h
abbrev Y5 := P.bkq
def E5 (K : AExit → ASt → Option R) : Y5 → Option R := (fun x => K (.exit 0) (S5 x))
noncomputable def L5 : wz := fun st K => afx (V5 st) fun x => P.bmk x (E5 K)
noncomputable def D : Ctx := ({ P := Tryd.prog, G := [], globs := GLO.gB, hints := [(5, ⟨[0, 1, 5, 13, 14], [], [4], [], none, [], [], []⟩)], loops := [(5, L5)], inl := [] } : Ctx)
theorem asz (K) (next) (x) : oq D (dx Tryd.f51 5) K next (S5 x) = P.bgz x (fun x => next (S5 x)) (E5 K) := by kernel_rfl
theorem ayf : l7 D (dx Tryd.f51 5) := jd S5 azf (by kernel_rfl) P.bnf asz
theorem loops : bn (Tryd.f51.body.getD .skip) = [dx Tryd.f51 5] := by kernel_rfl
noncomputable def av : Abs.Spec := fun args K => match args with
 | [.sl (.ints .u8 a), .sl (.ints .u8 b)] => P.zi a b (fun c => K (.v (.bool c)))
 | _ => none
noncomputable def spec : Abs.Spec := fun args K => av (pq [.sl (.ints .u8 []), .sl (.ints .u8 [])] args) K
theorem ok0 : Proved Tryd.prog GLO.gB 51 av := by
 refine cu (D := D) (fn := Tryd.f51) (c := Tryd.f51.body.getD .skip) [.any] (by kernel_rfl) (ah (by kernel_rfl)) (by kernel_rfl) (by kernel_rfl) (by kernel_rfl) trivial trivial ?_ ?_
 · rw [loops]; exact ⟨ayf, trivial⟩
 · intro args K r h
   unfold av at h
   split at h
   · rw [P.ali] at h; exact Eq.trans (by kernel_rfl) h
   · cases h
theorem ok : Proved Tryd.prog GLO.gB 51 spec := dz _ ok0
end zi

namespace ab0
abbrev X5 := P.zt8
def S5 : X5 → ASt := fun (c, a, b, d) => ⟨[(0, .v (.int .u64 c)), (5, .own 0), (16, .v (.int .i64 a)), (17, .v (.int .i64 b))], [(0, some ⟨.row 5 (.ints .u8 d), false⟩)], 1, 30⟩
def V5 : ASt → Option X5
 | ⟨[(0, .v (.int .u64 c)), (5, .own 0), (16, .v (.int .i64 a)), (17, .v (.int .i64 b))], [(0, some ⟨.row 5 (.ints .u8 d), false⟩)], 1, 30⟩ => some (c, a, b, d)
 | _ => none
theorem azf (st) (x) (h : V5 st = some x) : st = S5 x := by
 unfold V5 at h
 split at h
 · cases h; rfl
 · cases h
abbrev Y5 := P.zy8
def E5 (K : AExit → ASt → Option R) : Y5 → Option R := (fun x => K (.exit 0) (S5 x))
noncomputable def L5 : wz := fun st K => afx (V5 st) fun x => P.zm8 x (E5 K)
noncomputable def D : Ctx := ({ P := Tryd.prog, G := [], globs := GLO.gB, hints := [(5, ⟨[0, 5, 16, 17], [], [4], [], none, [], [], []⟩)], loops := [(5, L5)], inl := [] } : Ctx)
theorem asz (K) (next) (x) : oq D (dx Tryd.f63 5) K next (S5 x) = P.zs8 x (fun x => next (S5 x)) (E5 K) := by kernel_rfl
theorem ayf : l7 D (dx Tryd.f63 5) := jd S5 azf (by kernel_rfl) P.ze8 asz
theorem loops : bn (Tryd.f63.body.getD .skip) = [dx Tryd.f63 5] := by kernel_rfl
noncomputable def av : Abs.Spec := fun args K => match args with
 | [.v (.int .u64 a), .v (.int .i64 b)] => P.ab0 a b (fun c => K (.fr 5 (.ints .u8 c)))
 | _ => none
noncomputable def spec : Abs.Spec := av
theorem ok0 : Proved Tryd.prog GLO.gB 63 av := by
 refine cu (D := D) (fn := Tryd.f63) (c := Tryd.f63.body.getD .skip) [.fr 5 (.ints .u8 [])] (by kernel_rfl) (ah (by kernel_rfl)) (by kernel_rfl) (by kernel_rfl) (by kernel_rfl) trivial trivial ?_ ?_
 · rw [loops]; exact ⟨ayf, trivial⟩
 · intro args K r h
   unfold av at h
   split at h
   · rw [P.aon] at h; exact Eq.trans (by kernel_rfl) h
   · cases h
theorem ok : Proved Tryd.prog GLO.gB 63 spec := ok0
end ab0

end
