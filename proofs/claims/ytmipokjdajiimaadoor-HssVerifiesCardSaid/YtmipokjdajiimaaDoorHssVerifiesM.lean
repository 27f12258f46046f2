/-
  HssVerifies, part 13: an interpreter of my own over abstract values, the pure functions, the walks and the plain law.
-/

import Derived.Test.YtmipokjdajiimaaDoorHssVerifiesI
import Derived.Test.YtmipokjdajiimaaDoorHssVerifiesH
import Derived.Test.YtmipokjdajiimaaDoorProg
import Derived.Test.YtmipokjdajiimaaDoorHssVerifiesJ
import Derived.KernelRfl

section
open Go Go.Abs Go.Proofs
set_option maxRecDepth 100000
set_option maxHeartbeats 0
set_option linter.unusedVariables false

namespace y5
noncomputable def D : Ctx := ({ P := Tryd.prog, G := [], globs := GLO.gB, hints := [], loops := [], inl := [] } : Ctx)
theorem loops : dh (Tryd.f46.body.getD .skip) = [] := by kernel_rfl
noncomputable def au : Abs.Spec := fun args K => match args with
 | [.v (.int .i64 a)] => P.y5 a (fun b => K (.v (.int .u64 b)))
 | _ => none
noncomputable def spec : Abs.Spec := au
theorem ok0 : Proved Tryd.prog GLO.gB 46 au := by
 refine cu (D := D) (fn := Tryd.f46) (c := Tryd.f46.body.getD .skip) [.any] (by kernel_rfl) (aj (by kernel_rfl)) (by kernel_rfl) (by kernel_rfl) (by kernel_rfl) trivial trivial ?_ ?_
 · rw [loops]; exact trivial
 · intro args K r h
   unfold au at h
   split at h
   · rw [P.ala] at h; exact Eq.trans (by kernel_rfl) h
   · cases h
theorem ok : Proved Tryd.prog GLO.gB 46 spec := ok0
end y5

namespace pq
noncomputable def D : Ctx := ({ P := Tryd.prog, G := [], globs := GLO.gB, hints := [], loops := [], inl := [] } : Ctx)
theorem loops : dh (Tryd.f53.body.getD .skip) = [] := by kernel_rfl
noncomputable def au : Abs.Spec := fun args K => match args with
 | [.v (.int .i64 a)] => P.pq a (fun b => K (.v (.int .u64 b)))
 | _ => none
noncomputable def spec : Abs.Spec := au
theorem ok0 : Proved Tryd.prog GLO.gB 53 au := by
 refine cu (D := D) (fn := Tryd.f53) (c := Tryd.f53.body.getD .skip) [.any] (by kernel_rfl) (aj (by kernel_rfl)) (by kernel_rfl) (by kernel_rfl) (by kernel_rfl) trivial trivial ?_ ?_
 · rw [loops]; exact trivial
 · intro args K r h
   unfold au at h
   split at h
   · rw [P.afg] at h; exact Eq.trans (by kernel_rfl) h
   · cases h
theorem ok : Proved Tryd.prog GLO.gB 53 spec := ok0
end pq

namespace adl
noncomputable def D : Ctx := ({ P := Tryd.prog, G := [(46, y5.spec), (53, pq.spec)], globs := GLO.gB, hints := [], loops := [], inl := [] } : Ctx)
theorem loops : dh (Tryd.f30.body.getD .skip) = [] := by kernel_rfl
noncomputable def au : Abs.Spec := fun args K => match args with
 | [.agg [.v (.int .i64 a), .v (.int .i64 b)]] => P.adl a b (fun c => K (.v (.bool c)))
 | _ => none
noncomputable def spec : Abs.Spec := au
theorem ok0 : Proved Tryd.prog GLO.gB 30 au := by
 refine cu (D := D) (fn := Tryd.f30) (c := Tryd.f30.body.getD .skip) [.any] (by kernel_rfl) (aj (by kernel_rfl)) (by kernel_rfl) (by kernel_rfl) (by kernel_rfl) ⟨y5.ok, pq.ok, trivial⟩ trivial ?_ ?_
 · rw [loops]; exact trivial
 · intro args K r h
   unfold au at h
   split at h
   · rw [P.aol] at h; exact Eq.trans (by kernel_rfl) h
   · cases h
theorem ok : Proved Tryd.prog GLO.gB 30 spec := ok0
end adl

namespace aeo
abbrev X5 := P.zt2
def S5 : X5 → ASt := fun (k, d, e, f, i, j, a, b, c, g, h) => ⟨[(1, .ptr 0 0), (3, .v (.int .i64 k)), (11, .sl (.cols d [.ints .i64 e, .ints .i64 f])), (12, .v (.int .i64 i)), (13, .v (.int .i64 j))], [(0, some ⟨.box 25 [.sl (.cols a [.ints .i64 b, .ints .i64 c]), .sl (.ints .u8 g), .sl (.ints .u8 h)], false⟩)], 1, 50⟩
def V5 : ASt → Option X5
 | ⟨[(1, .ptr 0 0), (3, .v (.int .i64 k)), (11, .sl (.cols d [.ints .i64 e, .ints .i64 f])), (12, .v (.int .i64 i)), (13, .v (.int .i64 j))], [(0, some ⟨.box 25 [.sl (.cols a [.ints .i64 b, .ints .i64 c]), .sl (.ints .u8 g), .sl (.ints .u8 h)], false⟩)], 1, 50⟩ => some (k, d, e, f, i, j, a, b, c, g, h)
 | _ => none
theorem axn (st) (x) (h : V5 st = some x) : st = S5 x := by
 unfold V5 at h
 split at h
 · cases h; rfl
 · cases h
abbrev Y5 := P.zy2
def E5 (K : AExit → ASt → Option R) : Y5 → Option R := (Sum.elim (fun x => K (.exit 0) (S5 x)) (fun (j, f, g, a, b, c, d, e, h, i) => K .ret ⟨[(2, .v (.bool j))], [(1, some ⟨.box 44 [.v (.int .i64 f), .v (.int .i64 g)], false⟩), (1, some ⟨.box 44 [.v (.int .i64 a), .v (.int .i64 b)], false⟩), (0, some ⟨.box 25 [.sl (.cols c [.ints .i64 d, .ints .i64 e]), .sl (.ints .u8 h), .sl (.ints .u8 i)], false⟩)], 2, 50⟩))
noncomputable def L5 : sj := fun st K => ad3 (V5 st) fun x => P.zm2 x (E5 K)
noncomputable def D : Ctx := ({ P := Tryd.prog, G := [(30, adl.spec)], globs := GLO.gB, hints := [(5, ⟨[1, 3, 11, 12, 13], [], [2], [], none, [], [], []⟩)], loops := [(5, L5)], inl := [] } : Ctx)
theorem anq (K) (next) (x) : ko D (dw Tryd.f12 5) K next (S5 x) = P.zs2 x (fun x => next (S5 x)) (E5 K) := by kernel_rfl
theorem ax5 : jm D (dw Tryd.f12 5) := fq S5 axn (by kernel_rfl) P.ze2 anq
theorem loops : dh (Tryd.f12.body.getD .skip) = [dw Tryd.f12 5] := by kernel_rfl
noncomputable def au : Abs.Spec := fun args K => match args with
 | [.agg [.sl (.cols a [.ints .i64 b, .ints .i64 c]), .sl (.ints .u8 e), .sl (.ints .u8 d)]] => P.aeo a b c e d (fun f => K (.v (.bool f)))
 | _ => none
noncomputable def spec : Abs.Spec := fun args K => au (mo [.agg [.sl (.cols 0 [.ints .i64 [], .ints .i64 []]), .sl (.ints .u8 []), .sl (.ints .u8 [])]] args) K
theorem ok0 : Proved Tryd.prog GLO.gB 12 au := by
 refine cu (D := D) (fn := Tryd.f12) (c := Tryd.f12.body.getD .skip) [.any] (by kernel_rfl) (aj (by kernel_rfl)) (by kernel_rfl) (by kernel_rfl) (by kernel_rfl) ⟨adl.ok, trivial⟩ trivial ?_ ?_
 · rw [loops]; exact ⟨ax5, trivial⟩
 · intro args K r h
   unfold au at h
   split at h
   · rw [P.akc] at h; exact Eq.trans (by kernel_rfl) h
   · cases h
theorem ok : Proved Tryd.prog GLO.gB 12 spec := dz _ ok0
end aeo

namespace abt
abbrev X3 := P.zt3
def S3 : X3 → ASt := fun (d, a, b, c, e, f) => ⟨[(3, .v (.int .i64 d)), (7, .sl (.cols a [.ints .i64 b, .ints .i64 c])), (8, .v (.int .i64 e)), (9, .v (.int .i64 f))], [], 40, 19⟩
def V3 : ASt → Option X3
 | ⟨[(3, .v (.int .i64 d)), (7, .sl (.cols a [.ints .i64 b, .ints .i64 c])), (8, .v (.int .i64 e)), (9, .v (.int .i64 f))], [], 40, 19⟩ => some (d, a, b, c, e, f)
 | _ => none
theorem apk (st) (x) (h : V3 st = some x) : st = S3 x := by
 unfold V3 at h
 split at h
 · cases h; rfl
 · cases h
abbrev Y3 := P.zy3
def E3 (K : AExit → ASt → Option R) : Y3 → Option R := (fun x => K (.exit 0) (S3 x))
noncomputable def L3 : sj := fun st K => ad3 (V3 st) fun x => P.zm3 x (E3 K)
noncomputable def D : Ctx := ({ P := Tryd.prog, G := [], globs := GLO.gB, hints := [(3, ⟨[3, 7, 8, 9], [], [2], [], some (40, []), [], [], []⟩)], loops := [(3, L3)], inl := [] } : Ctx)
theorem ahc (K) (next) (x) : ko D (dw Tryd.f29 3) K next (S3 x) = P.zs3 x (fun x => next (S3 x)) (E3 K) := by kernel_rfl
theorem ao0 : jm D (dw Tryd.f29 3) := fq S3 apk (by kernel_rfl) P.ze3 ahc
theorem loops : dh (Tryd.f29.body.getD .skip) = [dw Tryd.f29 3] := by kernel_rfl
noncomputable def au : Abs.Spec := fun args K => match args with
 | [.agg [.sl (.cols a [.ints .i64 b, .ints .i64 c]), .sl (.ints .u8 e), .sl (.ints .u8 d)]] => P.abt a b c e d (fun f => K (.v (.int .i64 f)))
 | _ => none
noncomputable def spec : Abs.Spec := fun args K => au (mo [.agg [.sl (.cols 0 [.ints .i64 [], .ints .i64 []]), .sl (.ints .u8 []), .sl (.ints .u8 [])]] args) K
theorem ok0 : Proved Tryd.prog GLO.gB 29 au := by
 refine cu (D := D) (fn := Tryd.f29) (c := Tryd.f29.body.getD .skip) [.any] (by kernel_rfl) (aj (by kernel_rfl)) (by kernel_rfl) (by kernel_rfl) (by kernel_rfl) trivial trivial ?_ ?_
 · rw [loops]; exact ⟨ao0, trivial⟩
 · intro args K r h
   unfold au at h
   split at h
   · rw [P.ata] at h; exact Eq.trans (by kernel_rfl) h
   · cases h
theorem ok : Proved Tryd.prog GLO.gB 29 spec := dz _ ok0
end abt

namespace abo
noncomputable def D : Ctx := ({ P := Tryd.prog, G := [(12, aeo.spec), (29, abt.spec)], globs := GLO.gB, hints := [], loops := [], inl := [] } : Ctx)
theorem loops : dh (Tryd.f14.body.getD .skip) = [] := by kernel_rfl
noncomputable def au : Abs.Spec := fun args K => match args with
 | [.agg [.sl (.cols a [.ints .i64 b, .ints .i64 c]), .sl (.ints .u8 e), .sl (.ints .u8 d)]] => P.abo a b c e d (fun f => K (.v (.int .u64 f)))
 | _ => none
noncomputable def spec : Abs.Spec := fun args K => au (mo [.agg [.sl (.cols 0 [.ints .i64 [], .ints .i64 []]), .sl (.ints .u8 []), .sl (.ints .u8 [])]] args) K
theorem ok0 : Proved Tryd.prog GLO.gB 14 au := by
 refine cu (D := D) (fn := Tryd.f14) (c := Tryd.f14.body.getD .skip) [.any] (by kernel_rfl) (aj (by kernel_rfl)) (by kernel_rfl) (by kernel_rfl) (by kernel_rfl) ⟨aeo.ok, abt.ok, trivial⟩ trivial ?_ ?_
 · rw [loops]; exact trivial
 · intro args K r h
   unfold au at h
   split at h
   · rw [P.amz] at h; exact Eq.trans (by kernel_rfl) h
   · cases h
theorem ok : Proved Tryd.prog GLO.gB 14 spec := dz _ ok0
end abo

namespace abq
abbrev X8 := P.zt4
def S8 : X8 → ASt := fun (g, h, a, b, c, d, e, f) => ⟨[(6, .own 40), (1, .v (.int .u64 g)), (7, .v (.int .i64 h)), (23, .sl (.cols a [.ints .i64 b, .ints .i64 c])), (24, .v (.int .i64 d)), (25, .v (.int .i64 e))], [(40, some ⟨.row 42 (.ints .u32 f), false⟩)], 41, 47⟩
def V8 : ASt → Option X8
 | ⟨[(6, .own 40), (1, .v (.int .u64 g)), (7, .v (.int .i64 h)), (23, .sl (.cols a [.ints .i64 b, .ints .i64 c])), (24, .v (.int .i64 d)), (25, .v (.int .i64 e))], [(40, some ⟨.row 42 (.ints .u32 f), false⟩)], 41, 47⟩ => some (g, h, a, b, c, d, e, f)
 | _ => none
theorem ayd (st) (x) (h : V8 st = some x) : st = S8 x := by
 unfold V8 at h
 split at h
 · cases h; rfl
 · cases h
abbrev Y8 := P.zy4
def E8 (K : AExit → ASt → Option R) : Y8 → Option R := (fun x => K (.exit 1) (S8 x))
noncomputable def L8 : sj := fun st K => ad3 (V8 st) fun x => P.zm4 x (E8 K)
noncomputable def D : Ctx := ({ P := Tryd.prog, G := [(12, aeo.spec), (29, abt.spec)], globs := GLO.gB, hints := [(8, ⟨[1, 7, 23, 24, 25], [(6, 42, .ints .u32 [])], [4, 5], [], some (40, []), [], [], []⟩)], loops := [(8, L8)], inl := [] } : Ctx)
theorem amj (K) (next) (x) : ko D (dw Tryd.f10 8) K next (S8 x) = P.zs4 x (fun x => next (S8 x)) (E8 K) := by kernel_rfl
theorem axb : jm D (dw Tryd.f10 8) := fq S8 ayd (by kernel_rfl) P.ze4 amj
theorem loops : dh (Tryd.f10.body.getD .skip) = [dw Tryd.f10 8] := by kernel_rfl
noncomputable def au : Abs.Spec := fun args K => match args with
 | [.agg [.sl (.cols a [.ints .i64 b, .ints .i64 c]), .sl (.ints .u8 e), .sl (.ints .u8 d)], .v (.int .u64 f)] => P.abq a b c e d f (fun g h => K (.tuple [.fr 42 (.ints .u32 g), .v (.int .i64 h)]))
 | _ => none
noncomputable def spec : Abs.Spec := fun args K => au (mo [.agg [.sl (.cols 0 [.ints .i64 [], .ints .i64 []]), .sl (.ints .u8 []), .sl (.ints .u8 [])], .any] args) K
theorem ok0 : Proved Tryd.prog GLO.gB 10 au := by
 refine cu (D := D) (fn := Tryd.f10) (c := Tryd.f10.body.getD .skip) [.fr 42 (.ints .u32 []), .any] (by kernel_rfl) (aj (by kernel_rfl)) (by kernel_rfl) (by kernel_rfl) (by kernel_rfl) ⟨aeo.ok, abt.ok, trivial⟩ trivial ?_ ?_
 · rw [loops]; exact ⟨axb, trivial⟩
 · intro args K r h
   unfold au at h
   split at h
   · rw [P.aob] at h; exact Eq.trans (by kernel_rfl) h
   · cases h
theorem ok : Proved Tryd.prog GLO.gB 10 spec := dz _ ok0
end abq

namespace iy
abbrev X3 := P.zt5
def S3 : X3 → ASt := fun (a, b, c, d) => ⟨[(3, .v (.int .u64 a)), (6, .sl (.ints .u8 b)), (7, .v (.int .i64 c)), (8, .v (.int .i64 d))], [], 0, 19⟩
def V3 : ASt → Option X3
 | ⟨[(3, .v (.int .u64 a)), (6, .sl (.ints .u8 b)), (7, .v (.int .i64 c)), (8, .v (.int .i64 d))], [], 0, 19⟩ => some (a, b, c, d)
 | _ => none
theorem apk (st) (x) (h : V3 st = some x) : st = S3 x := by
 unfold V3 at h
 split at h
 · cases h; rfl
 · cases h
abbrev Y3 := P.zy5
def E3 (K : AExit → ASt → Option R) : Y3 → Option R := (fun x => K (.exit 0) (S3 x))
noncomputable def L3 : sj := fun st K => ad3 (V3 st) fun x => P.zm5 x (E3 K)
noncomputable def D : Ctx := ({ P := Tryd.prog, G := [], globs := GLO.gB, hints := [(3, ⟨[3, 6, 7, 8], [], [2], [], none, [], [], []⟩)], loops := [(3, L3)], inl := [] } : Ctx)
theorem ahc (K) (next) (x) : ko D (dw Tryd.f32 3) K next (S3 x) = P.zs5 x (fun x => next (S3 x)) (E3 K) := by kernel_rfl
theorem ao0 : jm D (dw Tryd.f32 3) := fq S3 apk (by kernel_rfl) P.ze5 ahc
theorem loops : dh (Tryd.f32.body.getD .skip) = [dw Tryd.f32 3] := by kernel_rfl
noncomputable def au : Abs.Spec := fun args K => match args with
 | [.sl (.ints .u8 a)] => P.iy a (fun b => K (.v (.int .u64 b)))
 | _ => none
noncomputable def spec : Abs.Spec := fun args K => au (mo [.sl (.ints .u8 [])] args) K
theorem ok0 : Proved Tryd.prog GLO.gB 32 au := by
 refine cu (D := D) (fn := Tryd.f32) (c := Tryd.f32.body.getD .skip) [.any] (by kernel_rfl) (aj (by kernel_rfl)) (by kernel_rfl) (by kernel_rfl) (by kernel_rfl) trivial trivial ?_ ?_
 · rw [loops]; exact ⟨ao0, trivial⟩
 · intro args K r h
   unfold au at h
   split at h
   · rw [P.at5] at h; exact Eq.trans (by kernel_rfl) h
   · cases h
theorem ok : Proved Tryd.prog GLO.gB 32 spec := dz _ ok0
end iy

namespace l7
noncomputable def D : Ctx := ({ P := Tryd.prog, G := [], globs := GLO.gB, hints := [], loops := [], inl := [] } : Ctx)
theorem loops : dh (Tryd.f83.body.getD .skip) = [] := by kernel_rfl
noncomputable def au : Abs.Spec := fun args K => match args with
 | [.v (.slice none 0 0), .v (.int .i64 a)] => P.l7 a (fun b => K (.fr 5 (.ints .u8 b)))
 | _ => none
noncomputable def spec : Abs.Spec := au
theorem ok0 : Proved Tryd.prog GLO.gB 83 au := by
 refine apr (D := D) (fn := Tryd.f83) (c := Tryd.f83.body.getD .skip) 5 (.ints .u8 []) (by kernel_rfl) (aj (by kernel_rfl)) (by kernel_rfl) (by kernel_rfl) (by kernel_rfl) trivial trivial ?_ ?_
 · rw [loops]; exact trivial
 · intro args K r h
   unfold au at h
   split at h
   · rw [P.aff] at h; exact Eq.trans (by kernel_rfl) h
   · cases h
theorem ok : Proved Tryd.prog GLO.gB 83 spec := ok0
end l7

namespace gq
abbrev X3 := P.zt6
def S3 : X3 → ASt := fun (c, d, e, a, b) => ⟨[(0, .sl (.rows .u8 c)), (3, .v (.int .i64 d)), (9, .sl (.rows .u8 e)), (10, .v (.int .i64 a)), (11, .v (.int .i64 b))], [], 0, 36⟩
def V3 : ASt → Option X3
 | ⟨[(0, .sl (.rows .u8 c)), (3, .v (.int .i64 d)), (9, .sl (.rows .u8 e)), (10, .v (.int .i64 a)), (11, .v (.int .i64 b))], [], 0, 36⟩ => some (c, d, e, a, b)
 | _ => none
theorem apk (st) (x) (h : V3 st = some x) : st = S3 x := by
 unfold V3 at h
 split at h
 · cases h; rfl
 · cases h
abbrev Y3 := P.zy6
abbrev X11 := P.zt7
def S11 : X11 → ASt := fun (a, b, c, d) => ⟨[(6, .own 1), (25, .sl (.rows .u8 a)), (26, .v (.int .i64 b)), (27, .v (.int .i64 c))], [(1, some ⟨.row 5 (.ints .u8 d), false⟩), (0, none)], 2, 36⟩
def V11 : ASt → Option X11
 | ⟨[(6, .own 1), (25, .sl (.rows .u8 a)), (26, .v (.int .i64 b)), (27, .v (.int .i64 c))], [(1, some ⟨.row 5 (.ints .u8 d), false⟩), (0, none)], 2, 36⟩ => some (a, b, c, d)
 | _ => none
theorem azp (st) (x) (h : V11 st = some x) : st = S11 x := by
 unfold V11 at h
 split at h
 · cases h; rfl
 · cases h
abbrev Y11 := P.zy7
def E3 (K : AExit → ASt → Option R) : Y3 → Option R := (fun x => K (.exit 0) (S3 x))
noncomputable def L3 : sj := fun st K => ad3 (V3 st) fun x => P.zm6 x (E3 K)
def E11 (K : AExit → ASt → Option R) : Y11 → Option R := (fun x => K (.exit 2) (S11 x))
noncomputable def L11 : sj := fun st K => ad3 (V11 st) fun x => P.zm7 x (E11 K)
noncomputable def D : Ctx := ({ P := Tryd.prog, G := [(83, l7.spec)], globs := GLO.gB, hints := [(11, ⟨[25, 26, 27], [(6, 5, .ints .u8 [])], [2], [], none, [], [], []⟩), (3, ⟨[0, 3, 9, 10, 11], [], [2], [], none, [], [], []⟩)], loops := [(3, L3), (11, L11)], inl := [] } : Ctx)
theorem ahc (K) (next) (x) : ko D (dw Tryd.f62 3) K next (S3 x) = P.zs6 x (fun x => next (S3 x)) (E3 K) := by kernel_rfl
theorem ao0 : jm D (dw Tryd.f62 3) := fq S3 apk (by kernel_rfl) P.ze6 ahc
theorem arx (K) (next) (x) : ko D (dw Tryd.f62 11) K next (S11 x) = P.zs7 x (fun x => next (S11 x)) (E11 K) := by kernel_rfl
theorem azc : jm D (dw Tryd.f62 11) := fq S11 azp (by kernel_rfl) P.ze7 arx
theorem loops : dh (Tryd.f62.body.getD .skip) = [dw Tryd.f62 3, dw Tryd.f62 11] := by kernel_rfl
noncomputable def au : Abs.Spec := fun args K => match args with
 | [.sl (.rows .u8 a)] => P.gq a (fun b => K (.fr 5 (.ints .u8 b)))
 | _ => none
noncomputable def spec : Abs.Spec := fun args K => au (mo [.sl (.rows .u8 [])] args) K
theorem ok0 : Proved Tryd.prog GLO.gB 62 au := by
 refine cu (D := D) (fn := Tryd.f62) (c := Tryd.f62.body.getD .skip) [.fr 5 (.ints .u8 [])] (by kernel_rfl) (aj (by kernel_rfl)) (by kernel_rfl) (by kernel_rfl) (by kernel_rfl) ⟨l7.ok, trivial⟩ trivial ?_ ?_
 · rw [loops]; exact ⟨ao0, azc, trivial⟩
 · intro args K r h
   unfold au at h
   split at h
   · rw [P.aeb] at h; exact Eq.trans (by kernel_rfl) h
   · cases h
theorem ok : Proved Tryd.prog GLO.gB 62 spec := dz _ ok0
end gq

namespace jq
noncomputable def D : Ctx := ({ P := Tryd.prog, G := [(62, gq.spec)], globs := GLO.gB, hints := [], loops := [], inl := [] } : Ctx)
theorem loops : dh (Tryd.f37.body.getD .skip) = [] := by kernel_rfl
noncomputable def au : Abs.Spec := fun args K => match args with
 | [.sl (.rows .u8 a)] => P.jq a (fun b => K (.fr 5 (.ints .u8 b)))
 | _ => none
noncomputable def spec : Abs.Spec := fun args K => au (mo [.sl (.rows .u8 [])] args) K
theorem ok0 : Proved Tryd.prog GLO.gB 37 au := by
 refine cu (D := D) (fn := Tryd.f37) (c := Tryd.f37.body.getD .skip) [.fr 5 (.ints .u8 [])] (by kernel_rfl) (aj (by kernel_rfl)) (by kernel_rfl) (by kernel_rfl) (by kernel_rfl) ⟨gq.ok, trivial⟩ trivial ?_ ?_
 · rw [loops]; exact trivial
 · intro args K r h
   unfold au at h
   split at h
   · rw [P.apz] at h; exact Eq.trans (by kernel_rfl) h
   · cases h
theorem ok : Proved Tryd.prog GLO.gB 37 spec := dz _ ok0
end jq

namespace l6
noncomputable def D : Ctx := ({ P := Tryd.prog, G := [], globs := GLO.gB, hints := [], loops := [], inl := [] } : Ctx)
theorem loops : dh (Tryd.f74.body.getD .skip) = [] := by kernel_rfl
noncomputable def au : Abs.Spec := fun args K => match args with
 | [.v (.int .i64 d)] => P.l6 d (fun a b c e => K (.tuple [.agg [.v (.int .i64 a), .v (.int .i64 b), .v (.int .i64 c)], .v (.bool e)]))
 | _ => none
noncomputable def spec : Abs.Spec := au
theorem ok0 : Proved Tryd.prog GLO.gB 74 au := by
 refine cu (D := D) (fn := Tryd.f74) (c := Tryd.f74.body.getD .skip) [.any, .any] (by kernel_rfl) (aj (by kernel_rfl)) (by kernel_rfl) (by kernel_rfl) (by kernel_rfl) trivial trivial ?_ ?_
 · rw [loops]; exact trivial
 · intro args K r h
   unfold au at h
   split at h
   · rw [P.aah] at h; exact Eq.trans (by kernel_rfl) h
   · cases h
theorem ok : Proved Tryd.prog GLO.gB 74 spec := ok0
end l6

namespace je
noncomputable def D : Ctx := ({ P := Tryd.prog, G := [(74, l6.spec)], globs := GLO.gB, hints := [], loops := [], inl := [] } : Ctx)
theorem loops : dh (Tryd.f49.body.getD .skip) = [] := by kernel_rfl
noncomputable def au : Abs.Spec := fun args K => match args with
 | [.v (.int .i64 a)] => P.je a (fun b => K (.v (.int .i64 b)))
 | _ => none
noncomputable def spec : Abs.Spec := au
theorem ok0 : Proved Tryd.prog GLO.gB 49 au := by
 refine cu (D := D) (fn := Tryd.f49) (c := Tryd.f49.body.getD .skip) [.any] (by kernel_rfl) (aj (by kernel_rfl)) (by kernel_rfl) (by kernel_rfl) (by kernel_rfl) ⟨l6.ok, trivial⟩ trivial ?_ ?_
 · rw [loops]; exact trivial
 · intro args K r h
   unfold au at h
   split at h
   · rw [P.aod] at h; exact Eq.trans (by kernel_rfl) h
   · cases h
theorem ok : Proved Tryd.prog GLO.gB 49 spec := ok0
end je

namespace ae3
noncomputable def D : Ctx := ({ P := Tryd.prog, G := [(30, adl.spec), (49, je.spec)], globs := GLO.gB, hints := [], loops := [], inl := [] } : Ctx)
theorem loops : dh (Tryd.f26.body.getD .skip) = [] := by kernel_rfl
noncomputable def au : Abs.Spec := fun args K => match args with
 | [.agg [.v (.int .i64 a), .v (.int .i64 b)]] => P.ae3 a b (fun c => K (.v (.int .i64 c)))
 | _ => none
noncomputable def spec : Abs.Spec := au
theorem ok0 : Proved Tryd.prog GLO.gB 26 au := by
 refine cu (D := D) (fn := Tryd.f26) (c := Tryd.f26.body.getD .skip) [.any] (by kernel_rfl) (aj (by kernel_rfl)) (by kernel_rfl) (by kernel_rfl) (by kernel_rfl) ⟨adl.ok, je.ok, trivial⟩ trivial ?_ ?_
 · rw [loops]; exact trivial
 · intro args K r h
   unfold au at h
   split at h
   · rw [P.arz] at h; exact Eq.trans (by kernel_rfl) h
   · cases h
theorem ok : Proved Tryd.prog GLO.gB 26 spec := ok0
end ae3

namespace ow
noncomputable def D : Ctx := ({ P := Tryd.prog, G := [], globs := GLO.gB, hints := [], loops := [], inl := [] } : Ctx)
theorem loops : dh (Tryd.f48.body.getD .skip) = [] := by kernel_rfl
noncomputable def au : Abs.Spec := fun args K => match args with
 | [.v (.int .u64 a)] => P.ow a (fun b => K (.v (.int .i64 b)))
 | _ => none
noncomputable def spec : Abs.Spec := au
theorem ok0 : Proved Tryd.prog GLO.gB 48 au := by
 refine cu (D := D) (fn := Tryd.f48) (c := Tryd.f48.body.getD .skip) [.any] (by kernel_rfl) (aj (by kernel_rfl)) (by kernel_rfl) (by kernel_rfl) (by kernel_rfl) trivial trivial ?_ ?_
 · rw [loops]; exact trivial
 · intro args K r h
   unfold au at h
   split at h
   · rw [P.aqk] at h; exact Eq.trans (by kernel_rfl) h
   · cases h
theorem ok : Proved Tryd.prog GLO.gB 48 spec := ok0
end ow

namespace lg
noncomputable def D : Ctx := ({ P := Tryd.prog, G := [], globs := GLO.gB, hints := [], loops := [], inl := [] } : Ctx)
theorem loops : dh (Tryd.f50.body.getD .skip) = [] := by kernel_rfl
noncomputable def au : Abs.Spec := fun args K => match args with
 | [.v (.int .u64 a)] => P.lg a (fun b => K (.v (.int .i64 b)))
 | _ => none
noncomputable def spec : Abs.Spec := au
theorem ok0 : Proved Tryd.prog GLO.gB 50 au := by
 refine cu (D := D) (fn := Tryd.f50) (c := Tryd.f50.body.getD .skip) [.any] (by kernel_rfl) (aj (by kernel_rfl)) (by kernel_rfl) (by kernel_rfl) (by kernel_rfl) trivial trivial ?_ ?_
 · rw [loops]; exact trivial
 · intro args K r h
   unfold au at h
   split at h
   · rw [P.aof] at h; exact Eq.trans (by kernel_rfl) h
   · cases h
theorem ok : Proved Tryd.prog GLO.gB 50 spec := ok0
end lg

namespace zq
noncomputable def D : Ctx := ({ P := Tryd.prog, G := [(26, ae3.spec), (32, iy.spec), (37, jq.spec), (48, ow.spec), (49, je.spec), (50, lg.spec)], globs := GLO.gB, hints := [], loops := [], inl := [] } : Ctx)
theorem loops : dh (Tryd.f25.body.getD .skip) = [] := by kernel_rfl
noncomputable def au : Abs.Spec := fun args K => match args with
 | [.sl (.ints .u8 c)] => P.zq c (fun d a b e f => K (.tuple [.fr 5 (.ints .u8 d), .agg [.v (.int .i64 a), .v (.int .i64 b)], .fr 5 (.ints .u8 e), .v (.int .i64 f)]))
 | _ => none
noncomputable def spec : Abs.Spec := fun args K => au (mo [.sl (.ints .u8 [])] args) K
theorem ok0 : Proved Tryd.prog GLO.gB 25 au := by
 refine cu (D := D) (fn := Tryd.f25) (c := Tryd.f25.body.getD .skip) [.fr 5 (.ints .u8 []), .any, .fr 5 (.ints .u8 []), .any] (by kernel_rfl) (aj (by kernel_rfl)) (by kernel_rfl) (by kernel_rfl) (by kernel_rfl) ⟨ae3.ok, iy.ok, jq.ok, ow.ok, je.ok, lg.ok, trivial⟩ trivial ?_ ?_
 · rw [loops]; exact trivial
 · intro args K r h
   unfold au at h
   split at h
   · rw [P.au8] at h; exact Eq.trans (by kernel_rfl) h
   · cases h
theorem ok : Proved Tryd.prog GLO.gB 25 spec := dz _ ok0
end zq

namespace uh
abbrev X5 := P.brs
def S5 : X5 → ASt := fun (c, d, e, a, b) => ⟨[(0, .sl (.ints .u8 c)), (1, .sl (.ints .u8 d)), (5, .v (.int .u8 e)), (13, .v (.int .i64 a)), (14, .v (.int .i64 b))], [], 0, 31⟩
def V5 : ASt → Option X5
 | ⟨[(0, .sl (.ints .u8 c)), (1, .sl (.ints .u8 d)), (5, .v (.int .u8 e)), (13, .v (.int .i64 a)), (14, .v (.int .i64 b))], [], 0, 31⟩ => some (c, d, e, a, b)
 | _ => none
theorem axn (st) (x) (h : V5 st = some x) : st = S5 x := by
 unfold V5 at h
 split at h
 · cases h; rfl
 · cases h
abbrev Y5 := P.bvw
def E5 (K : AExit → ASt → Option R) : Y5 → Option R := (fun x => K (.exit 0) (S5 x))
noncomputable def L5 : sj := fun st K => ad3 (V5 st) fun x => P.bwk x (E5 K)
noncomputable def D : Ctx := ({ P := Tryd.prog, G := [], globs := GLO.gB, hints := [(5, ⟨[0, 1, 5, 13, 14], [], [4], [], none, [], [], []⟩)], loops := [(5, L5)], inl := [] } : Ctx)
theorem anq (K) (next) (x) : ko D (dw Tryd.f51 5) K next (S5 x) = P.brv x (fun x => next (S5 x)) (E5 K) := by kernel_rfl
theorem ax5 : jm D (dw Tryd.f51 5) := fq S5 axn (by kernel_rfl) P.by9 anq
theorem loops : dh (Tryd.f51.body.getD .skip) = [dw Tryd.f51 5] := by kernel_rfl
noncomputable def au : Abs.Spec := fun args K => match args with
 | [.sl (.ints .u8 a), .sl (.ints .u8 b)] => P.uh a b (fun c => K (.v (.bool c)))
 | _ => none
noncomputable def spec : Abs.Spec := fun args K => au (mo [.sl (.ints .u8 []), .sl (.ints .u8 [])] args) K
theorem ok0 : Proved Tryd.prog GLO.gB 51 au := by
 refine cu (D := D) (fn := Tryd.f51) (c := Tryd.f51.body.getD .skip) [.any] (by kernel_rfl) (aj (by kernel_rfl)) (by kernel_rfl) (by kernel_rfl) (by kernel_rfl) trivial trivial ?_ ?_
 · rw [loops]; exact ⟨ax5, trivial⟩
 · intro args K r h
   unfold au at h
   split at h
   · rw [P.aql] at h; exact Eq.trans (by kernel_rfl) h
   · cases h
theorem ok : Proved Tryd.prog GLO.gB 51 spec := dz _ ok0
end uh

namespace adf
abbrev X5 := P.zt8
def S5 : X5 → ASt := fun (c, a, b, d) => ⟨[(0, .v (.int .u64 c)), (5, .own 0), (16, .v (.int .i64 a)), (17, .v (.int .i64 b))], [(0, some ⟨.row 5 (.ints .u8 d), false⟩)], 1, 30⟩
def V5 : ASt → Option X5
 | ⟨[(0, .v (.int .u64 c)), (5, .own 0), (16, .v (.int .i64 a)), (17, .v (.int .i64 b))], [(0, some ⟨.row 5 (.ints .u8 d), false⟩)], 1, 30⟩ => some (c, a, b, d)
 | _ => none
theorem axn (st) (x) (h : V5 st = some x) : st = S5 x := by
 unfold V5 at h
 split at h
 · cases h; rfl
 · cases h
abbrev Y5 := P.zy8
def E5 (K : AExit → ASt → Option R) : Y5 → Option R := (fun x => K (.exit 0) (S5 x))
noncomputable def L5 : sj := fun st K => ad3 (V5 st) fun x => P.zm8 x (E5 K)
noncomputable def D : Ctx := ({ P := Tryd.prog, G := [], globs := GLO.gB, hints := [(5, ⟨[0, 5, 16, 17], [], [4], [], none, [], [], []⟩)], loops := [(5, L5)], inl := [] } : Ctx)
theorem anq (K) (next) (x) : ko D (dw Tryd.f63 5) K next (S5 x) = P.zs8 x (fun x => next (S5 x)) (E5 K) := by kernel_rfl
theorem ax5 : jm D (dw Tryd.f63 5) := fq S5 axn (by kernel_rfl) P.ze8 anq
theorem loops : dh (Tryd.f63.body.getD .skip) = [dw Tryd.f63 5] := by kernel_rfl
noncomputable def au : Abs.Spec := fun args K => match args with
 | [.v (.int .u64 a), .v (.int .i64 b)] => P.adf a b (fun c => K (.fr 5 (.ints .u8 c)))
 | _ => none
noncomputable def spec : Abs.Spec := au
theorem ok0 : Proved Tryd.prog GLO.gB 63 au := by
 refine cu (D := D) (fn := Tryd.f63) (c := Tryd.f63.body.getD .skip) [.fr 5 (.ints .u8 [])] (by kernel_rfl) (aj (by kernel_rfl)) (by kernel_rfl) (by kernel_rfl) (by kernel_rfl) trivial trivial ?_ ?_
 · rw [loops]; exact ⟨ax5, trivial⟩
 · intro args K r h
   unfold au at h
   split at h
   · rw [P.awg] at h; exact Eq.trans (by kernel_rfl) h
   · cases h
theorem ok : Proved Tryd.prog GLO.gB 63 spec := ok0
end adf

end
