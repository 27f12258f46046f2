/-
  LeaseSpent, part 16: an interpreter of my own over abstract values, the pure functions, the walks and the plain law.
-/

import Derived.Test.YtkfjafaabbmapaaDoorLeaseSpentK
import Derived.Test.YtkfjafaabbmapaaDoorLeaseSpentH
import Derived.Test.YtkfjafaabbmapaaDoorProg
import Derived.Test.YtkfjafaabbmapaaDoorLeaseSpentJ
import Derived.Test.YtkfjafaabbmapaaDoorLeaseSpentO
import Derived.KernelRfl
import Derived.Test.YtkfjafaabbmapaaDoorLeaseSpentN

section
open Go Go.Abs Go.Proofs
set_option maxRecDepth 100000
set_option maxHeartbeats 0
set_option linter.unusedVariables false

namespace aec
abbrev X4 := P.bke
def S4 : X4 → ASt := fun (f, g, e, a, b, c, d) => ⟨[(5, .own 40), (1, .ptr 0 0), (3, .v (.int .i64 f)), (4, .v (.int .u64 g))], [(40, some ⟨.row 5 (.ints .u8 e), false⟩), (0, some ⟨.box 113 [.v (.int .i64 a), .arr .u64 8 b, .sl (.ints .u8 c), .v (.int .u64 d)], false⟩)], 41, 77⟩
def V4 : ASt → Option X4
 | ⟨[(5, .own 40), (1, .ptr 0 0), (3, .v (.int .i64 f)), (4, .v (.int .u64 g))], [(40, some ⟨.row 5 (.ints .u8 e), false⟩), (0, some ⟨.box 113 [.v (.int .i64 a), .arr .u64 8 b, .sl (.ints .u8 c), .v (.int .u64 d)], false⟩)], 41, 77⟩ => some (f, g, e, a, b, c, d)
 | _ => none
theorem ape (st) (x) (h : V4 st = some x) : st = S4 x := by
 unfold V4 at h
 split at h
 · cases h; rfl
 · cases h
abbrev Y4 := P.bpa
abbrev X8 := P.bki
def S8 : X8 → ASt := fun (f, g, e, a, b, c, d) => ⟨[(5, .own 80), (1, .ptr 0 0), (3, .v (.int .i64 f)), (4, .v (.int .u64 g))], [(80, some ⟨.row 5 (.ints .u8 e), false⟩), (0, some ⟨.box 113 [.v (.int .i64 a), .arr .u64 8 b, .sl (.ints .u8 c), .v (.int .u64 d)], false⟩)], 81, 77⟩
def V8 : ASt → Option X8
 | ⟨[(5, .own 80), (1, .ptr 0 0), (3, .v (.int .i64 f)), (4, .v (.int .u64 g))], [(80, some ⟨.row 5 (.ints .u8 e), false⟩), (0, some ⟨.box 113 [.v (.int .i64 a), .arr .u64 8 b, .sl (.ints .u8 c), .v (.int .u64 d)], false⟩)], 81, 77⟩ => some (f, g, e, a, b, c, d)
 | _ => none
theorem aw1 (st) (x) (h : V8 st = some x) : st = S8 x := by
 unfold V8 at h
 split at h
 · cases h; rfl
 · cases h
abbrev Y8 := P.bmy
abbrev X14 := P.bi1
def S14 : X14 → ASt := fun (f, g, a, b, c, d, e) => ⟨[(6, .own 120), (1, .ptr 0 0), (3, .v (.int .i64 f)), (7, .v (.int .i64 g))], [(120, some ⟨.row 5 (.ints .u8 a), false⟩), (0, some ⟨.box 113 [.v (.int .i64 b), .arr .u64 8 c, .sl (.ints .u8 d), .v (.int .u64 e)], false⟩)], 121, 77⟩
def V14 : ASt → Option X14
 | ⟨[(6, .own 120), (1, .ptr 0 0), (3, .v (.int .i64 f)), (7, .v (.int .i64 g))], [(120, some ⟨.row 5 (.ints .u8 a), false⟩), (0, some ⟨.box 113 [.v (.int .i64 b), .arr .u64 8 c, .sl (.ints .u8 d), .v (.int .u64 e)], false⟩)], 121, 77⟩ => some (f, g, a, b, c, d, e)
 | _ => none
theorem bj2 (st) (x) (h : V14 st = some x) : st = S14 x := by
 unfold V14 at h
 split at h
 · cases h; rfl
 · cases h
abbrev Y14 := P.bpl
def E4 (K : AExit → ASt → Option R) : Y4 → Option R := (fun x => K (.exit 0) (S4 x))
noncomputable def L4 : yc := fun st K => agy (V4 st) fun x => P.boj x (E4 K)
def E8 (K : AExit → ASt → Option R) : Y8 → Option R := (fun x => K (.exit 2) (S8 x))
noncomputable def L8 : yc := fun st K => agy (V8 st) fun x => P.bnp x (E8 K)
def E14 (K : AExit → ASt → Option R) : Y14 → Option R := (fun x => K (.exit 4) (S14 x))
noncomputable def L14 : yc := fun st K => agy (V14 st) fun x => P.bps x (E14 K)
noncomputable def D : Ctx := ({ P := Tryd.prog, G := [(60, aan.spec), (74, aaq.spec), (82, um.spec)], globs := GLO.gB, hints := [(14, ⟨[1, 3, 7], [(6, 5, .ints .u8 [])], [2], [], some (120, [0]), [0], [], []⟩), (8, ⟨[1, 3, 4], [(5, 5, .ints .u8 [])], [2], [], some (80, [0]), [0], [], []⟩), (4, ⟨[1, 3, 4], [(5, 5, .ints .u8 [])], [2], [], some (40, [0]), [0], [], []⟩)], loops := [(4, L4), (8, L8), (14, L14)], inl := [] } : Ctx)
theorem ahu (K) (next) (x) : oq D (jc Tryd.f73 4) K next (S4 x) = P.bi9 x (fun x => next (S4 x)) (E4 K) := by kernel_rfl
theorem an8 : nk D (jc Tryd.f73 4) := jo S4 ape (by kernel_rfl) P.bp9 ahu
theorem apb (K) (next) (x) : oq D (jc Tryd.f73 8) K next (S8 x) = P.bj0 x (fun x => next (S8 x)) (E8 K) := by kernel_rfl
theorem av5 : nk D (jc Tryd.f73 8) := jo S8 aw1 (by kernel_rfl) P.bpv apb
theorem bgc (K) (next) (x) : oq D (jc Tryd.f73 14) K next (S14 x) = P.bj8 x (fun x => next (S14 x)) (E14 K) := by kernel_rfl
theorem bkn : nk D (jc Tryd.f73 14) := jo S14 bj2 (by kernel_rfl) P.bp3 bgc
theorem loops : d9 (Tryd.f73.body.getD .skip) = [jc Tryd.f73 4, jc Tryd.f73 8, jc Tryd.f73 14] := by kernel_rfl
noncomputable def dn : Abs.Spec := fun args K => match args with
 | [.agg [.v (.int .i64 b), .arr .u64 8 a, .sl (.ints .u8 c), .v (.int .u64 d)]] => P.aec b a c d (fun e => K (.fr 5 (.ints .u8 e)))
 | _ => none
noncomputable def spec : Abs.Spec := fun args K => dn (p9 [.agg [.any, .any, .sl (.ints .u8 []), .any]] args) K
theorem ok0 : Proved Tryd.prog GLO.gB 73 dn := by
 refine alg (D := D) (fn := Tryd.f73) (c := Tryd.f73.body.getD .skip) 5 (.ints .u8 []) (by kernel_rfl) (bf (by kernel_rfl)) (by kernel_rfl) (by kernel_rfl) (by kernel_rfl) ⟨aan.ok, aaq.ok, um.ok, trivial⟩ trivial ?_ ?_
 · rw [loops]; exact ⟨an8, av5, bkn, trivial⟩
 · intro args K r h
   unfold dn at h
   split at h
   · rw [P.aqk] at h; exact Eq.trans (by kernel_rfl) h
   · cases h
theorem ok : Proved Tryd.prog GLO.gB 73 spec := jd _ ok0
end aec

namespace ad9
noncomputable def D : Ctx := ({ P := Tryd.prog, G := [], globs := GLO.gB, hints := [], loops := [], inl := [] } : Ctx)
theorem loops : d9 (Tryd.f72.body.getD .skip) = [] := by kernel_rfl
noncomputable def dn : Abs.Spec := fun args K => match args with
 | [.v (.int .i64 e)] => P.ad9 e (fun b a c d f => K (.tuple [.agg [.v (.int .i64 b), .arr .u64 8 a, .fr 5 (.ints .u8 c), .v (.int .u64 d)], .v (.int .i64 f)]))
 | _ => none
noncomputable def spec : Abs.Spec := dn
theorem ok0 : Proved Tryd.prog GLO.gB 72 dn := by
 refine gq (D := D) (fn := Tryd.f72) (c := Tryd.f72.body.getD .skip) [.agg [.any, .any, .fr 5 (.ints .u8 []), .any], .any] (by kernel_rfl) (bf (by kernel_rfl)) (by kernel_rfl) (by kernel_rfl) (by kernel_rfl) trivial trivial ?_ ?_
 · rw [loops]; exact trivial
 · intro args K r h
   unfold dn at h
   split at h
   · rw [P.aqm] at h; exact Eq.trans (by kernel_rfl) h
   · cases h
theorem ok : Proved Tryd.prog GLO.gB 72 spec := ok0
end ad9

namespace ad8
noncomputable def D : Ctx := ({ P := Tryd.prog, G := [(72, ad9.spec), (73, aec.spec), (74, aaq.spec)], globs := GLO.gB, hints := [], loops := [], inl := [] } : Ctx)
theorem loops : d9 (Tryd.f61.body.getD .skip) = [] := by kernel_rfl
noncomputable def dn : Abs.Spec := fun args K => match args with
 | [.v (.int .i64 a), .sl (.ints .u8 b)] => P.ad8 a b (fun c d => K (.tuple [.fr 5 (.ints .u8 c), .v (.int .i64 d)]))
 | _ => none
noncomputable def spec : Abs.Spec := fun args K => dn (p9 [.any, .sl (.ints .u8 [])] args) K
theorem ok0 : Proved Tryd.prog GLO.gB 61 dn := by
 refine gq (D := D) (fn := Tryd.f61) (c := Tryd.f61.body.getD .skip) [.fr 5 (.ints .u8 []), .any] (by kernel_rfl) (bf (by kernel_rfl)) (by kernel_rfl) (by kernel_rfl) (by kernel_rfl) ⟨ad9.ok, aec.ok, aaq.ok, trivial⟩ trivial ?_ ?_
 · rw [loops]; exact trivial
 · intro args K r h
   unfold dn at h
   split at h
   · rw [P.aro] at h; exact Eq.trans (by kernel_rfl) h
   · cases h
theorem ok : Proved Tryd.prog GLO.gB 61 spec := jd _ ok0
end ad8

namespace aal
noncomputable def D : Ctx := ({ P := Tryd.prog, G := [(59, yt.spec), (60, aan.spec), (61, ad8.spec)], globs := GLO.gB, hints := [], loops := [], inl := [] } : Ctx)
theorem loops : d9 (Tryd.f46.body.getD .skip) = [] := by kernel_rfl
noncomputable def dn : Abs.Spec := fun args K => match args with
 | [.agg [.v (.int .u64 a), .v (.int .u64 b)]] => P.aal a b (fun c => K (.fr 5 (.ints .u8 c)))
 | _ => none
noncomputable def spec : Abs.Spec := dn
theorem ok0 : Proved Tryd.prog GLO.gB 46 dn := by
 refine gq (D := D) (fn := Tryd.f46) (c := Tryd.f46.body.getD .skip) [.fr 5 (.ints .u8 [])] (by kernel_rfl) (bf (by kernel_rfl)) (by kernel_rfl) (by kernel_rfl) (by kernel_rfl) ⟨yt.ok, aan.ok, ad8.ok, trivial⟩ trivial ?_ ?_
 · rw [loops]; exact trivial
 · intro args K r h
   unfold dn at h
   split at h
   · rw [P.al7] at h; exact Eq.trans (by kernel_rfl) h
   · cases h
theorem ok : Proved Tryd.prog GLO.gB 46 spec := ok0
end aal

namespace qz
noncomputable def D : Ctx := ({ P := Tryd.prog, G := [(46, aal.spec), (47, vv.spec), (53, zm.spec)], globs := GLO.gB, hints := [], loops := [], inl := [] } : Ctx)
theorem loops : d9 (Tryd.f43.body.getD .skip) = [] := by kernel_rfl
noncomputable def dn : Abs.Spec := fun args K => match args with
 | [.sl (.ints .u8 c)] => P.qz c (fun a b d => K (.tuple [.agg [.v (.int .u64 a), .v (.int .u64 b)], .v (.bool d)]))
 | _ => none
noncomputable def spec : Abs.Spec := fun args K => dn (p9 [.sl (.ints .u8 [])] args) K
theorem ok0 : Proved Tryd.prog GLO.gB 43 dn := by
 refine gq (D := D) (fn := Tryd.f43) (c := Tryd.f43.body.getD .skip) [.any, .any] (by kernel_rfl) (bf (by kernel_rfl)) (by kernel_rfl) (by kernel_rfl) (by kernel_rfl) ⟨aal.ok, vv.ok, zm.ok, trivial⟩ trivial ?_ ?_
 · rw [loops]; exact trivial
 · intro args K r h
   unfold dn at h
   split at h
   · rw [P.apk] at h; exact Eq.trans (by kernel_rfl) h
   · cases h
theorem ok : Proved Tryd.prog GLO.gB 43 spec := jd _ ok0
end qz

namespace aa3
abbrev X2 := P.blo
def S2 : X2 → ASt := fun (a, b, c, d, e, f) => ⟨[(7, .sl (.cols a [.ints .i64 b, .ints .i64 c, .rows .u8 d])), (8, .v (.int .i64 e)), (9, .v (.int .i64 f))], [], 0, 21⟩
def V2 : ASt → Option X2
 | ⟨[(7, .sl (.cols a [.ints .i64 b, .ints .i64 c, .rows .u8 d])), (8, .v (.int .i64 e)), (9, .v (.int .i64 f))], [], 0, 21⟩ => some (a, b, c, d, e, f)
 | _ => none
theorem bpb (st) (x) (h : V2 st = some x) : st = S2 x := by
 unfold V2 at h
 split at h
 · cases h; rfl
 · cases h
abbrev Y2 := P.bpc
def E2 (K : AExit → ASt → Option R) : Y2 → Option R := (Sum.elim (fun x => K (.exit 0) (S2 x)) (fun (j, e, f, a, b, g, h, i, c, d) => K .ret ⟨[(2, .v (.bool j))], [(1, some ⟨.box 61 [.v (.int .u64 e), .v (.int .u64 f)], false⟩), (1, some ⟨.box 61 [.v (.int .u64 a), .v (.int .u64 b)], false⟩), (0, some ⟨.box 29 [.v (.int .i64 g), .v (.int .i64 h), .sl (.ints .u8 i)], false⟩), (0, some ⟨.box 29 [.v (.int .i64 c), .v (.int .i64 d), .v (.slice none 0 0)], false⟩)], 2, 21⟩))
noncomputable def L2 : yc := fun st K => agy (V2 st) fun x => P.bnq x (E2 K)
noncomputable def D : Ctx := ({ P := Tryd.prog, G := [(43, qz.spec)], globs := GLO.gB, hints := [(2, ⟨[7, 8, 9], [], [2], [], none, [], [], []⟩)], loops := [(2, L2)], inl := [] } : Ctx)
theorem bjo (K) (next) (x) : oq D (jc Tryd.f26 2) K next (S2 x) = P.bhp x (fun x => next (S2 x)) (E2 K) := by kernel_rfl
theorem bnt : nk D (jc Tryd.f26 2) := jo S2 bpb (by kernel_rfl) P.bpw bjo
theorem loops : d9 (Tryd.f26.body.getD .skip) = [jc Tryd.f26 2] := by kernel_rfl
noncomputable def dn : Abs.Spec := fun args K => match args with
 | [.sl (.cols a [.ints .i64 b, .ints .i64 c, .rows .u8 d])] => P.aa3 a b c d (fun e => K (.v (.bool e)))
 | _ => none
noncomputable def spec : Abs.Spec := fun args K => dn (p9 [.sl (.cols 0 [.ints .i64 [], .ints .i64 [], .rows .u8 []])] args) K
theorem ok0 : Proved Tryd.prog GLO.gB 26 dn := by
 refine gq (D := D) (fn := Tryd.f26) (c := Tryd.f26.body.getD .skip) [.any] (by kernel_rfl) (bf (by kernel_rfl)) (by kernel_rfl) (by kernel_rfl) (by kernel_rfl) ⟨qz.ok, trivial⟩ trivial ?_ ?_
 · rw [loops]; exact ⟨bnt, trivial⟩
 · intro args K r h
   unfold dn at h
   split at h
   · rw [P.agd] at h; exact Eq.trans (by kernel_rfl) h
   · cases h
theorem ok : Proved Tryd.prog GLO.gB 26 spec := jd _ ok0
end aa3

namespace abt
noncomputable def D : Ctx := ({ P := Tryd.prog, G := [(43, qz.spec)], globs := GLO.gB, hints := [], loops := [], inl := [] } : Ctx)
theorem loops : d9 (Tryd.f27.body.getD .skip) = [] := by kernel_rfl
noncomputable def dn : Abs.Spec := fun args K => match args with
 | [.agg [.sl (.ints .u8 c), .sl (.ints .u8 d)]] => P.abt c d (fun a b e f => K (.tuple [.agg [.v (.int .u64 a), .v (.int .u64 b)], .v (.int .i64 e), .v (.int .i64 f)]))
 | _ => none
noncomputable def spec : Abs.Spec := fun args K => dn (p9 [.agg [.sl (.ints .u8 []), .sl (.ints .u8 [])]] args) K
theorem ok0 : Proved Tryd.prog GLO.gB 27 dn := by
 refine gq (D := D) (fn := Tryd.f27) (c := Tryd.f27.body.getD .skip) [.any, .any, .any] (by kernel_rfl) (bf (by kernel_rfl)) (by kernel_rfl) (by kernel_rfl) (by kernel_rfl) ⟨qz.ok, trivial⟩ trivial ?_ ?_
 · rw [loops]; exact trivial
 · intro args K r h
   unfold dn at h
   split at h
   · rw [P.anv] at h; exact Eq.trans (by kernel_rfl) h
   · cases h
theorem ok : Proved Tryd.prog GLO.gB 27 spec := jd _ ok0
end abt

namespace ab3
noncomputable def D : Ctx := ({ P := Tryd.prog, G := [(47, vv.spec)], globs := GLO.gB, hints := [], loops := [], inl := [] } : Ctx)
theorem loops : d9 (Tryd.f32.body.getD .skip) = [] := by kernel_rfl
noncomputable def dn : Abs.Spec := fun args K => match args with
 | [.agg [.sl (.ints .u8 a), .sl (.ints .u8 b)], .agg [.sl (.ints .u8 c), .sl (.ints .u8 d)]] => P.ab3 a b c d (fun e => K (.v (.bool e)))
 | _ => none
noncomputable def spec : Abs.Spec := fun args K => dn (p9 [.agg [.sl (.ints .u8 []), .sl (.ints .u8 [])], .agg [.sl (.ints .u8 []), .sl (.ints .u8 [])]] args) K
theorem ok0 : Proved Tryd.prog GLO.gB 32 dn := by
 refine gq (D := D) (fn := Tryd.f32) (c := Tryd.f32.body.getD .skip) [.any] (by kernel_rfl) (bf (by kernel_rfl)) (by kernel_rfl) (by kernel_rfl) (by kernel_rfl) ⟨vv.ok, trivial⟩ trivial ?_ ?_
 · rw [loops]; exact trivial
 · intro args K r h
   unfold dn at h
   split at h
   · rw [P.anm] at h; exact Eq.trans (by kernel_rfl) h
   · cases h
theorem ok : Proved Tryd.prog GLO.gB 32 spec := jd _ ok0
end ab3

namespace abv
noncomputable def D : Ctx := ({ P := Tryd.prog, G := [(32, ab3.spec)], globs := GLO.gB, hints := [], loops := [], inl := [] } : Ctx)
theorem loops : d9 (Tryd.f14.body.getD .skip) = [] := by kernel_rfl
noncomputable def dn : Abs.Spec := fun args K => match args with
 | [.agg [.sl (.ints .u8 a), .sl (.ints .u8 b), .v (.int .u64 e), .v (.int .u64 g), .v (.int .u64 k), .v (.int .u64 h), .v (.bool m)], .agg [.sl (.ints .u8 c), .sl (.ints .u8 d), .v (.int .u64 f), .v (.int .u64 i), .v (.int .u64 l), .v (.int .u64 j), .v (.bool n)]] => P.abv a b e g k h m c d f i l j n (fun o => K (.v (.bool o)))
 | _ => none
noncomputable def spec : Abs.Spec := fun args K => dn (p9 [.agg [.sl (.ints .u8 []), .sl (.ints .u8 []), .any, .any, .any, .any, .any], .agg [.sl (.ints .u8 []), .sl (.ints .u8 []), .any, .any, .any, .any, .any]] args) K
theorem ok0 : Proved Tryd.prog GLO.gB 14 dn := by
 refine gq (D := D) (fn := Tryd.f14) (c := Tryd.f14.body.getD .skip) [.any] (by kernel_rfl) (bf (by kernel_rfl)) (by kernel_rfl) (by kernel_rfl) (by kernel_rfl) ⟨ab3.ok, trivial⟩ trivial ?_ ?_
 · rw [loops]; exact trivial
 · intro args K r h
   unfold dn at h
   split at h
   · rw [P.aoe] at h; exact Eq.trans (by kernel_rfl) h
   · cases h
theorem ok : Proved Tryd.prog GLO.gB 14 spec := jd _ ok0
end abv

namespace ql
abbrev X8 := P.bjb
def S8 : X8 → ASt := fun (l, m, j, k, a, b, c, d, e, f, g, h, i) => ⟨[(1, .v (.int .u64 l)), (7, .ptr 0 0), (9, .v (.int .u64 m)), (10, .ptr 3 0), (56, .v (.int .u64 j)), (57, .v (.int .u64 k))], [(0, some ⟨.box 24 [.sl (.ints .u8 a), .sl (.ints .u8 b)], false⟩), (3, some ⟨.box 27 [.sl (.ints .u8 c), .sl (.ints .u8 d), .v (.int .u64 e), .v (.int .u64 f), .v (.int .u64 g), .v (.int .u64 h), .v (.bool i)], false⟩)], 40, 117⟩
def V8 : ASt → Option X8
 | ⟨[(1, .v (.int .u64 l)), (7, .ptr 0 0), (9, .v (.int .u64 m)), (10, .ptr 3 0), (56, .v (.int .u64 j)), (57, .v (.int .u64 k))], [(0, some ⟨.box 24 [.sl (.ints .u8 a), .sl (.ints .u8 b)], false⟩), (3, some ⟨.box 27 [.sl (.ints .u8 c), .sl (.ints .u8 d), .v (.int .u64 e), .v (.int .u64 f), .v (.int .u64 g), .v (.int .u64 h), .v (.bool i)], false⟩)], 40, 117⟩ => some (l, m, j, k, a, b, c, d, e, f, g, h, i)
 | _ => none
theorem aw1 (st) (x) (h : V8 st = some x) : st = S8 x := by
 unfold V8 at h
 split at h
 · cases h; rfl
 · cases h
abbrev Y8 := P.bnr
def E8 (K : AExit → ASt → Option R) : Y8 → Option R := (fun x => K (.exit 0) (S8 x))
noncomputable def L8 : yc := fun st K => agy (V8 st) fun x => P.bmp x (E8 K)
noncomputable def D : Ctx := ({ P := Tryd.prog, G := [(8, af3.spec), (9, pz.spec), (10, ig.spec), (12, uy.spec), (14, abv.spec), (19, oo.spec), (21, yj.spec), (24, qg.spec), (26, aa3.spec), (27, abt.spec)], globs := GLO.gB, hints := [(8, ⟨[1, 7, 9, 10, 56, 57], [], [8], [], some (40, [0, 3]), [0, 3], [], []⟩)], loops := [(8, L8)], inl := [] } : Ctx)
theorem apb (K) (next) (x) : oq D (jc Tryd.f7 8) K next (S8 x) = P.bkd x (fun x => next (S8 x)) (E8 K) := by kernel_rfl
theorem av5 : nk D (jc Tryd.f7 8) := jo S8 aw1 (by kernel_rfl) P.bqc apb
theorem loops : d9 (Tryd.f7.body.getD .skip) = [jc Tryd.f7 8] := by kernel_rfl
noncomputable def dn : Abs.Spec := fun args K => match args with
 | [.v (.int .u8 g), .v (.int .u64 h), .sl (.cols c [.ints .i64 d, .ints .i64 e, .rows .u8 f]), .agg [.sl (.ints .u8 a), .sl (.ints .u8 b)]] => P.ql g h c d e f a b (fun i => K (.v (.bool i)))
 | _ => none
noncomputable def spec : Abs.Spec := fun args K => dn (p9 [.any, .any, .sl (.cols 0 [.ints .i64 [], .ints .i64 [], .rows .u8 []]), .agg [.sl (.ints .u8 []), .sl (.ints .u8 [])]] args) K
theorem ok0 : Proved Tryd.prog GLO.gB 7 dn := by
 refine gq (D := D) (fn := Tryd.f7) (c := Tryd.f7.body.getD .skip) [.any] (by kernel_rfl) (bf (by kernel_rfl)) (by kernel_rfl) (by kernel_rfl) (by kernel_rfl) ⟨af3.ok, pz.ok, ig.ok, uy.ok, abv.ok, oo.ok, yj.ok, qg.ok, aa3.ok, abt.ok, trivial⟩ trivial ?_ ?_
 · rw [loops]; exact ⟨av5, trivial⟩
 · intro args K r h
   unfold dn at h
   split at h
   · rw [P.afu] at h; exact Eq.trans (by kernel_rfl) h
   · cases h
theorem ok : Proved Tryd.prog GLO.gB 7 spec := jd _ ok0
end ql

end
