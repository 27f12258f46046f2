/-
  LeaseOnce, part 16: an interpreter of my own over abstract values, the pure functions, the walks and the plain law.
-/

import Derived.Test.YtkfjafaabbmapaaDoorLeaseOnceK
import Derived.Test.YtkfjafaabbmapaaDoorLeaseOnceH
import Derived.Test.YtkfjafaabbmapaaDoorProg
import Derived.Test.YtkfjafaabbmapaaDoorLeaseOnceJ
import Derived.Test.YtkfjafaabbmapaaDoorLeaseOnceO
import Derived.KernelRfl
import Derived.Test.YtkfjafaabbmapaaDoorLeaseOnceN

section
open Go Go.Abs Go.Proofs
set_option maxRecDepth 100000
set_option maxHeartbeats 0
set_option linter.unusedVariables false

namespace ad6
abbrev X4 := P.biw
def S4 : X4 → ASt := fun (f, g, e, a, b, c, d) => ⟨[(5, .own 40), (1, .ptr 0 0), (3, .v (.int .i64 f)), (4, .v (.int .u64 g))], [(40, some ⟨.row 5 (.ints .u8 e), false⟩), (0, some ⟨.box 113 [.v (.int .i64 a), .arr .u64 8 b, .sl (.ints .u8 c), .v (.int .u64 d)], false⟩)], 41, 77⟩
def V4 : ASt → Option X4
 | ⟨[(5, .own 40), (1, .ptr 0 0), (3, .v (.int .i64 f)), (4, .v (.int .u64 g))], [(40, some ⟨.row 5 (.ints .u8 e), false⟩), (0, some ⟨.box 113 [.v (.int .i64 a), .arr .u64 8 b, .sl (.ints .u8 c), .v (.int .u64 d)], false⟩)], 41, 77⟩ => some (f, g, e, a, b, c, d)
 | _ => none
theorem aot (st) (x) (h : V4 st = some x) : st = S4 x := by
 unfold V4 at h
 split at h
 · cases h; rfl
 · cases h
abbrev Y4 := P.bou
abbrev X8 := P.bho
def S8 : X8 → ASt := fun (f, g, e, a, b, c, d) => ⟨[(5, .own 80), (1, .ptr 0 0), (3, .v (.int .i64 f)), (4, .v (.int .u64 g))], [(80, some ⟨.row 5 (.ints .u8 e), false⟩), (0, some ⟨.box 113 [.v (.int .i64 a), .arr .u64 8 b, .sl (.ints .u8 c), .v (.int .u64 d)], false⟩)], 81, 77⟩
def V8 : ASt → Option X8
 | ⟨[(5, .own 80), (1, .ptr 0 0), (3, .v (.int .i64 f)), (4, .v (.int .u64 g))], [(80, some ⟨.row 5 (.ints .u8 e), false⟩), (0, some ⟨.box 113 [.v (.int .i64 a), .arr .u64 8 b, .sl (.ints .u8 c), .v (.int .u64 d)], false⟩)], 81, 77⟩ => some (f, g, e, a, b, c, d)
 | _ => none
theorem bbu (st) (x) (h : V8 st = some x) : st = S8 x := by
 unfold V8 at h
 split at h
 · cases h; rfl
 · cases h
abbrev Y8 := P.bml
abbrev X14 := P.bir
def S14 : X14 → ASt := fun (f, g, a, b, c, d, e) => ⟨[(6, .own 120), (1, .ptr 0 0), (3, .v (.int .i64 f)), (7, .v (.int .i64 g))], [(120, some ⟨.row 5 (.ints .u8 a), false⟩), (0, some ⟨.box 113 [.v (.int .i64 b), .arr .u64 8 c, .sl (.ints .u8 d), .v (.int .u64 e)], false⟩)], 121, 77⟩
def V14 : ASt → Option X14
 | ⟨[(6, .own 120), (1, .ptr 0 0), (3, .v (.int .i64 f)), (7, .v (.int .i64 g))], [(120, some ⟨.row 5 (.ints .u8 a), false⟩), (0, some ⟨.box 113 [.v (.int .i64 b), .arr .u64 8 c, .sl (.ints .u8 d), .v (.int .u64 e)], false⟩)], 121, 77⟩ => some (f, g, a, b, c, d, e)
 | _ => none
theorem bh2 (st) (x) (h : V14 st = some x) : st = S14 x := by
 unfold V14 at h
 split at h
 · cases h; rfl
 · cases h
abbrev Y14 := P.bm4
def E4 (K : AExit → ASt → Option R) : Y4 → Option R := (fun x => K (.exit 0) (S4 x))
noncomputable def L4 : w9 := fun st K => agn (V4 st) fun x => P.bmz x (E4 K)
def E8 (K : AExit → ASt → Option R) : Y8 → Option R := (fun x => K (.exit 2) (S8 x))
noncomputable def L8 : w9 := fun st K => agn (V8 st) fun x => P.bn0 x (E8 K)
def E14 (K : AExit → ASt → Option R) : Y14 → Option R := (fun x => K (.exit 4) (S14 x))
noncomputable def L14 : w9 := fun st K => agn (V14 st) fun x => P.boa x (E14 K)
noncomputable def D : Ctx := ({ P := Tryd.prog, G := [(60, aat.spec), (74, zw.spec), (82, qy.spec)], globs := GLO.gB, hints := [(14, ⟨[1, 3, 7], [(6, 5, .ints .u8 [])], [2], [], some (120, [0]), [0], [], []⟩), (8, ⟨[1, 3, 4], [(5, 5, .ints .u8 [])], [2], [], some (80, [0]), [0], [], []⟩), (4, ⟨[1, 3, 4], [(5, 5, .ints .u8 [])], [2], [], some (40, [0]), [0], [], []⟩)], loops := [(4, L4), (8, L8), (14, L14)], inl := [] } : Ctx)
theorem agx (K) (next) (x) : ny D (gu Tryd.f73 4) K next (S4 x) = P.bjr x (fun x => next (S4 x)) (E4 K) := by kernel_rfl
theorem aox : mo D (gu Tryd.f73 4) := jk S4 aot (by kernel_rfl) P.bps agx
theorem ati (K) (next) (x) : ny D (gu Tryd.f73 8) K next (S8 x) = P.biz x (fun x => next (S8 x)) (E8 K) := by kernel_rfl
theorem azw : mo D (gu Tryd.f73 8) := jk S8 bbu (by kernel_rfl) P.bpf ati
theorem bfy (K) (next) (x) : ny D (gu Tryd.f73 14) K next (S14 x) = P.biv x (fun x => next (S14 x)) (E14 K) := by kernel_rfl
theorem bhq : mo D (gu Tryd.f73 14) := jk S14 bh2 (by kernel_rfl) P.bp5 bfy
theorem loops : dn (Tryd.f73.body.getD .skip) = [gu Tryd.f73 4, gu Tryd.f73 8, gu Tryd.f73 14] := by kernel_rfl
noncomputable def bg : Abs.Spec := fun args K => match args with
 | [.agg [.v (.int .i64 b), .arr .u64 8 a, .sl (.ints .u8 c), .v (.int .u64 d)]] => P.ad6 b a c d (fun e => K (.fr 5 (.ints .u8 e)))
 | _ => none
noncomputable def spec : Abs.Spec := fun args K => bg (p9 [.agg [.any, .any, .sl (.ints .u8 []), .any]] args) K
theorem ok0 : Proved Tryd.prog GLO.gB 73 bg := by
 refine akv (D := D) (fn := Tryd.f73) (c := Tryd.f73.body.getD .skip) 5 (.ints .u8 []) (by kernel_rfl) (ak (by kernel_rfl)) (by kernel_rfl) (by kernel_rfl) (by kernel_rfl) ⟨aat.ok, zw.ok, qy.ok, trivial⟩ trivial ?_ ?_
 · rw [loops]; exact ⟨aox, azw, bhq, trivial⟩
 · intro args K r h
   unfold bg at h
   split at h
   · rw [P.aq0] at h; exact Eq.trans (by kernel_rfl) h
   · cases h
theorem ok : Proved Tryd.prog GLO.gB 73 spec := iw _ ok0
end ad6

namespace aeh
noncomputable def D : Ctx := ({ P := Tryd.prog, G := [], globs := GLO.gB, hints := [], loops := [], inl := [] } : Ctx)
theorem loops : dn (Tryd.f72.body.getD .skip) = [] := by kernel_rfl
noncomputable def bg : Abs.Spec := fun args K => match args with
 | [.v (.int .i64 e)] => P.aeh e (fun b a c d f => K (.tuple [.agg [.v (.int .i64 b), .arr .u64 8 a, .fr 5 (.ints .u8 c), .v (.int .u64 d)], .v (.int .i64 f)]))
 | _ => none
noncomputable def spec : Abs.Spec := bg
theorem ok0 : Proved Tryd.prog GLO.gB 72 bg := by
 refine d9 (D := D) (fn := Tryd.f72) (c := Tryd.f72.body.getD .skip) [.agg [.any, .any, .fr 5 (.ints .u8 []), .any], .any] (by kernel_rfl) (ak (by kernel_rfl)) (by kernel_rfl) (by kernel_rfl) (by kernel_rfl) trivial trivial ?_ ?_
 · rw [loops]; exact trivial
 · intro args K r h
   unfold bg at h
   split at h
   · rw [P.ap3] at h; exact Eq.trans (by kernel_rfl) h
   · cases h
theorem ok : Proved Tryd.prog GLO.gB 72 spec := ok0
end aeh

namespace aem
noncomputable def D : Ctx := ({ P := Tryd.prog, G := [(72, aeh.spec), (73, ad6.spec), (74, zw.spec)], globs := GLO.gB, hints := [], loops := [], inl := [] } : Ctx)
theorem loops : dn (Tryd.f61.body.getD .skip) = [] := by kernel_rfl
noncomputable def bg : Abs.Spec := fun args K => match args with
 | [.v (.int .i64 a), .sl (.ints .u8 b)] => P.aem a b (fun c d => K (.tuple [.fr 5 (.ints .u8 c), .v (.int .i64 d)]))
 | _ => none
noncomputable def spec : Abs.Spec := fun args K => bg (p9 [.any, .sl (.ints .u8 [])] args) K
theorem ok0 : Proved Tryd.prog GLO.gB 61 bg := by
 refine d9 (D := D) (fn := Tryd.f61) (c := Tryd.f61.body.getD .skip) [.fr 5 (.ints .u8 []), .any] (by kernel_rfl) (ak (by kernel_rfl)) (by kernel_rfl) (by kernel_rfl) (by kernel_rfl) ⟨aeh.ok, ad6.ok, zw.ok, trivial⟩ trivial ?_ ?_
 · rw [loops]; exact trivial
 · intro args K r h
   unfold bg at h
   split at h
   · rw [P.ap9] at h; exact Eq.trans (by kernel_rfl) h
   · cases h
theorem ok : Proved Tryd.prog GLO.gB 61 spec := iw _ ok0
end aem

namespace z8
noncomputable def D : Ctx := ({ P := Tryd.prog, G := [(59, xu.spec), (60, aat.spec), (61, aem.spec)], globs := GLO.gB, hints := [], loops := [], inl := [] } : Ctx)
theorem loops : dn (Tryd.f46.body.getD .skip) = [] := by kernel_rfl
noncomputable def bg : Abs.Spec := fun args K => match args with
 | [.agg [.v (.int .u64 a), .v (.int .u64 b)]] => P.z8 a b (fun c => K (.fr 5 (.ints .u8 c)))
 | _ => none
noncomputable def spec : Abs.Spec := bg
theorem ok0 : Proved Tryd.prog GLO.gB 46 bg := by
 refine d9 (D := D) (fn := Tryd.f46) (c := Tryd.f46.body.getD .skip) [.fr 5 (.ints .u8 [])] (by kernel_rfl) (ak (by kernel_rfl)) (by kernel_rfl) (by kernel_rfl) (by kernel_rfl) ⟨xu.ok, aat.ok, aem.ok, trivial⟩ trivial ?_ ?_
 · rw [loops]; exact trivial
 · intro args K r h
   unfold bg at h
   split at h
   · rw [P.alx] at h; exact Eq.trans (by kernel_rfl) h
   · cases h
theorem ok : Proved Tryd.prog GLO.gB 46 spec := ok0
end z8

namespace aau
noncomputable def D : Ctx := ({ P := Tryd.prog, G := [(46, z8.spec), (47, abq.spec), (53, y9.spec)], globs := GLO.gB, hints := [], loops := [], inl := [] } : Ctx)
theorem loops : dn (Tryd.f43.body.getD .skip) = [] := by kernel_rfl
noncomputable def bg : Abs.Spec := fun args K => match args with
 | [.sl (.ints .u8 c)] => P.aau c (fun a b d => K (.tuple [.agg [.v (.int .u64 a), .v (.int .u64 b)], .v (.bool d)]))
 | _ => none
noncomputable def spec : Abs.Spec := fun args K => bg (p9 [.sl (.ints .u8 [])] args) K
theorem ok0 : Proved Tryd.prog GLO.gB 43 bg := by
 refine d9 (D := D) (fn := Tryd.f43) (c := Tryd.f43.body.getD .skip) [.any, .any] (by kernel_rfl) (ak (by kernel_rfl)) (by kernel_rfl) (by kernel_rfl) (by kernel_rfl) ⟨z8.ok, abq.ok, y9.ok, trivial⟩ trivial ?_ ?_
 · rw [loops]; exact trivial
 · intro args K r h
   unfold bg at h
   split at h
   · rw [P.am6] at h; exact Eq.trans (by kernel_rfl) h
   · cases h
theorem ok : Proved Tryd.prog GLO.gB 43 spec := iw _ ok0
end aau

namespace aa0
abbrev X2 := P.bkp
def S2 : X2 → ASt := fun (a, b, c, d, e, f) => ⟨[(7, .sl (.cols a [.ints .i64 b, .ints .i64 c, .rows .u8 d])), (8, .v (.int .i64 e)), (9, .v (.int .i64 f))], [], 0, 21⟩
def V2 : ASt → Option X2
 | ⟨[(7, .sl (.cols a [.ints .i64 b, .ints .i64 c, .rows .u8 d])), (8, .v (.int .i64 e)), (9, .v (.int .i64 f))], [], 0, 21⟩ => some (a, b, c, d, e, f)
 | _ => none
theorem bmk (st) (x) (h : V2 st = some x) : st = S2 x := by
 unfold V2 at h
 split at h
 · cases h; rfl
 · cases h
abbrev Y2 := P.bmp
def E2 (K : AExit → ASt → Option R) : Y2 → Option R := (Sum.elim (fun x => K (.exit 0) (S2 x)) (fun (j, e, f, a, b, g, h, i, c, d) => K .ret ⟨[(2, .v (.bool j))], [(1, some ⟨.box 61 [.v (.int .u64 e), .v (.int .u64 f)], false⟩), (1, some ⟨.box 61 [.v (.int .u64 a), .v (.int .u64 b)], false⟩), (0, some ⟨.box 29 [.v (.int .i64 g), .v (.int .i64 h), .sl (.ints .u8 i)], false⟩), (0, some ⟨.box 29 [.v (.int .i64 c), .v (.int .i64 d), .v (.slice none 0 0)], false⟩)], 2, 21⟩))
noncomputable def L2 : w9 := fun st K => agn (V2 st) fun x => P.bo4 x (E2 K)
noncomputable def D : Ctx := ({ P := Tryd.prog, G := [(43, aau.spec)], globs := GLO.gB, hints := [(2, ⟨[7, 8, 9], [], [2], [], none, [], [], []⟩)], loops := [(2, L2)], inl := [] } : Ctx)
theorem bjg (K) (next) (x) : ny D (gu Tryd.f26 2) K next (S2 x) = P.bhc x (fun x => next (S2 x)) (E2 K) := by kernel_rfl
theorem bmg : mo D (gu Tryd.f26 2) := jk S2 bmk (by kernel_rfl) P.bpo bjg
theorem loops : dn (Tryd.f26.body.getD .skip) = [gu Tryd.f26 2] := by kernel_rfl
noncomputable def bg : Abs.Spec := fun args K => match args with
 | [.sl (.cols a [.ints .i64 b, .ints .i64 c, .rows .u8 d])] => P.aa0 a b c d (fun e => K (.v (.bool e)))
 | _ => none
noncomputable def spec : Abs.Spec := fun args K => bg (p9 [.sl (.cols 0 [.ints .i64 [], .ints .i64 [], .rows .u8 []])] args) K
theorem ok0 : Proved Tryd.prog GLO.gB 26 bg := by
 refine d9 (D := D) (fn := Tryd.f26) (c := Tryd.f26.body.getD .skip) [.any] (by kernel_rfl) (ak (by kernel_rfl)) (by kernel_rfl) (by kernel_rfl) (by kernel_rfl) ⟨aau.ok, trivial⟩ trivial ?_ ?_
 · rw [loops]; exact ⟨bmg, trivial⟩
 · intro args K r h
   unfold bg at h
   split at h
   · rw [P.aft] at h; exact Eq.trans (by kernel_rfl) h
   · cases h
theorem ok : Proved Tryd.prog GLO.gB 26 spec := iw _ ok0
end aa0

namespace qp
abbrev X6 := P.bkn
def S6 : X6 → ASt := fun (c, a, b, d) => ⟨[(0, .v (.int .u64 c)), (10, .own 3), (39, .own 3), (40, .v (.int .i64 a)), (41, .v (.int .i64 b))], [(3, some ⟨.row 25 (.ints .u64 d), false⟩)], 40, 64⟩
def V6 : ASt → Option X6
 | ⟨[(0, .v (.int .u64 c)), (10, .own 3), (39, .own 3), (40, .v (.int .i64 a)), (41, .v (.int .i64 b))], [(3, some ⟨.row 25 (.ints .u64 d), false⟩)], 40, 64⟩ => some (c, a, b, d)
 | _ => none
theorem bg8 (st) (x) (h : V6 st = some x) : st = S6 x := by
 unfold V6 at h
 split at h
 · cases h; rfl
 · cases h
abbrev Y6 := P.bmm
def E6 (K : AExit → ASt → Option R) : Y6 → Option R := (Sum.elim (fun x => K (.exit 0) (S6 x)) (fun (a, b) => K .ret ⟨[(6, .v (.bool a))], [(3, some ⟨.row 25 (.ints .u64 b), false⟩)], 40, 64⟩))
noncomputable def L6 : w9 := fun st K => agn (V6 st) fun x => P.bmw x (E6 K)
noncomputable def D : Ctx := ({ P := Tryd.prog, G := [(8, afs.spec), (9, qg.spec), (12, tq.spec), (24, o9.spec), (26, aa0.spec)], globs := GLO.gB, hints := [(6, ⟨[0, 10, 39, 40, 41], [], [6], [], some (40, [3]), [], [], []⟩)], loops := [(6, L6)], inl := [] } : Ctx)
theorem az3 (K) (next) (x) : ny D (gu Tryd.f5 6) K next (S6 x) = P.bim x (fun x => next (S6 x)) (E6 K) := by kernel_rfl
theorem bf3 : mo D (gu Tryd.f5 6) := jk S6 bg8 (by kernel_rfl) P.bpz az3
theorem loops : dn (Tryd.f5.body.getD .skip) = [gu Tryd.f5 6] := by kernel_rfl
noncomputable def bg : Abs.Spec := fun args K => match args with
 | [.v (.int .u64 e), .v (.int .u64 f), .sl (.cols a [.ints .i64 b, .ints .i64 c, .rows .u8 d])] => P.qp e f a b c d (fun g => K (.v (.bool g)))
 | _ => none
noncomputable def spec : Abs.Spec := fun args K => bg (p9 [.any, .any, .sl (.cols 0 [.ints .i64 [], .ints .i64 [], .rows .u8 []])] args) K
theorem ok0 : Proved Tryd.prog GLO.gB 5 bg := by
 refine d9 (D := D) (fn := Tryd.f5) (c := Tryd.f5.body.getD .skip) [.any] (by kernel_rfl) (ak (by kernel_rfl)) (by kernel_rfl) (by kernel_rfl) (by kernel_rfl) ⟨afs.ok, qg.ok, tq.ok, o9.ok, aa0.ok, trivial⟩ trivial ?_ ?_
 · rw [loops]; exact ⟨bf3, trivial⟩
 · intro args K r h
   unfold bg at h
   split at h
   · rw [P.agj] at h; exact Eq.trans (by kernel_rfl) h
   · cases h
theorem ok : Proved Tryd.prog GLO.gB 5 spec := iw _ ok0
end qp

end
