/-
  LeaseSpent, part 15: an interpreter of my own over abstract values, the pure functions, the walks and the plain law.
-/

import Derived.Test.YtkfjafaabbmapaaDoorLeaseSpentK
import Derived.Test.YtkfjafaabbmapaaDoorLeaseSpentH
import Derived.Test.YtkfjafaabbmapaaDoorProg
import Derived.Test.YtkfjafaabbmapaaDoorLeaseSpentJ
import Derived.Test.YtkfjafaabbmapaaDoorLeaseSpentN
import Derived.KernelRfl
import Derived.Test.YtkfjafaabbmapaaDoorLeaseSpentI

section
open Go Go.Abs Go.Proofs
set_option maxRecDepth 100000
set_option maxHeartbeats 0
set_option linter.unusedVariables false

namespace oo
noncomputable def D6 : Ctx := ({ P := Tryd.prog, G := [(10, ig.spec), (28, dh.spec), (50, dw.spec), (52, iy.spec)], globs := GLO.gB, hints := [], loops := [], inl := [] } : Ctx)
noncomputable def D5 : Ctx := ({ P := Tryd.prog, G := [(10, ig.spec), (28, dh.spec), (50, dw.spec), (52, iy.spec)], globs := GLO.gB, hints := [], loops := [], inl := [] } : Ctx)
noncomputable def D4 : Ctx := ({ P := Tryd.prog, G := [(10, ig.spec), (28, dh.spec), (50, dw.spec), (52, iy.spec)], globs := GLO.gB, hints := [], loops := [], inl := [] } : Ctx)
noncomputable def D3 : Ctx := ({ P := Tryd.prog, G := [(10, ig.spec), (28, dh.spec), (50, dw.spec), (52, iy.spec)], globs := GLO.gB, hints := [], loops := [], inl := [(49, aah D5 Tryd.f49), (40, aah D6 Tryd.f40)] } : Ctx)
noncomputable def D2 : Ctx := ({ P := Tryd.prog, G := [(10, ig.spec), (28, dh.spec), (50, dw.spec), (52, iy.spec)], globs := GLO.gB, hints := [], loops := [], inl := [(49, aah D5 Tryd.f49)] } : Ctx)
noncomputable def D1 : Ctx := ({ P := Tryd.prog, G := [(10, ig.spec), (28, dh.spec), (50, dw.spec), (52, iy.spec)], globs := GLO.gB, hints := [], loops := [], inl := [(34, aah D2 Tryd.f34)] } : Ctx)
noncomputable def D : Ctx := ({ P := Tryd.prog, G := [(10, ig.spec), (28, dh.spec), (50, dw.spec), (52, iy.spec)], globs := GLO.gB, hints := [], loops := [], inl := [(37, aah D1 Tryd.f37)] } : Ctx)
theorem loops : d9 (Tryd.f19.body.getD .skip) = [] := by kernel_rfl
theorem an9 : d9 (Tryd.f37.body.getD .skip) = [] := by kernel_rfl
theorem aqg : d9 (Tryd.f34.body.getD .skip) = [] := by kernel_rfl
theorem ayg : d9 (Tryd.f39.body.getD .skip) = [] := by kernel_rfl
theorem bfq : d9 (Tryd.f38.body.getD .skip) = [] := by kernel_rfl
theorem auh : d9 (Tryd.f49.body.getD .skip) = [] := by kernel_rfl
theorem baj : d9 (Tryd.f40.body.getD .skip) = [] := by kernel_rfl
noncomputable def dn : Abs.Spec := fun args K => match args with
 | [.agg [.sl (.ints .u8 a), .sl (.ints .u8 b), .v (.int .u64 e), .v (.int .u64 g), .v (.int .u64 k), .v (.int .u64 h), .v (.bool m)]] => P.oo a b e g k h m (fun c d f i l j n o p => K (.tuple [.agg [.sl (.ints .u8 c), .sl (.ints .u8 d), .v (.int .u64 f), .v (.int .u64 i), .v (.int .u64 l), .v (.int .u64 j), .v (.bool n)], .v (.int .u64 o), .v (.int .i64 p)]))
 | _ => none
noncomputable def spec : Abs.Spec := fun args K => dn (p9 [.agg [.sl (.ints .u8 []), .sl (.ints .u8 []), .any, .any, .any, .any, .any]] args) K
theorem ok0 : Proved Tryd.prog GLO.gB 19 dn := by
 refine gq (D := D) (fn := Tryd.f19) (c := Tryd.f19.body.getD .skip) [.agg [.sl (.ints .u8 []), .sl (.ints .u8 []), .any, .any, .any, .any, .any], .any, .any] (by kernel_rfl) (bf (by kernel_rfl)) (by kernel_rfl) (by kernel_rfl) (by kernel_rfl) ⟨ig.ok, dh.ok, dw.ok, iy.ok, trivial⟩ ⟨adw (D := D1) (D' := D) (fn := Tryd.f37) (c := Tryd.f37.body.getD .skip) rfl rfl (by kernel_rfl) (bf (by kernel_rfl)) (by kernel_rfl) (by kernel_rfl) (by kernel_rfl) ⟨ig.ok, dh.ok, dw.ok, iy.ok, trivial⟩ ⟨adw (D := D2) (D' := D1) (fn := Tryd.f34) (c := Tryd.f34.body.getD .skip) rfl rfl (by kernel_rfl) (bf (by kernel_rfl)) (by kernel_rfl) (by kernel_rfl) (by kernel_rfl) ⟨ig.ok, dh.ok, dw.ok, iy.ok, trivial⟩ ⟨adw (D := D5) (D' := D2) (fn := Tryd.f49) (c := Tryd.f49.body.getD .skip) rfl rfl (by kernel_rfl) (bf (by kernel_rfl)) (by kernel_rfl) (by kernel_rfl) (by kernel_rfl) ⟨ig.ok, dh.ok, dw.ok, iy.ok, trivial⟩ trivial (by rw [auh]; exact trivial) (fun _ _ _ _ _ h => h), trivial⟩ (by rw [aqg]; exact trivial) (fun _ _ _ _ _ h => h), trivial⟩ (by rw [an9]; exact trivial) (fun _ _ _ _ _ h => h), trivial⟩ ?_ ?_
 · rw [loops]; exact trivial
 · intro args K r h
   unfold dn at h
   split at h
   · rw [P.aj1] at h; exact Eq.trans (by kernel_rfl) h
   · cases h
theorem ok : Proved Tryd.prog GLO.gB 19 spec := jd _ ok0
end oo

namespace pz
noncomputable def D : Ctx := ({ P := Tryd.prog, G := [(12, uy.spec), (19, oo.spec), (24, qg.spec)], globs := GLO.gB, hints := [], loops := [], inl := [] } : Ctx)
theorem loops : d9 (Tryd.f9.body.getD .skip) = [] := by kernel_rfl
noncomputable def dn : Abs.Spec := fun args K => match args with
 | [] => P.pz (fun a => K (.v (.bool a)))
 | _ => none
noncomputable def spec : Abs.Spec := dn
theorem ok0 : Proved Tryd.prog GLO.gB 9 dn := by
 refine gq (D := D) (fn := Tryd.f9) (c := Tryd.f9.body.getD .skip) [.any] (by kernel_rfl) (bf (by kernel_rfl)) (by kernel_rfl) (by kernel_rfl) (by kernel_rfl) ⟨uy.ok, oo.ok, qg.ok, trivial⟩ trivial ?_ ?_
 · rw [loops]; exact trivial
 · intro args K r h
   unfold dn at h
   split at h
   · rw [P.amm] at h; exact Eq.trans (by kernel_rfl) h
   · cases h
theorem ok : Proved Tryd.prog GLO.gB 9 spec := ok0
end pz

namespace af3
abbrev X4 := P.zt1
def S4 : X4 → ASt := fun (a, b, c, d, e, f) => ⟨[(22, .sl (.cols a [.ints .i64 b, .ints .i64 c, .rows .u8 d])), (23, .v (.int .i64 e)), (24, .v (.int .i64 f))], [], 40, 33⟩
def V4 : ASt → Option X4
 | ⟨[(22, .sl (.cols a [.ints .i64 b, .ints .i64 c, .rows .u8 d])), (23, .v (.int .i64 e)), (24, .v (.int .i64 f))], [], 40, 33⟩ => some (a, b, c, d, e, f)
 | _ => none
theorem ape (st) (x) (h : V4 st = some x) : st = S4 x := by
 unfold V4 at h
 split at h
 · cases h; rfl
 · cases h
abbrev Y4 := P.zy1
def E4 (K : AExit → ASt → Option R) : Y4 → Option R := (Sum.elim (fun x => K (.exit 0) (S4 x)) (fun (f, c, d, e, a, b) => K .ret ⟨[(4, .v (.bool f))], [(40, some ⟨.box 29 [.v (.int .i64 c), .v (.int .i64 d), .sl (.ints .u8 e)], false⟩), (40, some ⟨.box 29 [.v (.int .i64 a), .v (.int .i64 b), .v (.slice none 0 0)], false⟩)], 41, 33⟩))
noncomputable def L4 : yc := fun st K => agy (V4 st) fun x => P.zm1 x (E4 K)
noncomputable def D : Ctx := ({ P := Tryd.prog, G := [], globs := GLO.gB, hints := [(4, ⟨[22, 23, 24], [], [4], [], some (40, []), [], [], []⟩)], loops := [(4, L4)], inl := [] } : Ctx)
theorem ahu (K) (next) (x) : oq D (jc Tryd.f8 4) K next (S4 x) = P.zs1 x (fun x => next (S4 x)) (E4 K) := by kernel_rfl
theorem an8 : nk D (jc Tryd.f8 4) := jo S4 ape (by kernel_rfl) P.ze1 ahu
theorem loops : d9 (Tryd.f8.body.getD .skip) = [jc Tryd.f8 4] := by kernel_rfl
noncomputable def dn : Abs.Spec := fun args K => match args with
 | [.agg [.sl (.ints .u8 a), .sl (.ints .u8 b)], .sl (.cols c [.ints .i64 d, .ints .i64 e, .rows .u8 f])] => P.af3 a b c d e f (fun g => K (.v (.bool g)))
 | _ => none
noncomputable def spec : Abs.Spec := fun args K => dn (p9 [.agg [.sl (.ints .u8 []), .sl (.ints .u8 [])], .sl (.cols 0 [.ints .i64 [], .ints .i64 [], .rows .u8 []])] args) K
theorem ok0 : Proved Tryd.prog GLO.gB 8 dn := by
 refine gq (D := D) (fn := Tryd.f8) (c := Tryd.f8.body.getD .skip) [.any] (by kernel_rfl) (bf (by kernel_rfl)) (by kernel_rfl) (by kernel_rfl) (by kernel_rfl) trivial trivial ?_ ?_
 · rw [loops]; exact ⟨an8, trivial⟩
 · intro args K r h
   unfold dn at h
   split at h
   · rw [P.ad6] at h; exact Eq.trans (by kernel_rfl) h
   · cases h
theorem ok : Proved Tryd.prog GLO.gB 8 spec := jd _ ok0
end af3

namespace zm
abbrev X3 := P.bhy
def S3 : X3 → ASt := fun (a, b, c) => ⟨[(0, .sl (.ints .u8 a)), (3, .v (.int .u64 b)), (4, .v (.int .i64 c))], [], 0, 20⟩
def V3 : ASt → Option X3
 | ⟨[(0, .sl (.ints .u8 a)), (3, .v (.int .u64 b)), (4, .v (.int .i64 c))], [], 0, 20⟩ => some (a, b, c)
 | _ => none
theorem al3 (st) (x) (h : V3 st = some x) : st = S3 x := by
 unfold V3 at h
 split at h
 · cases h; rfl
 · cases h
abbrev Y3 := P.bpp
def E3 (K : AExit → ASt → Option R) : Y3 → Option R := (fun x => K (.exit 0) (S3 x))
noncomputable def L3 : yc := fun st K => agy (V3 st) fun x => P.bow x (E3 K)
noncomputable def D : Ctx := ({ P := Tryd.prog, G := [], globs := GLO.gB, hints := [(3, ⟨[0, 3, 4], [], [2], [], none, [], [], []⟩)], loops := [(3, L3)], inl := [] } : Ctx)
theorem afw (K) (next) (x) : oq D (jc Tryd.f53 3) K next (S3 x) = P.bio x (fun x => next (S3 x)) (E3 K) := by kernel_rfl
theorem ak4 : nk D (jc Tryd.f53 3) := jo S3 al3 (by kernel_rfl) P.bp1 afw
theorem loops : d9 (Tryd.f53.body.getD .skip) = [jc Tryd.f53 3] := by kernel_rfl
noncomputable def dn : Abs.Spec := fun args K => match args with
 | [.sl (.ints .u8 a)] => P.zm a (fun b => K (.v (.int .u64 b)))
 | _ => none
noncomputable def spec : Abs.Spec := fun args K => dn (p9 [.sl (.ints .u8 [])] args) K
theorem ok0 : Proved Tryd.prog GLO.gB 53 dn := by
 refine gq (D := D) (fn := Tryd.f53) (c := Tryd.f53.body.getD .skip) [.any] (by kernel_rfl) (bf (by kernel_rfl)) (by kernel_rfl) (by kernel_rfl) (by kernel_rfl) trivial trivial ?_ ?_
 · rw [loops]; exact ⟨ak4, trivial⟩
 · intro args K r h
   unfold dn at h
   split at h
   · rw [P.ap7] at h; exact Eq.trans (by kernel_rfl) h
   · cases h
theorem ok : Proved Tryd.prog GLO.gB 53 spec := jd _ ok0
end zm

namespace vv
abbrev X4 := P.blh
def S4 : X4 → ASt := fun (a, b, c) => ⟨[(0, .sl (.ints .u8 a)), (1, .sl (.ints .u8 b)), (5, .v (.int .i64 c))], [], 0, 26⟩
def V4 : ASt → Option X4
 | ⟨[(0, .sl (.ints .u8 a)), (1, .sl (.ints .u8 b)), (5, .v (.int .i64 c))], [], 0, 26⟩ => some (a, b, c)
 | _ => none
theorem ape (st) (x) (h : V4 st = some x) : st = S4 x := by
 unfold V4 at h
 split at h
 · cases h; rfl
 · cases h
abbrev Y4 := P.bm9
def E4 (K : AExit → ASt → Option R) : Y4 → Option R := (Sum.elim (fun x => K (.exit 0) (S4 x)) (fun a => K .ret ⟨[(4, .v (.bool a))], [], 0, 26⟩))
noncomputable def L4 : yc := fun st K => agy (V4 st) fun x => P.bni x (E4 K)
noncomputable def D : Ctx := ({ P := Tryd.prog, G := [], globs := GLO.gB, hints := [(4, ⟨[0, 1, 5], [], [4], [], none, [], [], []⟩)], loops := [(4, L4)], inl := [] } : Ctx)
theorem ahu (K) (next) (x) : oq D (jc Tryd.f47 4) K next (S4 x) = P.bkm x (fun x => next (S4 x)) (E4 K) := by kernel_rfl
theorem an8 : nk D (jc Tryd.f47 4) := jo S4 ape (by kernel_rfl) P.bqo ahu
theorem loops : d9 (Tryd.f47.body.getD .skip) = [jc Tryd.f47 4] := by kernel_rfl
noncomputable def dn : Abs.Spec := fun args K => match args with
 | [.sl (.ints .u8 a), .sl (.ints .u8 b)] => P.vv a b (fun c => K (.v (.bool c)))
 | _ => none
noncomputable def spec : Abs.Spec := fun args K => dn (p9 [.sl (.ints .u8 []), .sl (.ints .u8 [])] args) K
theorem ok0 : Proved Tryd.prog GLO.gB 47 dn := by
 refine gq (D := D) (fn := Tryd.f47) (c := Tryd.f47.body.getD .skip) [.any] (by kernel_rfl) (bf (by kernel_rfl)) (by kernel_rfl) (by kernel_rfl) (by kernel_rfl) trivial trivial ?_ ?_
 · rw [loops]; exact ⟨an8, trivial⟩
 · intro args K r h
   unfold dn at h
   split at h
   · rw [P.ani] at h; exact Eq.trans (by kernel_rfl) h
   · cases h
theorem ok : Proved Tryd.prog GLO.gB 47 spec := jd _ ok0
end vv

namespace aan
abbrev X5 := P.bkl
def S5 : X5 → ASt := fun (a, b, c) => ⟨[(0, .v (.int .u64 a)), (5, .own 0), (6, .v (.int .i64 b))], [(0, some ⟨.row 5 (.ints .u8 c), false⟩)], 1, 30⟩
def V5 : ASt → Option X5
 | ⟨[(0, .v (.int .u64 a)), (5, .own 0), (6, .v (.int .i64 b))], [(0, some ⟨.row 5 (.ints .u8 c), false⟩)], 1, 30⟩ => some (a, b, c)
 | _ => none
theorem bcg (st) (x) (h : V5 st = some x) : st = S5 x := by
 unfold V5 at h
 split at h
 · cases h; rfl
 · cases h
abbrev Y5 := P.bm4
def E5 (K : AExit → ASt → Option R) : Y5 → Option R := (fun x => K (.exit 0) (S5 x))
noncomputable def L5 : yc := fun st K => agy (V5 st) fun x => P.bo9 x (E5 K)
noncomputable def D : Ctx := ({ P := Tryd.prog, G := [], globs := GLO.gB, hints := [(5, ⟨[0, 5, 6], [], [4], [], none, [], [], []⟩)], loops := [(5, L5)], inl := [] } : Ctx)
theorem avj (K) (next) (x) : oq D (jc Tryd.f60 5) K next (S5 x) = P.bh8 x (fun x => next (S5 x)) (E5 K) := by kernel_rfl
theorem bb6 : nk D (jc Tryd.f60 5) := jo S5 bcg (by kernel_rfl) P.bqk avj
theorem loops : d9 (Tryd.f60.body.getD .skip) = [jc Tryd.f60 5] := by kernel_rfl
noncomputable def dn : Abs.Spec := fun args K => match args with
 | [.v (.int .u64 a), .v (.int .i64 b)] => P.aan a b (fun c => K (.fr 5 (.ints .u8 c)))
 | _ => none
noncomputable def spec : Abs.Spec := dn
theorem ok0 : Proved Tryd.prog GLO.gB 60 dn := by
 refine gq (D := D) (fn := Tryd.f60) (c := Tryd.f60.body.getD .skip) [.fr 5 (.ints .u8 [])] (by kernel_rfl) (bf (by kernel_rfl)) (by kernel_rfl) (by kernel_rfl) (by kernel_rfl) trivial trivial ?_ ?_
 · rw [loops]; exact ⟨bb6, trivial⟩
 · intro args K r h
   unfold dn at h
   split at h
   · rw [P.au3] at h; exact Eq.trans (by kernel_rfl) h
   · cases h
theorem ok : Proved Tryd.prog GLO.gB 60 spec := ok0
end aan

namespace yt
abbrev X3 := P.bku
def S3 : X3 → ASt := fun (a, b, c) => ⟨[(3, .own 0), (0, .sl (.rows .u8 a)), (4, .v (.int .i64 b))], [(0, some ⟨.row 5 (.ints .u8 c), false⟩)], 1, 18⟩
def V3 : ASt → Option X3
 | ⟨[(3, .own 0), (0, .sl (.rows .u8 a)), (4, .v (.int .i64 b))], [(0, some ⟨.row 5 (.ints .u8 c), false⟩)], 1, 18⟩ => some (a, b, c)
 | _ => none
theorem al3 (st) (x) (h : V3 st = some x) : st = S3 x := by
 unfold V3 at h
 split at h
 · cases h; rfl
 · cases h
abbrev Y3 := P.bon
def E3 (K : AExit → ASt → Option R) : Y3 → Option R := (fun x => K (.exit 0) (S3 x))
noncomputable def L3 : yc := fun st K => agy (V3 st) fun x => P.bm1 x (E3 K)
noncomputable def D : Ctx := ({ P := Tryd.prog, G := [], globs := GLO.gB, hints := [(3, ⟨[0, 4], [(3, 5, .ints .u8 [])], [2], [], none, [], [], []⟩)], loops := [(3, L3)], inl := [] } : Ctx)
theorem afw (K) (next) (x) : oq D (jc Tryd.f59 3) K next (S3 x) = P.bji x (fun x => next (S3 x)) (E3 K) := by kernel_rfl
theorem ak4 : nk D (jc Tryd.f59 3) := jo S3 al3 (by kernel_rfl) P.bql afw
theorem loops : d9 (Tryd.f59.body.getD .skip) = [jc Tryd.f59 3] := by kernel_rfl
noncomputable def dn : Abs.Spec := fun args K => match args with
 | [.sl (.rows .u8 a)] => P.yt a (fun b => K (.fr 5 (.ints .u8 b)))
 | _ => none
noncomputable def spec : Abs.Spec := fun args K => dn (p9 [.sl (.rows .u8 [])] args) K
theorem ok0 : Proved Tryd.prog GLO.gB 59 dn := by
 refine gq (D := D) (fn := Tryd.f59) (c := Tryd.f59.body.getD .skip) [.fr 5 (.ints .u8 [])] (by kernel_rfl) (bf (by kernel_rfl)) (by kernel_rfl) (by kernel_rfl) (by kernel_rfl) trivial trivial ?_ ?_
 · rw [loops]; exact ⟨ak4, trivial⟩
 · intro args K r h
   unfold dn at h
   split at h
   · rw [P.aon] at h; exact Eq.trans (by kernel_rfl) h
   · cases h
theorem ok : Proved Tryd.prog GLO.gB 59 spec := jd _ ok0
end yt

namespace um
noncomputable def D : Ctx := ({ P := Tryd.prog, G := [], globs := GLO.gB, hints := [], loops := [], inl := [] } : Ctx)
theorem loops : d9 (Tryd.f82.body.getD .skip) = [] := by kernel_rfl
noncomputable def dn : Abs.Spec := fun args K => match args with
 | [.v (.int .i64 a)] => P.um a (fun b => K (.v (.int .i64 b)))
 | _ => none
noncomputable def spec : Abs.Spec := dn
theorem ok0 : Proved Tryd.prog GLO.gB 82 dn := by
 refine gq (D := D) (fn := Tryd.f82) (c := Tryd.f82.body.getD .skip) [.any] (by kernel_rfl) (bf (by kernel_rfl)) (by kernel_rfl) (by kernel_rfl) (by kernel_rfl) trivial trivial ?_ ?_
 · rw [loops]; exact trivial
 · intro args K r h
   unfold dn at h
   split at h
   · rw [P.amn] at h; exact Eq.trans (by kernel_rfl) h
   · cases h
theorem ok : Proved Tryd.prog GLO.gB 82 spec := ok0
end um

namespace tq
noncomputable def D : Ctx := ({ P := Tryd.prog, G := [], globs := GLO.gB, hints := [], loops := [], inl := [] } : Ctx)
theorem loops : d9 (Tryd.f96.body.getD .skip) = [] := by kernel_rfl
noncomputable def dn : Abs.Spec := fun args K => match args with
 | [.v (.int .u64 a), .v (.int .i64 b), .v (.bool c)] => P.tq a b c (fun d => K (.v (.int .u64 d)))
 | _ => none
noncomputable def spec : Abs.Spec := dn
theorem ok0 : Proved Tryd.prog GLO.gB 96 dn := by
 refine gq (D := D) (fn := Tryd.f96) (c := Tryd.f96.body.getD .skip) [.any] (by kernel_rfl) (bf (by kernel_rfl)) (by kernel_rfl) (by kernel_rfl) (by kernel_rfl) trivial trivial ?_ ?_
 · rw [loops]; exact trivial
 · intro args K r h
   unfold dn at h
   split at h
   · rw [P.ae4] at h; exact Eq.trans (by kernel_rfl) h
   · cases h
theorem ok : Proved Tryd.prog GLO.gB 96 spec := ok0
end tq

namespace uq
noncomputable def D : Ctx := ({ P := Tryd.prog, G := [(96, tq.spec)], globs := GLO.gB, hints := [], loops := [], inl := [] } : Ctx)
theorem loops : d9 (Tryd.f91.body.getD .skip) = [] := by kernel_rfl
noncomputable def dn : Abs.Spec := fun args K => match args with
 | [.v (.int .u64 a), .v (.int .i64 b), .v (.int .i64 c), .v (.int .i64 d), .v (.bool e), .v (.bool f)] => P.uq a b c d e f (fun g => K (.v (.int .u64 g)))
 | _ => none
noncomputable def spec : Abs.Spec := dn
theorem ok0 : Proved Tryd.prog GLO.gB 91 dn := by
 refine gq (D := D) (fn := Tryd.f91) (c := Tryd.f91.body.getD .skip) [.any] (by kernel_rfl) (bf (by kernel_rfl)) (by kernel_rfl) (by kernel_rfl) (by kernel_rfl) ⟨tq.ok, trivial⟩ trivial ?_ ?_
 · rw [loops]; exact trivial
 · intro args K r h
   unfold dn at h
   split at h
   · rw [P.acw] at h; exact Eq.trans (by kernel_rfl) h
   · cases h
theorem ok : Proved Tryd.prog GLO.gB 91 spec := ok0
end uq

namespace sw
noncomputable def D : Ctx := ({ P := Tryd.prog, G := [], globs := GLO.gB, hints := [], loops := [], inl := [] } : Ctx)
theorem loops : d9 (Tryd.f88.body.getD .skip) = [] := by kernel_rfl
noncomputable def dn : Abs.Spec := fun args K => match args with
 | [] => P.sw (fun a => K (.arr .u64 64 a))
 | _ => none
noncomputable def spec : Abs.Spec := dn
theorem ok0 : Proved Tryd.prog GLO.gB 88 dn := by
 refine gq (D := D) (fn := Tryd.f88) (c := Tryd.f88.body.getD .skip) [.any] (by kernel_rfl) (bf (by kernel_rfl)) (by kernel_rfl) (by kernel_rfl) (by kernel_rfl) trivial trivial ?_ ?_
 · rw [loops]; exact trivial
 · intro args K r h
   unfold dn at h
   split at h
   · rw [P.aej] at h; exact Eq.trans (by kernel_rfl) h
   · cases h
theorem ok : Proved Tryd.prog GLO.gB 88 spec := ok0
end sw

namespace su
noncomputable def D : Ctx := ({ P := Tryd.prog, G := [], globs := GLO.gB, hints := [], loops := [], inl := [] } : Ctx)
theorem loops : d9 (Tryd.f89.body.getD .skip) = [] := by kernel_rfl
noncomputable def dn : Abs.Spec := fun args K => match args with
 | [] => P.su (fun a => K (.arr .u64 80 a))
 | _ => none
noncomputable def spec : Abs.Spec := dn
theorem ok0 : Proved Tryd.prog GLO.gB 89 dn := by
 refine gq (D := D) (fn := Tryd.f89) (c := Tryd.f89.body.getD .skip) [.any] (by kernel_rfl) (bf (by kernel_rfl)) (by kernel_rfl) (by kernel_rfl) (by kernel_rfl) trivial trivial ?_ ?_
 · rw [loops]; exact trivial
 · intro args K r h
   unfold dn at h
   split at h
   · rw [P.aeg] at h; exact Eq.trans (by kernel_rfl) h
   · cases h
theorem ok : Proved Tryd.prog GLO.gB 89 spec := ok0
end su

namespace aav
abbrev X6 := P.bkp
def S6 : X6 → ASt := fun (b, c, d, e, f, a, g) => ⟨[(10, .own 0), (0, .sl (.ints .u8 b)), (1, .v (.bool c)), (2, .v (.int .i64 d)), (3, .v (.int .u64 e)), (9, .v (.int .i64 f)), (11, .v (.int .i64 a))], [(0, some ⟨.row 25 (.ints .u64 g), false⟩)], 1, 82⟩
def V6 : ASt → Option X6
 | ⟨[(10, .own 0), (0, .sl (.ints .u8 b)), (1, .v (.bool c)), (2, .v (.int .i64 d)), (3, .v (.int .u64 e)), (9, .v (.int .i64 f)), (11, .v (.int .i64 a))], [(0, some ⟨.row 25 (.ints .u64 g), false⟩)], 1, 82⟩ => some (b, c, d, e, f, a, g)
 | _ => none
theorem bn6 (st) (x) (h : V6 st = some x) : st = S6 x := by
 unfold V6 at h
 split at h
 · cases h; rfl
 · cases h
abbrev Y6 := P.bna
def E6 (K : AExit → ASt → Option R) : Y6 → Option R := (fun x => K (.exit 0) (S6 x))
noncomputable def L6 : yc := fun st K => agy (V6 st) fun x => P.bmr x (E6 K)
noncomputable def D : Ctx := ({ P := Tryd.prog, G := [(53, zm.spec), (91, uq.spec)], globs := GLO.gB, hints := [(6, ⟨[0, 1, 2, 3, 9, 11], [(10, 25, .ints .u64 [])], [8], [], none, [], [], []⟩)], loops := [(6, L6)], inl := [] } : Ctx)
theorem bi4 (K) (next) (x) : oq D (jc Tryd.f90 6) K next (S6 x) = P.bhw x (fun x => next (S6 x)) (E6 K) := by kernel_rfl
theorem bnb : nk D (jc Tryd.f90 6) := jo S6 bn6 (by kernel_rfl) P.bqj bi4
theorem loops : d9 (Tryd.f90.body.getD .skip) = [jc Tryd.f90 6] := by kernel_rfl
noncomputable def dn : Abs.Spec := fun args K => match args with
 | [.sl (.ints .u8 a), .v (.bool b), .v (.int .i64 c), .v (.int .u64 d)] => P.aav a b c d (fun e => K (.fr 25 (.ints .u64 e)))
 | _ => none
noncomputable def spec : Abs.Spec := fun args K => dn (p9 [.sl (.ints .u8 []), .any, .any, .any] args) K
theorem ok0 : Proved Tryd.prog GLO.gB 90 dn := by
 refine gq (D := D) (fn := Tryd.f90) (c := Tryd.f90.body.getD .skip) [.fr 25 (.ints .u64 [])] (by kernel_rfl) (bf (by kernel_rfl)) (by kernel_rfl) (by kernel_rfl) (by kernel_rfl) ⟨zm.ok, uq.ok, trivial⟩ trivial ?_ ?_
 · rw [loops]; exact ⟨bnb, trivial⟩
 · intro args K r h
   unfold dn at h
   split at h
   · rw [P.ahi] at h; exact Eq.trans (by kernel_rfl) h
   · cases h
theorem ok : Proved Tryd.prog GLO.gB 90 spec := jd _ ok0
end aav

namespace abf
abbrev X11 := P.bi5
def S11 : X11 → ASt := fun (g, h, i, f, a, b, c, d, j, e) => ⟨[(2, .v (.bool g)), (3, .ptr 0 0), (6, .ptr 1 0), (7, .v (.int .i64 h)), (8, .v (.int .u64 i)), (9, .ptr 2 0), (10, .ptr 3 0), (11, .own 4), (12, .ptr 5 0), (13, .v (.int .i64 f))], [(0, some ⟨.box 111 [.arr .u64 8 a], false⟩), (1, some ⟨.box 111 [.arr .u64 8 b], false⟩), (2, some ⟨.box 144 [.arr .u64 64 c], false⟩), (3, some ⟨.box 146 [.arr .u64 80 d], false⟩), (4, some ⟨.row 25 (.ints .u64 j), false⟩), (5, some ⟨.box 111 [.arr .u64 8 e], false⟩)], 6, 137⟩
def V11 : ASt → Option X11
 | ⟨[(2, .v (.bool g)), (3, .ptr 0 0), (6, .ptr 1 0), (7, .v (.int .i64 h)), (8, .v (.int .u64 i)), (9, .ptr 2 0), (10, .ptr 3 0), (11, .own 4), (12, .ptr 5 0), (13, .v (.int .i64 f))], [(0, some ⟨.box 111 [.arr .u64 8 a], false⟩), (1, some ⟨.box 111 [.arr .u64 8 b], false⟩), (2, some ⟨.box 144 [.arr .u64 64 c], false⟩), (3, some ⟨.box 146 [.arr .u64 80 d], false⟩), (4, some ⟨.row 25 (.ints .u64 j), false⟩), (5, some ⟨.box 111 [.arr .u64 8 e], false⟩)], 6, 137⟩ => some (g, h, i, f, a, b, c, d, j, e)
 | _ => none
theorem bbt (st) (x) (h : V11 st = some x) : st = S11 x := by
 unfold V11 at h
 split at h
 · cases h; rfl
 · cases h
abbrev Y11 := P.bl7
abbrev X25 := P.bjw
def S25 : X25 → ASt := fun (e, d, a, b, c) => ⟨[(3, .ptr 0 0), (6, .ptr 1 0), (8, .v (.int .u64 e)), (12, .ptr 5 0), (19, .v (.int .i64 d))], [(0, some ⟨.box 111 [.arr .u64 8 a], false⟩), (1, some ⟨.box 111 [.arr .u64 8 b], false⟩), (5, some ⟨.box 111 [.arr .u64 8 c], false⟩)], 80, 137⟩
def V25 : ASt → Option X25
 | ⟨[(3, .ptr 0 0), (6, .ptr 1 0), (8, .v (.int .u64 e)), (12, .ptr 5 0), (19, .v (.int .i64 d))], [(0, some ⟨.box 111 [.arr .u64 8 a], false⟩), (1, some ⟨.box 111 [.arr .u64 8 b], false⟩), (5, some ⟨.box 111 [.arr .u64 8 c], false⟩)], 80, 137⟩ => some (e, d, a, b, c)
 | _ => none
theorem bil (st) (x) (h : V25 st = some x) : st = S25 x := by
 unfold V25 at h
 split at h
 · cases h; rfl
 · cases h
abbrev Y25 := P.bms
def E11 (K : AExit → ASt → Option R) : Y11 → Option R := (fun x => K (.exit 0) (S11 x))
noncomputable def L11 : yc := fun st K => agy (V11 st) fun x => P.bme x (E11 K)
def E25 (K : AExit → ASt → Option R) : Y25 → Option R := (fun x => K (.exit 2) (S25 x))
noncomputable def L25 : yc := fun st K => agy (V25 st) fun x => P.boa x (E25 K)
noncomputable def D : Ctx := ({ P := Tryd.prog, G := [(88, sw.spec), (89, su.spec), (90, aav.spec), (91, uq.spec)], globs := GLO.gB, hints := [(25, ⟨[3, 6, 8, 12, 19], [], [6], [], some (80, [0, 1, 5]), [], [], []⟩), (11, ⟨[2, 3, 6, 7, 8, 9, 10, 11, 12, 13], [], [6], [], none, [], [], []⟩)], loops := [(11, L11), (25, L25)], inl := [] } : Ctx)
theorem awr (K) (next) (x) : oq D (jc Tryd.f83 11) K next (S11 x) = P.bhq x (fun x => next (S11 x)) (E11 K) := by kernel_rfl
theorem bcq : nk D (jc Tryd.f83 11) := jo S11 bbt (by kernel_rfl) P.bqs awr
theorem bg3 (K) (next) (x) : oq D (jc Tryd.f83 25) K next (S25 x) = P.bhr x (fun x => next (S25 x)) (E25 K) := by kernel_rfl
theorem bi3 : nk D (jc Tryd.f83 25) := jo S25 bil (by kernel_rfl) P.bpy bg3
theorem loops : d9 (Tryd.f83.body.getD .skip) = [jc Tryd.f83 11, jc Tryd.f83 25] := by kernel_rfl
noncomputable def dn : Abs.Spec := fun args K => match args with
 | [.arr .u64 8 a, .sl (.ints .u8 b), .v (.bool c)] => P.abf a b c (fun d => K (.arr .u64 8 d))
 | _ => none
noncomputable def spec : Abs.Spec := fun args K => dn (p9 [.any, .sl (.ints .u8 []), .any] args) K
theorem ok0 : Proved Tryd.prog GLO.gB 83 dn := by
 refine gq (D := D) (fn := Tryd.f83) (c := Tryd.f83.body.getD .skip) [.any] (by kernel_rfl) (bf (by kernel_rfl)) (by kernel_rfl) (by kernel_rfl) (by kernel_rfl) ⟨sw.ok, su.ok, aav.ok, uq.ok, trivial⟩ trivial ?_ ?_
 · rw [loops]; exact ⟨bcq, bi3, trivial⟩
 · intro args K r h
   unfold dn at h
   split at h
   · rw [P.ahw] at h; exact Eq.trans (by kernel_rfl) h
   · cases h
theorem ok : Proved Tryd.prog GLO.gB 83 spec := jd _ ok0
end abf

namespace aaq
abbrev X4 := P.biy
def S4 : X4 → ASt := fun (h, i, a, b, c, d, e, f, g) => ⟨[(2, .ptr 0 0), (4, .ptr 1 0), (5, .v (.int .i64 h)), (6, .sl (.ints .u8 i))], [(0, some ⟨.box 113 [.v (.int .i64 a), .arr .u64 8 b, .sl (.ints .u8 c), .v (.int .u64 d)], false⟩), (1, some ⟨.box 113 [.v (.int .i64 e), .arr .u64 8 f, .v (.slice none 0 0), .v (.int .u64 g)], false⟩)], 40, 41⟩
def V4 : ASt → Option X4
 | ⟨[(2, .ptr 0 0), (4, .ptr 1 0), (5, .v (.int .i64 h)), (6, .sl (.ints .u8 i))], [(0, some ⟨.box 113 [.v (.int .i64 a), .arr .u64 8 b, .sl (.ints .u8 c), .v (.int .u64 d)], false⟩), (1, some ⟨.box 113 [.v (.int .i64 e), .arr .u64 8 f, .v (.slice none 0 0), .v (.int .u64 g)], false⟩)], 40, 41⟩ => some (h, i, a, b, c, d, e, f, g)
 | _ => none
theorem ape (st) (x) (h : V4 st = some x) : st = S4 x := by
 unfold V4 at h
 split at h
 · cases h; rfl
 · cases h
abbrev Y4 := P.bpk
def E4 (K : AExit → ASt → Option R) : Y4 → Option R := (fun x => K (.exit 0) (S4 x))
noncomputable def L4 : yc := fun st K => agy (V4 st) fun x => P.bmn x (E4 K)
noncomputable def D : Ctx := ({ P := Tryd.prog, G := [(59, yt.spec), (82, um.spec), (83, abf.spec)], globs := GLO.gB, hints := [(4, ⟨[2, 4, 5, 6], [], [4], [(6, .sl (.ints .u8 []))], some (40, [0, 1]), [], [], []⟩)], loops := [(4, L4)], inl := [] } : Ctx)
theorem ahu (K) (next) (x) : oq D (jc Tryd.f74 4) K next (S4 x) = P.bhu x (fun x => next (S4 x)) (E4 K) := by kernel_rfl
theorem an8 : nk D (jc Tryd.f74 4) := jo S4 ape (by kernel_rfl) P.bqf ahu
theorem loops : d9 (Tryd.f74.body.getD .skip) = [jc Tryd.f74 4] := by kernel_rfl
noncomputable def dn : Abs.Spec := fun args K => match args with
 | [.agg [.v (.int .i64 c), .arr .u64 8 a, .sl (.ints .u8 d), .v (.int .u64 e)], .sl (.ints .u8 i)] => P.aaq c a d e i (fun f b g h => K (.agg [.v (.int .i64 f), .arr .u64 8 b, .sl (.ints .u8 g), .v (.int .u64 h)]))
 | _ => none
noncomputable def spec : Abs.Spec := fun args K => dn (p9 [.agg [.any, .any, .sl (.ints .u8 []), .any], .sl (.ints .u8 [])] args) K
theorem ok0 : Proved Tryd.prog GLO.gB 74 dn := by
 refine gq (D := D) (fn := Tryd.f74) (c := Tryd.f74.body.getD .skip) [.agg [.any, .any, .sl (.ints .u8 []), .any]] (by kernel_rfl) (bf (by kernel_rfl)) (by kernel_rfl) (by kernel_rfl) (by kernel_rfl) ⟨yt.ok, um.ok, abf.ok, trivial⟩ trivial ?_ ?_
 · rw [loops]; exact ⟨an8, trivial⟩
 · intro args K r h
   unfold dn at h
   split at h
   · rw [P.ari] at h; exact Eq.trans (by kernel_rfl) h
   · cases h
theorem ok : Proved Tryd.prog GLO.gB 74 spec := jd _ ok0
end aaq

end
