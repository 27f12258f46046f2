/-
  ForsSigns, part 20: an interpreter of my own over abstract values, the pure functions, the walks and the plain law.
-/

import Derived.Test.YtjhnljhjpnjieaaGreatDoorForsSignsL
import Derived.Test.YtjhnljhjpnjieaaGreatDoorForsSignsG
import Derived.Test.YtjhnljhjpnjieaaGreatDoorProg
import Derived.Test.YtjhnljhjpnjieaaGreatDoorForsSignsJ
import Derived.Test.YtjhnljhjpnjieaaGreatDoorForsSignsS
import Derived.KernelRfl
import Derived.Test.YtjhnljhjpnjieaaGreatDoorForsSignsK
import Derived.Test.YtjhnljhjpnjieaaGreatDoorForsSignsQ
import Derived.Test.YtjhnljhjpnjieaaGreatDoorForsSignsM
import Derived.Test.YtjhnljhjpnjieaaGreatDoorForsSignsP

section
open Go Go.Abs Go.Proofs
set_option maxRecDepth 100000
set_option maxHeartbeats 0
set_option linter.unusedVariables false

namespace aic
noncomputable def D : Ctx := ({ P := Tryz.prog, G := [(41, sw.spec)], globs := GLO.gx, hints := [], loops := [], inl := [] } : Ctx)
theorem loops : cu (Tryz.f74.body.getD .skip) = [] := by kernel_rfl
noncomputable def ay : Abs.Spec := fun args K => match args with
 | [.agg [.v (.int .i64 b), .v (.int .i64 c), .v (.int .i64 d), .v (.int .i64 e), .v (.int .i64 f), .v (.bool a)], .sl (.ints .u8 g), .sl (.ints .u8 h), .arr .u8 32 i] => P.aic b c d e f a g h i (fun j => K (.sl (.ints .u8 j)))
 | _ => none
noncomputable def spec : Abs.Spec := fun args K => ay (ou [.any, .sl (.ints .u8 []), .sl (.ints .u8 []), .any] args) K
theorem ok0 : Proved Tryz.prog GLO.gx 74 ay := by
 refine bq (D := D) (fn := Tryz.f74) (c := Tryz.f74.body.getD .skip) [.sl (.ints .u8 [])] (by kernel_rfl) (au (by kernel_rfl)) (by kernel_rfl) (by kernel_rfl) (by kernel_rfl) ⟨sw.ok, trivial⟩ trivial ?_ ?_
 · rw [loops]; exact trivial
 · intro args K r h
   unfold ay at h
   split at h
   · rw [P.avg] at h; exact Eq.trans (by kernel_rfl) h
   · cases h
theorem ok : Proved Tryz.prog GLO.gx 74 spec := d9 _ ok0
end aic

namespace aax
noncomputable def D : Ctx := ({ P := Tryz.prog, G := [(42, uq.spec), (74, aic.spec)], globs := GLO.gx, hints := [], loops := [], inl := [] } : Ctx)
theorem loops : cu (Tryz.f43.body.getD .skip) = [] := by kernel_rfl
noncomputable def ay : Abs.Spec := fun args K => match args with
 | [.agg [.v (.int .i64 b), .v (.int .i64 c), .v (.int .i64 d), .v (.int .i64 e), .v (.int .i64 f), .v (.bool a)], .sl (.ints .u8 g), .sl (.ints .u8 h), .arr .u8 32 i, .v (.int .u64 j)] => P.aax b c d e f a g h i j (fun k => K (.sl (.ints .u8 k)))
 | _ => none
noncomputable def spec : Abs.Spec := fun args K => ay (ou [.any, .sl (.ints .u8 []), .sl (.ints .u8 []), .any, .any] args) K
theorem ok0 : Proved Tryz.prog GLO.gx 43 ay := by
 refine bq (D := D) (fn := Tryz.f43) (c := Tryz.f43.body.getD .skip) [.sl (.ints .u8 [])] (by kernel_rfl) (au (by kernel_rfl)) (by kernel_rfl) (by kernel_rfl) (by kernel_rfl) ⟨uq.ok, aic.ok, trivial⟩ trivial ?_ ?_
 · rw [loops]; exact trivial
 · intro args K r h
   unfold ay at h
   split at h
   · rw [P.auh] at h; exact Eq.trans (by kernel_rfl) h
   · cases h
theorem ok : Proved Tryz.prog GLO.gx 43 spec := d9 _ ok0
end aax

namespace uo
noncomputable def D : Ctx := ({ P := Tryz.prog, G := [(37, qo.spec)], globs := GLO.gx, hints := [], loops := [], inl := [] } : Ctx)
theorem loops : cu (Tryz.f40.body.getD .skip) = [] := by kernel_rfl
noncomputable def ay : Abs.Spec := fun args K => match args with
 | [.agg [.v (.int .i64 b), .v (.int .i64 c), .v (.int .i64 d), .v (.int .i64 e), .v (.int .i64 f), .v (.bool a)], .sl (.ints .u8 g), .sl (.ints .u8 h)] => P.uo b c d e f a g h (fun i => K (.v (.bool i)))
 | _ => none
noncomputable def spec : Abs.Spec := fun args K => ay (ou [.any, .sl (.ints .u8 []), .sl (.ints .u8 [])] args) K
theorem ok0 : Proved Tryz.prog GLO.gx 40 ay := by
 refine bq (D := D) (fn := Tryz.f40) (c := Tryz.f40.body.getD .skip) [.any] (by kernel_rfl) (au (by kernel_rfl)) (by kernel_rfl) (by kernel_rfl) (by kernel_rfl) ⟨qo.ok, trivial⟩ trivial ?_ ?_
 · rw [loops]; exact trivial
 · intro args K r h
   unfold ay at h
   split at h
   · rw [P.as9] at h; exact Eq.trans (by kernel_rfl) h
   · cases h
theorem ok : Proved Tryz.prog GLO.gx 40 spec := d9 _ ok0
end uo

namespace aaz
noncomputable def be3 (n : Nat) : Abs.Spec := fun args K => match args with
 | [.agg [.v (.int .i64 b), .v (.int .i64 c), .v (.int .i64 d), .v (.int .i64 e), .v (.int .i64 f), .v (.bool a)], .sl (.ints .u8 g), .sl (.ints .u8 h), .arr .u8 32 i, .v (.int .i64 j), .v (.int .u64 k)] => P.aaz n b c d e f a g h i j k (fun l => K (.sl (.ints .u8 l)))
 | _ => none
noncomputable def b0k (n : Nat) : Abs.Spec := fun args K => be3 n (ou [.any, .sl (.ints .u8 []), .sl (.ints .u8 []), .any, .any, .any] args) K
noncomputable def D (n : Nat) : Ctx := ({ P := Tryz.prog, G := [(40, uo.spec), (41, sw.spec), (42, uq.spec), (43, aax.spec), (44, jv.spec), (14, b0k n)], globs := GLO.gx, hints := [], loops := [], inl := [] } : Ctx)
theorem body (n : Nat) (b : Int) (c : Int) (d : Int) (e : Int) (f : Int) (a : Bool) (g : List Int) (h : List Int) (i : List Int) (j : Int) (k : Int) (K : AVal → Option R) : bm0 (D n) Tryz.f14 [.sl (.ints .u8 [])] [.agg [.v (.int .i64 b), .v (.int .i64 c), .v (.int .i64 d), .v (.int .i64 e), .v (.int .i64 f), .v (.bool a)], .sl (.ints .u8 g), .sl (.ints .u8 h), .arr .u8 32 i, .v (.int .i64 j), .v (.int .u64 k)] K = P.aaz (n + 1) b c d e f a g h i j k (fun l => K (.sl (.ints .u8 l))) := by
 rw [P.ao4]
 kernel_rfl
theorem loops : cu (Tryz.f14.body.getD .skip) = [] := by kernel_rfl
noncomputable def ay : Abs.Spec := fun args K => match args with
 | [.agg [.v (.int .i64 b), .v (.int .i64 c), .v (.int .i64 d), .v (.int .i64 e), .v (.int .i64 f), .v (.bool a)], .sl (.ints .u8 h), .sl (.ints .u8 i), .arr .u8 32 j, .v (.int .i64 g), .v (.int .u64 k)] => P.aaz ((g.toNat+1)) b c d e f a h i j g k (fun l => K (.sl (.ints .u8 l)))
 | _ => none
noncomputable def spec : Abs.Spec := fun args K => ay (ou [.any, .sl (.ints .u8 []), .sl (.ints .u8 []), .any, .any, .any] args) K
theorem step (n : Nat) (ih : Proved Tryz.prog GLO.gx 14 (be3 n)) : Proved Tryz.prog GLO.gx 14 (be3 (n + 1)) := by
 refine bq (D := D n) (fn := Tryz.f14) (c := Tryz.f14.body.getD .skip) [.sl (.ints .u8 [])] (by kernel_rfl) (au (by kernel_rfl)) (by kernel_rfl) (by kernel_rfl) (by kernel_rfl) ⟨uo.ok, sw.ok, uq.ok, aax.ok, jv.ok, d9 _ ih, trivial⟩ trivial ?_ ?_
 · rw [loops]; exact trivial
 · intro args K r h
   unfold be3 at h
   split at h
   · rw [body]; exact h
   · cases h
theorem okN : ∀ n, Proved Tryz.prog GLO.gx 14 (be3 n)
 | 0 => ⟨⟨Tryz.f14, by kernel_rfl, by kernel_rfl, by kernel_rfl⟩, fun args K r h => by unfold be3 at h; split at h <;> cases h⟩
 | n + 1 => step n (okN n)
theorem ok0 : Proved Tryz.prog GLO.gx 14 ay := ⟨(okN 0).enters, fun args K r h => by
 unfold ay at h
 split at h
 · exact (okN _).sound _ K r (by unfold be3; exact h)
 · cases h⟩
theorem ok : Proved Tryz.prog GLO.gx 14 spec := d9 _ ok0
end aaz

namespace ac9
abbrev X12 := P.bvd
def S12 : X12 → ASt := fun (l, m, h, i, j, k, a, b, c, d, e, f, g, n) => ⟨[(14, .own 80), (2, .sl (.ints .u8 l)), (3, .sl (.ints .u8 m)), (5, .ptr 0 0), (9, .ptr 1 0), (13, .own 2), (15, .v (.int .i64 h)), (16, .v (.int .u64 i)), (17, .v (.int .i64 j))], [(80, some ⟨.row 26 (.rows .u8 k), false⟩), (0, some ⟨.box 23 [.v (.int .i64 a), .v (.int .i64 b), .v (.int .i64 c), .v (.int .i64 d), .v (.int .i64 e), .v (.bool f)], false⟩), (1, some ⟨.box 25 [.arr .u8 32 g], false⟩), (2, some ⟨.row 64 (.ints .u32 n), false⟩)], 81, 86⟩
def V12 : ASt → Option X12
 | ⟨[(14, .own 80), (2, .sl (.ints .u8 l)), (3, .sl (.ints .u8 m)), (5, .ptr 0 0), (9, .ptr 1 0), (13, .own 2), (15, .v (.int .i64 h)), (16, .v (.int .u64 i)), (17, .v (.int .i64 j))], [(80, some ⟨.row 26 (.rows .u8 k), false⟩), (0, some ⟨.box 23 [.v (.int .i64 a), .v (.int .i64 b), .v (.int .i64 c), .v (.int .i64 d), .v (.int .i64 e), .v (.bool f)], false⟩), (1, some ⟨.box 25 [.arr .u8 32 g], false⟩), (2, some ⟨.row 64 (.ints .u32 n), false⟩)], 81, 86⟩ => some (l, m, h, i, j, k, a, b, c, d, e, f, g, n)
 | _ => none
theorem au6 (st) (x) (h : V12 st = some x) : st = S12 x := by
 unfold V12 at h
 split at h
 · cases h; rfl
 · cases h
abbrev Y12 := P.b4m
abbrev X7 := P.bww
def S7 : X7 → ASt := fun (i, j, h, k, a, b, c, d, e, f, g, l) => ⟨[(14, .own 3), (2, .sl (.ints .u8 i)), (3, .sl (.ints .u8 j)), (5, .ptr 0 0), (9, .ptr 1 0), (13, .own 2), (15, .v (.int .i64 h))], [(3, some ⟨.row 26 (.rows .u8 k), false⟩), (0, some ⟨.box 23 [.v (.int .i64 a), .v (.int .i64 b), .v (.int .i64 c), .v (.int .i64 d), .v (.int .i64 e), .v (.bool f)], false⟩), (1, some ⟨.box 25 [.arr .u8 32 g], false⟩), (2, some ⟨.row 64 (.ints .u32 l), false⟩)], 4, 86⟩
def V7 : ASt → Option X7
 | ⟨[(14, .own 3), (2, .sl (.ints .u8 i)), (3, .sl (.ints .u8 j)), (5, .ptr 0 0), (9, .ptr 1 0), (13, .own 2), (15, .v (.int .i64 h))], [(3, some ⟨.row 26 (.rows .u8 k), false⟩), (0, some ⟨.box 23 [.v (.int .i64 a), .v (.int .i64 b), .v (.int .i64 c), .v (.int .i64 d), .v (.int .i64 e), .v (.bool f)], false⟩), (1, some ⟨.box 25 [.arr .u8 32 g], false⟩), (2, some ⟨.row 64 (.ints .u32 l), false⟩)], 4, 86⟩ => some (i, j, h, k, a, b, c, d, e, f, g, l)
 | _ => none
theorem avr (st) (x) (h : V7 st = some x) : st = S7 x := by
 unfold V7 at h
 split at h
 · cases h; rfl
 · cases h
abbrev Y7 := P.b1c
def E12 (K : AExit → ASt → Option R) : Y12 → Option R := (fun x => K (.exit 2) (S12 x))
noncomputable def L12 : qc := fun st K => ac6 (V12 st) fun x => P.b09 x (E12 K)
def E7 (K : AExit → ASt → Option R) : Y7 → Option R := (fun x => K (.exit 0) (S7 x))
noncomputable def L7 : qc := fun st K => ac6 (V7 st) fun x => P.bzz x (E7 K)
noncomputable def D : Ctx := ({ P := Tryz.prog, G := [(10, vw.spec), (14, aaz.spec), (40, uo.spec), (43, aax.spec), (44, jv.spec), (49, uz.spec)], globs := GLO.gx, hints := [(12, ⟨[2, 3, 5, 9, 13, 15, 16, 17], [(14, 26, .rows .u8 [])], [10], [], some (80, [0, 1, 2]), [], []⟩), (7, ⟨[2, 3, 5, 9, 13, 15], [(14, 26, .rows .u8 [])], [10], [], none, [], []⟩)], loops := [(12, L12), (7, L7)], inl := [] } : Ctx)
theorem ao9 (K) (next) (x) : kg D (dh Tryz.f18 12) K next (S12 x) = P.bur x (fun x => next (S12 x)) (E12 K) := by kernel_rfl
theorem au0 : ji D (dh Tryz.f18 12) := fu S12 au6 (by kernel_rfl) P.b63 ao9
theorem amd (K) (next) (x) : kg D (dh Tryz.f18 7) K next (S7 x) = P.br2 x (fun x => next (S7 x)) (E7 K) := by kernel_rfl
theorem at7 : ji D (dh Tryz.f18 7) := fu S7 avr (by kernel_rfl) P.b7d amd
theorem loops : cu (Tryz.f18.body.getD .skip) = [dh Tryz.f18 7, dh Tryz.f18 12] := by kernel_rfl
noncomputable def ay : Abs.Spec := fun args K => match args with
 | [.agg [.v (.int .i64 b), .v (.int .i64 c), .v (.int .i64 d), .v (.int .i64 e), .v (.int .i64 f), .v (.bool a)], .sl (.ints .u8 g), .sl (.ints .u8 h), .sl (.ints .u8 i), .arr .u8 32 j] => P.ac9 b c d e f a g h i j (fun k => K (.fr 5 (.ints .u8 k)))
 | _ => none
noncomputable def spec : Abs.Spec := fun args K => ay (ou [.any, .sl (.ints .u8 []), .sl (.ints .u8 []), .sl (.ints .u8 []), .any] args) K
theorem ok0 : Proved Tryz.prog GLO.gx 18 ay := by
 refine bq (D := D) (fn := Tryz.f18) (c := Tryz.f18.body.getD .skip) [.fr 5 (.ints .u8 [])] (by kernel_rfl) (au (by kernel_rfl)) (by kernel_rfl) (by kernel_rfl) (by kernel_rfl) ⟨vw.ok, aaz.ok, uo.ok, aax.ok, jv.ok, uz.ok, trivial⟩ trivial ?_ ?_
 · rw [loops]; exact ⟨at7, au0, trivial⟩
 · intro args K r h
   unfold ay at h
   split at h
   · rw [P.aj3] at h; exact Eq.trans (by kernel_rfl) h
   · cases h
theorem ok : Proved Tryz.prog GLO.gx 18 spec := d9 _ ok0
end ac9

namespace mh
noncomputable def D : Ctx := ({ P := Tryz.prog, G := [(75, xg.spec), (76, jm.spec)], globs := GLO.gx, hints := [], loops := [], inl := [] } : Ctx)
theorem loops : cu (Tryz.f45.body.getD .skip) = [] := by kernel_rfl
noncomputable def ay : Abs.Spec := fun args K => match args with
 | [.agg [.v (.int .i64 c), .v (.int .i64 d), .v (.int .i64 e), .v (.int .i64 f), .v (.int .i64 g), .v (.bool a), .sl (.ints .u8 b), .sl (.ints .u8 h), .arr .u8 32 i], .sl (.ints .u8 j)] => P.mh c d e f g a b h i j (fun k => K (.sl (.ints .u8 k)))
 | _ => none
noncomputable def spec : Abs.Spec := fun args K => ay (ou [.agg [.any, .any, .any, .any, .any, .any, .sl (.ints .u8 []), .sl (.ints .u8 []), .any], .sl (.ints .u8 [])] args) K
theorem ok0 : Proved Tryz.prog GLO.gx 45 ay := by
 refine bq (D := D) (fn := Tryz.f45) (c := Tryz.f45.body.getD .skip) [.sl (.ints .u8 [])] (by kernel_rfl) (au (by kernel_rfl)) (by kernel_rfl) (by kernel_rfl) (by kernel_rfl) ⟨xg.ok, jm.ok, trivial⟩ trivial ?_ ?_
 · rw [loops]; exact trivial
 · intro args K r h
   unfold ay at h
   split at h
   · rw [P.ajk] at h; exact Eq.trans (by kernel_rfl) h
   · cases h
theorem ok : Proved Tryz.prog GLO.gx 45 spec := d9 _ ok0
end mh

namespace oh
abbrev X3 := P.bv2
def S3 : X3 → ASt := fun (l, m, n, j, k, a, b, c, d, e, f, g, h, i) => ⟨[(1, .v (.int .u64 l)), (2, .sl (.ints .u8 m)), (3, .ptr 0 0), (7, .sl (.ints .u8 n)), (22, .v (.int .i64 j)), (23, .v (.int .i64 k))], [(0, some ⟨.box 47 [.v (.int .i64 a), .v (.int .i64 b), .v (.int .i64 c), .v (.int .i64 d), .v (.int .i64 e), .v (.bool f), .sl (.ints .u8 g), .sl (.ints .u8 h), .arr .u8 32 i], false⟩)], 40, 57⟩
def V3 : ASt → Option X3
 | ⟨[(1, .v (.int .u64 l)), (2, .sl (.ints .u8 m)), (3, .ptr 0 0), (7, .sl (.ints .u8 n)), (22, .v (.int .i64 j)), (23, .v (.int .i64 k))], [(0, some ⟨.box 47 [.v (.int .i64 a), .v (.int .i64 b), .v (.int .i64 c), .v (.int .i64 d), .v (.int .i64 e), .v (.bool f), .sl (.ints .u8 g), .sl (.ints .u8 h), .arr .u8 32 i], false⟩)], 40, 57⟩ => some (l, m, n, j, k, a, b, c, d, e, f, g, h, i)
 | _ => none
theorem akt (st) (x) (h : V3 st = some x) : st = S3 x := by
 unfold V3 at h
 split at h
 · cases h; rfl
 · cases h
abbrev Y3 := P.b0w
def E3 (K : AExit → ASt → Option R) : Y3 → Option R := (fun x => K (.exit 0) (S3 x))
noncomputable def L3 : qc := fun st K => ac6 (V3 st) fun x => P.bzb x (E3 K)
noncomputable def D : Ctx := ({ P := Tryz.prog, G := [(68, jc.spec)], globs := GLO.gx, hints := [(3, ⟨[1, 2, 3, 7, 22, 23], [], [6], [(2, .sl (.ints .u8 [])), (7, .sl (.ints .u8 []))], some (40, [0]), [], []⟩)], loops := [(3, L3)], inl := [] } : Ctx)
theorem ad2 (K) (next) (x) : kg D (dh Tryz.f50 3) K next (S3 x) = P.bt4 x (fun x => next (S3 x)) (E3 K) := by kernel_rfl
theorem akn : ji D (dh Tryz.f50 3) := fu S3 akt (by kernel_rfl) P.b6n ad2
theorem loops : cu (Tryz.f50.body.getD .skip) = [dh Tryz.f50 3] := by kernel_rfl
noncomputable def ay : Abs.Spec := fun args K => match args with
 | [.agg [.v (.int .i64 c), .v (.int .i64 d), .v (.int .i64 e), .v (.int .i64 f), .v (.int .i64 g), .v (.bool a), .sl (.ints .u8 b), .sl (.ints .u8 h), .arr .u8 32 i], .v (.int .u64 j), .sl (.ints .u8 k)] => P.oh c d e f g a b h i j k (fun l => K (.sl (.ints .u8 l)))
 | _ => none
noncomputable def spec : Abs.Spec := fun args K => ay (ou [.agg [.any, .any, .any, .any, .any, .any, .sl (.ints .u8 []), .sl (.ints .u8 []), .any], .any, .sl (.ints .u8 [])] args) K
theorem ok0 : Proved Tryz.prog GLO.gx 50 ay := by
 refine bq (D := D) (fn := Tryz.f50) (c := Tryz.f50.body.getD .skip) [.sl (.ints .u8 [])] (by kernel_rfl) (au (by kernel_rfl)) (by kernel_rfl) (by kernel_rfl) (by kernel_rfl) ⟨jc.ok, trivial⟩ trivial ?_ ?_
 · rw [loops]; exact ⟨akn, trivial⟩
 · intro args K r h
   unfold ay at h
   split at h
   · rw [P.akx] at h; exact Eq.trans (by kernel_rfl) h
   · cases h
theorem ok : Proved Tryz.prog GLO.gx 50 spec := d9 _ ok0
end oh

namespace pq
abbrev bue := P.bta
def bii : bue → ASt := fun (A, B, a, b, c, d, e, f, g, h, i, j, k, l, m, n, o, p, q, r, s, t, u, w, y, z, C) => ⟨[(0, .yld 7 [5, 6, 13, 14] [.ptr 0 0, .ptr 1 0, .ptr 3 0, .ptr 4 0]), (2, .ptr 5 0), (13, .own 8), (14, .v (.int .i64 A)), (15, .v (.int .i64 B))], [(840, some ⟨.row 5 (.ints .u8 a), false⟩), (0, some ⟨.box 23 [.v (.int .i64 b), .v (.int .i64 c), .v (.int .i64 d), .v (.int .i64 e), .v (.int .i64 f), .v (.bool g)], false⟩), (1, some ⟨.box 26 [.sl (.ints .u8 h)], false⟩), (3, some ⟨.box 47 [.v (.int .i64 i), .v (.int .i64 j), .v (.int .i64 k), .v (.int .i64 l), .v (.int .i64 m), .v (.bool n), .v (.slice none 0 0), .sl (.ints .u8 o), .arr .u8 32 p], false⟩), (4, some ⟨.box 26 [.own 840], false⟩), (5, some ⟨.box 47 [.v (.int .i64 q), .v (.int .i64 r), .v (.int .i64 s), .v (.int .i64 t), .v (.int .i64 u), .v (.bool w), .v (.slice none 0 0), .sl (.ints .u8 y), .arr .u8 32 z], false⟩), (8, some ⟨.row 64 (.ints .u32 C), false⟩)], 841, 33⟩
def bqo : ASt → Option bue
 | ⟨[(0, .yld 7 [5, 6, 13, 14] [.ptr 0 0, .ptr 1 0, .ptr 3 0, .ptr 4 0]), (2, .ptr 5 0), (13, .own 8), (14, .v (.int .i64 A)), (15, .v (.int .i64 B))], [(840, some ⟨.row 5 (.ints .u8 a), false⟩), (0, some ⟨.box 23 [.v (.int .i64 b), .v (.int .i64 c), .v (.int .i64 d), .v (.int .i64 e), .v (.int .i64 f), .v (.bool g)], false⟩), (1, some ⟨.box 26 [.sl (.ints .u8 h)], false⟩), (3, some ⟨.box 47 [.v (.int .i64 i), .v (.int .i64 j), .v (.int .i64 k), .v (.int .i64 l), .v (.int .i64 m), .v (.bool n), .v (.slice none 0 0), .sl (.ints .u8 o), .arr .u8 32 p], false⟩), (4, some ⟨.box 26 [.own 840], false⟩), (5, some ⟨.box 47 [.v (.int .i64 q), .v (.int .i64 r), .v (.int .i64 s), .v (.int .i64 t), .v (.int .i64 u), .v (.bool w), .v (.slice none 0 0), .sl (.ints .u8 y), .arr .u8 32 z], false⟩), (8, some ⟨.row 64 (.ints .u32 C), false⟩)], 841, 33⟩ => some (A, B, a, b, c, d, e, f, g, h, i, j, k, l, m, n, o, p, q, r, s, t, u, w, y, z, C)
 | _ => none
theorem bd6 (st) (x) (h : bqo st = some x) : st = bii x := by
 unfold bqo at h
 split at h
 · cases h; rfl
 · cases h
abbrev b0v := P.b5j
def brq (K : AExit → ASt → Option R) : b0v → Option R := (fun x => K (.exit 0) (bii x))
noncomputable def bzh : qc := fun st K => ac6 (bqo st) fun x => P.b0z x (brq K)
noncomputable def D3 : Ctx := ({ P := Tryz.prog, G := [(9, iq.spec), (36, mq.spec), (45, mh.spec), (50, oh.spec), (78, jk.spec)], globs := GLO.gx, hints := [], loops := [], inl := [], y := some (bb9 (agd Tryz.f19 8) 68 false) } : Ctx)
noncomputable def D2 : Ctx := ({ P := Tryz.prog, G := [(9, iq.spec), (36, mq.spec), (45, mh.spec), (50, oh.spec), (78, jk.spec)], globs := GLO.gx, hints := [(1, ⟨[0, 2, 13, 14, 15], [(1000004, 5, .ints .u8 [])], [], [], some (840, [0, 1, 3, 4, 5, 8]), [0, 1, 3, 5], []⟩)], loops := [(1, bzh)], inl := [], y := some (bb9 (agd Tryz.f19 8) 68 true), ys := some (as0 D3 (bb9 (agd Tryz.f19 8) 68 true)) } : Ctx)
noncomputable def D1 : Ctx := ({ P := Tryz.prog, G := [(9, iq.spec), (36, mq.spec), (45, mh.spec), (50, oh.spec), (78, jk.spec)], globs := GLO.gx, hints := [], loops := [], inl := [] } : Ctx)
noncomputable def D : Ctx := ({ P := Tryz.prog, G := [(9, iq.spec), (36, mq.spec), (45, mh.spec), (50, oh.spec), (78, jk.spec)], globs := GLO.gx, hints := [], loops := [], inl := [(47, agj D1 Tryz.f47)], top := true, rng := [(8, ⟨77, 68, [5, 6, 13, 14], agj D2 Tryz.f77⟩)] } : Ctx)
theorem az3 (K) (next) (x) : kg D2 (dh Tryz.f77 1) K next (bii x) = P.bth x (fun x => next (bii x)) (brq K) := by kernel_rfl
theorem be9 : ji D2 (dh Tryz.f77 1) := fu bii bd6 (by kernel_rfl) P.b54 az3
theorem loops : cu (Tryz.f19.body.getD .skip) = [] := by kernel_rfl
theorem aly : cu (Tryz.f47.body.getD .skip) = [] := by kernel_rfl
theorem bcw : cu (Tryz.f77.body.getD .skip) = [dh Tryz.f77 1] := by kernel_rfl
theorem bi0 : cu (bov (agd Tryz.f19 8)) = [] := by kernel_rfl
theorem ranges : ug (Tryz.f19.body.getD .skip) = [agd Tryz.f19 8] := by kernel_rfl
theorem azg : aoi D2 (as0 D3 (bb9 (agd Tryz.f19 8) 68 true)) := bbf (Y := bb9 (agd Tryz.f19 8) 68 true) (axo (D := D3) ⟨iq.ok, mq.ok, mh.ok, oh.ok, jk.ok, trivial⟩) (au (by kernel_rfl)) (ax2 (D := D3) trivial (ar5 rfl)) (by kernel_rfl) rfl rfl (by kernel_rfl) (by kernel_rfl) rfl rfl rfl (aib _ (by rw [show cu (bb9 (agd Tryz.f19 8) 68 true).assign = [] from by kernel_rfl]; exact trivial)) (aib _ (by rw [show cu (bb9 (agd Tryz.f19 8) 68 true).body = cu (bov (agd Tryz.f19 8)) from by kernel_rfl, bi0]; exact trivial))
noncomputable def ay : Abs.Spec := fun args K => match args with
 | [.agg [.v (.int .i64 b), .v (.int .i64 c), .v (.int .i64 d), .v (.int .i64 e), .v (.int .i64 f), .v (.bool a)], .sl (.ints .u8 g), .sl (.ints .u8 h), .sl (.ints .u8 i), .arr .u8 32 j] => P.pq b c d e f a g h i j (fun k => K (.sl (.ints .u8 k)))
 | _ => none
noncomputable def spec : Abs.Spec := fun args K => ay (ou [.any, .sl (.ints .u8 []), .sl (.ints .u8 []), .sl (.ints .u8 []), .any] args) K
theorem ok0 : Proved Tryz.prog GLO.gx 19 ay := by
 refine bq (D := D) (fn := Tryz.f19) (c := Tryz.f19.body.getD .skip) [.sl (.ints .u8 [])] (by kernel_rfl) (au (by kernel_rfl)) (by kernel_rfl) (by kernel_rfl) (by kernel_rfl) ⟨iq.ok, mq.ok, mh.ok, oh.ok, jk.ok, trivial⟩ ⟨apm (D := D1) (D' := D) (fn := Tryz.f47) (c := Tryz.f47.body.getD .skip) rfl rfl (by kernel_rfl) (au (by kernel_rfl)) (by kernel_rfl) (by kernel_rfl) (by kernel_rfl) ⟨iq.ok, mq.ok, mh.ok, oh.ok, jk.ok, trivial⟩ trivial (by rw [aly]; exact trivial) (fun _ _ _ _ _ h => h), trivial⟩ ?_ ?_ (hRg := by rw [ranges]; exact ⟨ay4 (D := D) (Di := D2) (e := ⟨77, 68, [5, 6, 13, 14], agj D2 Tryz.f77⟩) (by kernel_rfl) rfl rfl (by kernel_rfl) (apm (D := D2) (D' := D2) (fn := Tryz.f77) (c := Tryz.f77.body.getD .skip) rfl rfl (by kernel_rfl) (au (by kernel_rfl)) (by kernel_rfl) (by kernel_rfl) (by kernel_rfl) ⟨iq.ok, mq.ok, mh.ok, oh.ok, jk.ok, trivial⟩ trivial (by rw [bcw]; exact ⟨be9, trivial⟩) (fun _ _ _ _ _ h => h) rfl rfl (aqc rfl _) (fun s hs => by have hs : some (as0 D3 (bb9 (agd Tryz.f19 8) 68 true)) = some s := hs; cases hs; exact azg)), trivial⟩)
 · rw [loops]; exact trivial
 · intro args K r h
   unfold ay at h
   split at h
   · rw [P.aaj] at h; exact Eq.trans (by kernel_rfl) h
   · cases h
theorem ok : Proved Tryz.prog GLO.gx 19 spec := d9 _ ok0
end pq

namespace xq
noncomputable def D : Ctx := ({ P := Tryz.prog, G := [(7, agh.spec), (8, tu.spec), (11, aam.spec), (12, aci.spec), (17, yw.spec), (18, ac9.spec), (19, pq.spec), (20, ql.spec)], globs := GLO.gx, hints := [], loops := [], inl := [] } : Ctx)
theorem loops : cu (Tryz.f4.body.getD .skip) = [] := by kernel_rfl
noncomputable def ay : Abs.Spec := fun args K => match args with
 | [.agg [.v (.int .i64 b), .v (.int .i64 c), .v (.int .i64 d), .v (.int .i64 e), .v (.int .i64 f), .v (.bool a)], .arr .u8 32 g, .sl (.ints .u8 h), .sl (.ints .u8 i), .sl (.ints .u8 j), .sl (.ints .u8 k)] => P.xq b c d e f a g h i j k (fun l => K (.v (.bool l)))
 | _ => none
noncomputable def spec : Abs.Spec := fun args K => ay (ou [.any, .any, .sl (.ints .u8 []), .sl (.ints .u8 []), .sl (.ints .u8 []), .sl (.ints .u8 [])] args) K
theorem ok0 : Proved Tryz.prog GLO.gx 4 ay := by
 refine bq (D := D) (fn := Tryz.f4) (c := Tryz.f4.body.getD .skip) [.any] (by kernel_rfl) (au (by kernel_rfl)) (by kernel_rfl) (by kernel_rfl) (by kernel_rfl) ⟨agh.ok, tu.ok, aam.ok, aci.ok, yw.ok, ac9.ok, pq.ok, ql.ok, trivial⟩ trivial ?_ ?_
 · rw [loops]; exact trivial
 · intro args K r h
   unfold ay at h
   split at h
   · rw [P.aky] at h; exact Eq.trans (by kernel_rfl) h
   · cases h
theorem ok : Proved Tryz.prog GLO.gx 4 spec := d9 _ ok0
end xq

end
