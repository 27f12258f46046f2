/-
  ForsSigns, part 16: an interpreter of my own over abstract values, the pure functions, the walks and the plain law.
-/

import Derived.Test.YtjhnljhjpnjieaaGreatDoorForsSignsK
import Derived.Test.YtjhnljhjpnjieaaGreatDoorForsSignsG
import Derived.Test.YtjhnljhjpnjieaaGreatDoorProg
import Derived.Test.YtjhnljhjpnjieaaGreatDoorForsSignsJ
import Derived.Test.YtjhnljhjpnjieaaGreatDoorForsSignsO
import Derived.KernelRfl
import Derived.Test.YtjhnljhjpnjieaaGreatDoorForsSignsM
import Derived.Test.YtjhnljhjpnjieaaGreatDoorForsSignsI

section
open Go Go.Abs Go.Proofs
set_option maxRecDepth 100000
set_option maxHeartbeats 0
set_option linter.unusedVariables false

namespace tq
noncomputable def D1 : Ctx := ({ P := Tryz.prog, G := [(138, ko.spec), (140, gy.spec)], globs := GLO.gx, hints := [], loops := [], inl := [] } : Ctx)
noncomputable def D : Ctx := ({ P := Tryz.prog, G := [(138, ko.spec), (140, gy.spec)], globs := GLO.gx, hints := [], loops := [], inl := [(139, agj D1 Tryz.f139)] } : Ctx)
theorem loops : cu (Tryz.f141.body.getD .skip) = [] := by kernel_rfl
theorem aly : cu (Tryz.f139.body.getD .skip) = [] := by kernel_rfl
noncomputable def ay : Abs.Spec := fun args K => match args with
 | [.agg [.v (.int .i64 c), .arr .u64 25 a, .v (.int .i64 g), .v (.bool e)]] => P.tq c a g e (fun d b h f => K (.agg [.v (.int .i64 d), .arr .u64 25 b, .v (.int .i64 h), .v (.bool f)]))
 | _ => none
noncomputable def spec : Abs.Spec := ay
theorem ok0 : Proved Tryz.prog GLO.gx 141 ay := by
 refine bq (D := D) (fn := Tryz.f141) (c := Tryz.f141.body.getD .skip) [.any] (by kernel_rfl) (au (by kernel_rfl)) (by kernel_rfl) (by kernel_rfl) (by kernel_rfl) ⟨ko.ok, gy.ok, trivial⟩ ⟨apm (D := D1) (D' := D) (fn := Tryz.f139) (c := Tryz.f139.body.getD .skip) rfl rfl (by kernel_rfl) (au (by kernel_rfl)) (by kernel_rfl) (by kernel_rfl) (by kernel_rfl) ⟨ko.ok, gy.ok, trivial⟩ trivial (by rw [aly]; exact trivial) (fun _ _ _ _ _ h => h), trivial⟩ ?_ ?_
 · rw [loops]; exact trivial
 · intro args K r h
   unfold ay at h
   split at h
   · rw [P.ak6] at h; exact Eq.trans (by kernel_rfl) h
   · cases h
theorem ok : Proved Tryz.prog GLO.gx 141 spec := ok0
end tq

namespace qh
abbrev X7 := P.bs7
def S7 : X7 → ASt := fun (i, j, a, b, c, d, e, f, g, h, k) => ⟨[(2, .ptr 0 0), (4, .ptr 1 0), (6, .own 2), (19, .v (.int .i64 i)), (20, .v (.int .i64 j))], [(0, some ⟨.box 109 [.v (.int .i64 a), .arr .u64 25 b, .v (.int .i64 c), .v (.bool d)], false⟩), (1, some ⟨.box 109 [.v (.int .i64 e), .arr .u64 25 f, .v (.int .i64 g), .v (.bool h)], false⟩), (2, some ⟨.row 5 (.ints .u8 k), false⟩)], 40, 56⟩
def V7 : ASt → Option X7
 | ⟨[(2, .ptr 0 0), (4, .ptr 1 0), (6, .own 2), (19, .v (.int .i64 i)), (20, .v (.int .i64 j))], [(0, some ⟨.box 109 [.v (.int .i64 a), .arr .u64 25 b, .v (.int .i64 c), .v (.bool d)], false⟩), (1, some ⟨.box 109 [.v (.int .i64 e), .arr .u64 25 f, .v (.int .i64 g), .v (.bool h)], false⟩), (2, some ⟨.row 5 (.ints .u8 k), false⟩)], 40, 56⟩ => some (i, j, a, b, c, d, e, f, g, h, k)
 | _ => none
theorem avr (st) (x) (h : V7 st = some x) : st = S7 x := by
 unfold V7 at h
 split at h
 · cases h; rfl
 · cases h
abbrev Y7 := P.bz2
def E7 (K : AExit → ASt → Option R) : Y7 → Option R := (fun x => K (.exit 0) (S7 x))
noncomputable def L7 : qc := fun st K => ac6 (V7 st) fun x => P.byv x (E7 K)
noncomputable def D : Ctx := ({ P := Tryz.prog, G := [(138, ko.spec), (140, gy.spec), (141, tq.spec)], globs := GLO.gx, hints := [(7, ⟨[2, 4, 6, 19, 20], [], [4, 5], [], some (40, [0, 1, 2]), [], []⟩)], loops := [(7, L7)], inl := [] } : Ctx)
theorem amd (K) (next) (x) : kg D (dh Tryz.f124 7) K next (S7 x) = P.brx x (fun x => next (S7 x)) (E7 K) := by kernel_rfl
theorem at7 : ji D (dh Tryz.f124 7) := fu S7 avr (by kernel_rfl) P.b50 amd
theorem loops : cu (Tryz.f124.body.getD .skip) = [dh Tryz.f124 7] := by kernel_rfl
noncomputable def ay : Abs.Spec := fun args K => match args with
 | [.agg [.v (.int .i64 c), .arr .u64 25 a, .v (.int .i64 g), .v (.bool e)], .v (.int .i64 i)] => P.qh c a g e i (fun d b h f j => K (.tuple [.agg [.v (.int .i64 d), .arr .u64 25 b, .v (.int .i64 h), .v (.bool f)], .fr 5 (.ints .u8 j)]))
 | _ => none
noncomputable def spec : Abs.Spec := ay
theorem ok0 : Proved Tryz.prog GLO.gx 124 ay := by
 refine bq (D := D) (fn := Tryz.f124) (c := Tryz.f124.body.getD .skip) [.any, .fr 5 (.ints .u8 [])] (by kernel_rfl) (au (by kernel_rfl)) (by kernel_rfl) (by kernel_rfl) (by kernel_rfl) ⟨ko.ok, gy.ok, tq.ok, trivial⟩ trivial ?_ ?_
 · rw [loops]; exact ⟨at7, trivial⟩
 · intro args K r h
   unfold ay at h
   split at h
   · rw [P.ajs] at h; exact Eq.trans (by kernel_rfl) h
   · cases h
theorem ok : Proved Tryz.prog GLO.gx 124 spec := ok0
end qh

namespace l9
noncomputable def D : Ctx := ({ P := Tryz.prog, G := [(94, jq.spec), (122, og.spec), (124, qh.spec)], globs := GLO.gx, hints := [], loops := [], inl := [] } : Ctx)
theorem loops : cu (Tryz.f123.body.getD .skip) = [] := by kernel_rfl
noncomputable def ay : Abs.Spec := fun args K => match args with
 | [.arr .u8 32 e, .sl (.ints .u8 f), .sta [.v (.int .i64 b), .arr .u64 25 a, .v (.int .i64 d), .v (.bool c)], .sta [.v (.int .i64 g)]] => P.l9 e f b a d c g (fun h => K (.fr 5 (.ints .u8 h)))
 | _ => none
noncomputable def spec : Abs.Spec := fun args K => ay (ou [.any, .sl (.ints .u8 []), .any, .any] args) K
theorem ok0 : Proved Tryz.prog GLO.gx 123 ay := by
 refine bq (D := D) (fn := Tryz.f123) (c := Tryz.f123.body.getD .skip) [.fr 5 (.ints .u8 [])] (by kernel_rfl) (au (by kernel_rfl)) (by kernel_rfl) (by kernel_rfl) (by kernel_rfl) ⟨jq.ok, og.ok, qh.ok, trivial⟩ trivial ?_ ?_
 · rw [loops]; exact trivial
 · intro args K r h
   unfold ay at h
   split at h
   · rw [P.ajn] at h; exact Eq.trans (by kernel_rfl) h
   · cases h
theorem ok : Proved Tryz.prog GLO.gx 123 spec := d9 _ ok0
end l9

namespace abu
noncomputable def D : Ctx := ({ P := Tryz.prog, G := [(121, adt.spec), (122, og.spec), (123, l9.spec)], globs := GLO.gx, hints := [], loops := [], inl := [], sta := true } : Ctx)
theorem loops : cu (Tryz.f110.body.getD .skip) = [] := by kernel_rfl
noncomputable def ay : Abs.Spec := fun args K => match args with
 | [.v (.int .i64 f), .sl (.ints .u8 g)] => P.abu f g (fun b a d c e => K (.fn (.func 123) [] [.sta [.v (.int .i64 b), .arr .u64 25 a, .v (.int .i64 d), .v (.bool c)], .sta [.v (.int .i64 e)]]))
 | _ => none
noncomputable def spec : Abs.Spec := fun args K => ay (ou [.any, .sl (.ints .u8 [])] args) K
theorem ok0 : Proved Tryz.prog GLO.gx 110 ay := by
 refine bq (D := D) (fn := Tryz.f110) (c := Tryz.f110.body.getD .skip) [.any] (by kernel_rfl) (au (by kernel_rfl)) (by kernel_rfl) (by kernel_rfl) (by kernel_rfl) ⟨adt.ok, og.ok, l9.ok, trivial⟩ trivial ?_ ?_
 · rw [loops]; exact trivial
 · intro args K r h
   unfold ay at h
   split at h
   · rw [P.an5] at h; exact Eq.trans (by kernel_rfl) h
   · cases h
theorem ok : Proved Tryz.prog GLO.gx 110 spec := d9 _ ok0
end abu

namespace acj
noncomputable def D : Ctx := ({ P := Tryz.prog, G := [(36, mq.spec), (110, abu.spec), (111, acg.spec), (123, l9.spec), (126, l8.spec)], globs := GLO.gx, hints := [], loops := [], inl := [] } : Ctx)
theorem loops : cu (Tryz.f87.body.getD .skip) = [] := by kernel_rfl
noncomputable def ay : Abs.Spec := fun args K => match args with
 | [.agg [.v (.int .i64 y), .v (.int .i64 z), .v (.int .i64 A), .v (.int .i64 B), .v (.int .i64 C), .v (.bool p)], .sl (.ints .u8 F)] => P.acj y z A B C p F (fun q r s t u l w d a m k n e b f g o h c i j G => K (.tuple [.agg [.v (.int .i64 q), .v (.int .i64 r), .v (.int .i64 s), .v (.int .i64 t), .v (.int .i64 u), .v (.bool l), .alt w (.func 123) [] [.sta [.v (.int .i64 d), .arr .u64 25 a, .v (.int .i64 m), .v (.bool k)], .sta [.v (.int .i64 n)]] (.func 126) [] [.sta [.v (.int .i64 e), .arr .u64 8 b, .sl (.ints .u8 f), .v (.int .u64 g)], .sta [.v (.int .i64 o)], .sta [.v (.int .i64 h), .arr .u64 8 c, .sl (.ints .u8 i), .v (.int .u64 j)]]], .v (.bool G)]))
 | _ => none
noncomputable def spec : Abs.Spec := fun args K => ay (ou [.any, .sl (.ints .u8 [])] args) K
theorem ok0 : Proved Tryz.prog GLO.gx 87 ay := by
 refine bq (D := D) (fn := Tryz.f87) (c := Tryz.f87.body.getD .skip) [.agg [.any, .any, .any, .any, .any, .any, .alt (.func 123) [] [.sta [.v (.int .i64 0), .arr .u64 25 [], .v (.int .i64 0), .v (.bool false)], .sta [.v (.int .i64 0)]] (.func 126) [] [.sta [.v (.int .i64 0), .arr .u64 8 [], .sl (.ints .u8 []), .v (.int .u64 0)], .sta [.v (.int .i64 0)], .sta [.v (.int .i64 0), .arr .u64 8 [], .sl (.ints .u8 []), .v (.int .u64 0)]]], .any] (by kernel_rfl) (au (by kernel_rfl)) (by kernel_rfl) (by kernel_rfl) (by kernel_rfl) ⟨mq.ok, abu.ok, acg.ok, l9.ok, l8.ok, trivial⟩ trivial ?_ ?_
 · rw [loops]; exact trivial
 · intro args K r h
   unfold ay at h
   split at h
   · rw [P.ako] at h; exact Eq.trans (by kernel_rfl) h
   · cases h
theorem ok : Proved Tryz.prog GLO.gx 87 spec := d9 _ ok0
end acj

namespace xg
noncomputable def D : Ctx := ({ P := Tryz.prog, G := [(87, acj.spec), (123, l9.spec), (126, l8.spec)], globs := GLO.gx, hints := [], loops := [], inl := [] } : Ctx)
theorem loops : cu (Tryz.f75.body.getD .skip) = [] := by kernel_rfl
noncomputable def ay : Abs.Spec := fun args K => match args with
 | [.agg [.v (.int .i64 b), .v (.int .i64 c), .v (.int .i64 d), .v (.int .i64 e), .v (.int .i64 f), .v (.bool a)], .sl (.ints .u8 g), .arr .u8 32 h, .sl (.ints .u8 i)] => P.xg b c d e f a g h i (fun j => K (.sl (.ints .u8 j)))
 | _ => none
noncomputable def spec : Abs.Spec := fun args K => ay (ou [.any, .sl (.ints .u8 []), .any, .sl (.ints .u8 [])] args) K
theorem ok0 : Proved Tryz.prog GLO.gx 75 ay := by
 refine bq (D := D) (fn := Tryz.f75) (c := Tryz.f75.body.getD .skip) [.sl (.ints .u8 [])] (by kernel_rfl) (au (by kernel_rfl)) (by kernel_rfl) (by kernel_rfl) (by kernel_rfl) ⟨acj.ok, l9.ok, l8.ok, trivial⟩ trivial ?_ ?_
 · rw [loops]; exact trivial
 · intro args K r h
   unfold ay at h
   split at h
   · rw [P.avw] at h; exact Eq.trans (by kernel_rfl) h
   · cases h
theorem ok : Proved Tryz.prog GLO.gx 75 spec := d9 _ ok0
end xg

namespace afn
noncomputable def D : Ctx := ({ P := Tryz.prog, G := [(75, xg.spec)], globs := GLO.gx, hints := [], loops := [], inl := [] } : Ctx)
theorem loops : cu (Tryz.f79.body.getD .skip) = [] := by kernel_rfl
noncomputable def ay : Abs.Spec := fun args K => match args with
 | [.agg [.v (.int .i64 b), .v (.int .i64 c), .v (.int .i64 d), .v (.int .i64 e), .v (.int .i64 f), .v (.bool a)], .sl (.ints .u8 g), .sl (.ints .u8 h), .arr .u8 32 i] => P.afn b c d e f a g h i (fun j => K (.sl (.ints .u8 j)))
 | _ => none
noncomputable def spec : Abs.Spec := fun args K => ay (ou [.any, .sl (.ints .u8 []), .sl (.ints .u8 []), .any] args) K
theorem ok0 : Proved Tryz.prog GLO.gx 79 ay := by
 refine bq (D := D) (fn := Tryz.f79) (c := Tryz.f79.body.getD .skip) [.sl (.ints .u8 [])] (by kernel_rfl) (au (by kernel_rfl)) (by kernel_rfl) (by kernel_rfl) (by kernel_rfl) ⟨xg.ok, trivial⟩ trivial ?_ ?_
 · rw [loops]; exact trivial
 · intro args K r h
   unfold ay at h
   split at h
   · rw [P.asx] at h; exact Eq.trans (by kernel_rfl) h
   · cases h
theorem ok : Proved Tryz.prog GLO.gx 79 spec := d9 _ ok0
end afn

namespace je
noncomputable def D : Ctx := ({ P := Tryz.prog, G := [(76, jm.spec), (79, afn.spec), (80, oz.spec)], globs := GLO.gx, hints := [], loops := [], inl := [] } : Ctx)
theorem loops : cu (Tryz.f48.body.getD .skip) = [] := by kernel_rfl
noncomputable def ay : Abs.Spec := fun args K => match args with
 | [.agg [.v (.int .i64 c), .v (.int .i64 d), .v (.int .i64 e), .v (.int .i64 f), .v (.int .i64 g), .v (.bool a), .sl (.ints .u8 b), .sl (.ints .u8 h), .arr .u8 32 i], .v (.int .u64 j)] => P.je c d e f g a b h i j (fun k => K (.sl (.ints .u8 k)))
 | _ => none
noncomputable def spec : Abs.Spec := fun args K => ay (ou [.agg [.any, .any, .any, .any, .any, .any, .sl (.ints .u8 []), .sl (.ints .u8 []), .any], .any] args) K
theorem ok0 : Proved Tryz.prog GLO.gx 48 ay := by
 refine bq (D := D) (fn := Tryz.f48) (c := Tryz.f48.body.getD .skip) [.sl (.ints .u8 [])] (by kernel_rfl) (au (by kernel_rfl)) (by kernel_rfl) (by kernel_rfl) (by kernel_rfl) ⟨jm.ok, afn.ok, oz.ok, trivial⟩ trivial ?_ ?_
 · rw [loops]; exact trivial
 · intro args K r h
   unfold ay at h
   split at h
   · rw [P.ah7] at h; exact Eq.trans (by kernel_rfl) h
   · cases h
theorem ok : Proved Tryz.prog GLO.gx 48 spec := d9 _ ok0
end je

namespace pz
noncomputable def D : Ctx := ({ P := Tryz.prog, G := [(76, jm.spec), (80, oz.spec)], globs := GLO.gx, hints := [], loops := [], inl := [] } : Ctx)
theorem loops : cu (Tryz.f96.body.getD .skip) = [] := by kernel_rfl
noncomputable def ay : Abs.Spec := fun args K => match args with
 | [.agg [.v (.int .i64 c), .v (.int .i64 d), .v (.int .i64 e), .v (.int .i64 f), .v (.int .i64 g), .v (.bool a), .sl (.ints .u8 b), .sl (.ints .u8 h), .arr .u8 32 i], .v (.int .i64 j), .v (.int .u64 k)] => P.pz c d e f g a b h i j k (fun l => K (.arr .u8 32 l))
 | _ => none
noncomputable def spec : Abs.Spec := fun args K => ay (ou [.agg [.any, .any, .any, .any, .any, .any, .sl (.ints .u8 []), .sl (.ints .u8 []), .any], .any, .any] args) K
theorem ok0 : Proved Tryz.prog GLO.gx 96 ay := by
 refine bq (D := D) (fn := Tryz.f96) (c := Tryz.f96.body.getD .skip) [.any] (by kernel_rfl) (au (by kernel_rfl)) (by kernel_rfl) (by kernel_rfl) (by kernel_rfl) ⟨jm.ok, oz.ok, trivial⟩ trivial ?_ ?_
 · rw [loops]; exact trivial
 · intro args K r h
   unfold ay at h
   split at h
   · rw [P.agl] at h; exact Eq.trans (by kernel_rfl) h
   · cases h
theorem ok : Proved Tryz.prog GLO.gx 96 spec := d9 _ ok0
end pz

namespace jc
noncomputable def D : Ctx := ({ P := Tryz.prog, G := [(75, xg.spec), (94, jq.spec), (96, pz.spec)], globs := GLO.gx, hints := [], loops := [], inl := [] } : Ctx)
theorem loops : cu (Tryz.f68.body.getD .skip) = [] := by kernel_rfl
noncomputable def ay : Abs.Spec := fun args K => match args with
 | [.agg [.v (.int .i64 c), .v (.int .i64 d), .v (.int .i64 e), .v (.int .i64 f), .v (.int .i64 g), .v (.bool a), .sl (.ints .u8 b), .sl (.ints .u8 h), .arr .u8 32 i], .v (.int .i64 j), .v (.int .u64 k), .sl (.rows .u8 l)] => P.jc c d e f g a b h i j k l (fun m => K (.sl (.ints .u8 m)))
 | _ => none
noncomputable def spec : Abs.Spec := fun args K => ay (ou [.agg [.any, .any, .any, .any, .any, .any, .sl (.ints .u8 []), .sl (.ints .u8 []), .any], .any, .any, .sl (.rows .u8 [])] args) K
theorem ok0 : Proved Tryz.prog GLO.gx 68 ay := by
 refine bq (D := D) (fn := Tryz.f68) (c := Tryz.f68.body.getD .skip) [.sl (.ints .u8 [])] (by kernel_rfl) (au (by kernel_rfl)) (by kernel_rfl) (by kernel_rfl) (by kernel_rfl) ⟨xg.ok, jq.ok, pz.ok, trivial⟩ trivial ?_ ?_
 · rw [loops]; exact trivial
 · intro args K r h
   unfold ay at h
   split at h
   · rw [P.ah9] at h; exact Eq.trans (by kernel_rfl) h
   · cases h
theorem ok : Proved Tryz.prog GLO.gx 68 spec := d9 _ ok0
end jc

namespace l6
abbrev X7 := P.buu
def S7 : X7 → ASt := fun (p, q, r, o, a, b, c, d, e, f, g, h, i, j, k, l, m, n) => ⟨[(7, .own 80), (1, .v (.int .i64 p)), (2, .v (.int .u64 q)), (3, .ptr 0 0), (8, .v (.int .u64 r)), (9, .ptr 3 0), (10, .v (.int .i64 o))], [(80, some ⟨.row 83 (.cols a [.ints .i64 b, .rows .u8 c]), false⟩), (0, some ⟨.box 47 [.v (.int .i64 d), .v (.int .i64 e), .v (.int .i64 f), .v (.int .i64 g), .v (.int .i64 h), .v (.bool i), .sl (.ints .u8 j), .sl (.ints .u8 k), .arr .u8 32 l], false⟩), (3, some ⟨.box 83 [.v (.int .i64 m), .sl (.ints .u8 n)], false⟩)], 81, 82⟩
def V7 : ASt → Option X7
 | ⟨[(7, .own 80), (1, .v (.int .i64 p)), (2, .v (.int .u64 q)), (3, .ptr 0 0), (8, .v (.int .u64 r)), (9, .ptr 3 0), (10, .v (.int .i64 o))], [(80, some ⟨.row 83 (.cols a [.ints .i64 b, .rows .u8 c]), false⟩), (0, some ⟨.box 47 [.v (.int .i64 d), .v (.int .i64 e), .v (.int .i64 f), .v (.int .i64 g), .v (.int .i64 h), .v (.bool i), .sl (.ints .u8 j), .sl (.ints .u8 k), .arr .u8 32 l], false⟩), (3, some ⟨.box 83 [.v (.int .i64 m), .sl (.ints .u8 n)], false⟩)], 81, 82⟩ => some (p, q, r, o, a, b, c, d, e, f, g, h, i, j, k, l, m, n)
 | _ => none
theorem avr (st) (x) (h : V7 st = some x) : st = S7 x := by
 unfold V7 at h
 split at h
 · cases h; rfl
 · cases h
abbrev Y7 := P.b2t
abbrev X3 := P.btx
def S3 : X3 → ASt := fun (m, n, o, j, k, l, a, b, c, d, e, f, g, h, i) => ⟨[(7, .own 1), (1, .v (.int .i64 m)), (2, .v (.int .u64 n)), (3, .ptr 0 0), (8, .v (.int .u64 o))], [(1, some ⟨.row 83 (.cols j [.ints .i64 k, .rows .u8 l]), false⟩), (0, some ⟨.box 47 [.v (.int .i64 a), .v (.int .i64 b), .v (.int .i64 c), .v (.int .i64 d), .v (.int .i64 e), .v (.bool f), .sl (.ints .u8 g), .sl (.ints .u8 h), .arr .u8 32 i], false⟩)], 2, 82⟩
def V3 : ASt → Option X3
 | ⟨[(7, .own 1), (1, .v (.int .i64 m)), (2, .v (.int .u64 n)), (3, .ptr 0 0), (8, .v (.int .u64 o))], [(1, some ⟨.row 83 (.cols j [.ints .i64 k, .rows .u8 l]), false⟩), (0, some ⟨.box 47 [.v (.int .i64 a), .v (.int .i64 b), .v (.int .i64 c), .v (.int .i64 d), .v (.int .i64 e), .v (.bool f), .sl (.ints .u8 g), .sl (.ints .u8 h), .arr .u8 32 i], false⟩)], 2, 82⟩ => some (m, n, o, j, k, l, a, b, c, d, e, f, g, h, i)
 | _ => none
theorem akt (st) (x) (h : V3 st = some x) : st = S3 x := by
 unfold V3 at h
 split at h
 · cases h; rfl
 · cases h
abbrev Y3 := P.b0l
def E7 (K : AExit → ASt → Option R) : Y7 → Option R := (fun x => K (.exit 2) (S7 x))
noncomputable def L7 : qc := fun st K => ac6 (V7 st) fun x => P.b22 x (E7 K)
def E3 (K : AExit → ASt → Option R) : Y3 → Option R := (fun x => K (.exit 0) (S3 x))
noncomputable def L3 : qc := fun st K => ac6 (V3 st) fun x => P.b0h x (E3 K)
noncomputable def D : Ctx := ({ P := Tryz.prog, G := [(48, je.spec), (68, jc.spec)], globs := GLO.gx, hints := [(7, ⟨[1, 2, 3, 8, 9, 10], [(7, 83, .cols 0 [.ints .i64 [], .rows .u8 []])], [6], [], some (80, [0, 3]), [], []⟩), (3, ⟨[1, 2, 3, 8], [(7, 83, .cols 0 [.ints .i64 [], .rows .u8 []])], [6], [], none, [], []⟩)], loops := [(7, L7), (3, L3)], inl := [] } : Ctx)
theorem amd (K) (next) (x) : kg D (dh Tryz.f39 7) K next (S7 x) = P.bul x (fun x => next (S7 x)) (E7 K) := by kernel_rfl
theorem at7 : ji D (dh Tryz.f39 7) := fu S7 avr (by kernel_rfl) P.b7a amd
theorem ad2 (K) (next) (x) : kg D (dh Tryz.f39 3) K next (S3 x) = P.btp x (fun x => next (S3 x)) (E3 K) := by kernel_rfl
theorem akn : ji D (dh Tryz.f39 3) := fu S3 akt (by kernel_rfl) P.b5u ad2
theorem loops : cu (Tryz.f39.body.getD .skip) = [dh Tryz.f39 3, dh Tryz.f39 7] := by kernel_rfl
noncomputable def ay : Abs.Spec := fun args K => match args with
 | [.agg [.v (.int .i64 c), .v (.int .i64 d), .v (.int .i64 e), .v (.int .i64 f), .v (.int .i64 g), .v (.bool a), .sl (.ints .u8 b), .sl (.ints .u8 h), .arr .u8 32 i], .v (.int .i64 j), .v (.int .u64 k)] => P.l6 c d e f g a b h i j k (fun l => K (.sl (.ints .u8 l)))
 | _ => none
noncomputable def spec : Abs.Spec := fun args K => ay (ou [.agg [.any, .any, .any, .any, .any, .any, .sl (.ints .u8 []), .sl (.ints .u8 []), .any], .any, .any] args) K
theorem ok0 : Proved Tryz.prog GLO.gx 39 ay := by
 refine bq (D := D) (fn := Tryz.f39) (c := Tryz.f39.body.getD .skip) [.sl (.ints .u8 [])] (by kernel_rfl) (au (by kernel_rfl)) (by kernel_rfl) (by kernel_rfl) (by kernel_rfl) ⟨je.ok, jc.ok, trivial⟩ trivial ?_ ?_
 · rw [loops]; exact ⟨akn, at7, trivial⟩
 · intro args K r h
   unfold ay at h
   split at h
   · rw [P.ail] at h; exact Eq.trans (by kernel_rfl) h
   · cases h
theorem ok : Proved Tryz.prog GLO.gx 39 spec := d9 _ ok0
end l6

namespace jy
noncomputable def D : Ctx := ({ P := Tryz.prog, G := [(36, mq.spec)], globs := GLO.gx, hints := [], loops := [], inl := [] } : Ctx)
theorem loops : cu (Tryz.f38.body.getD .skip) = [] := by kernel_rfl
noncomputable def ay : Abs.Spec := fun args K => match args with
 | [.agg [.v (.int .i64 k), .v (.int .i64 l), .v (.int .i64 m), .v (.int .i64 n), .v (.int .i64 o), .v (.bool c)], .sl (.ints .u8 p), .sl (.ints .u8 q), .arr .u8 32 r] => P.jy k l m n o c p q r (fun d e f g h a b i j s => K (.tuple [.agg [.v (.int .i64 d), .v (.int .i64 e), .v (.int .i64 f), .v (.int .i64 g), .v (.int .i64 h), .v (.bool a), .sl (.ints .u8 b), .sl (.ints .u8 i), .arr .u8 32 j], .v (.bool s)]))
 | _ => none
noncomputable def spec : Abs.Spec := fun args K => ay (ou [.any, .sl (.ints .u8 []), .sl (.ints .u8 []), .any] args) K
theorem ok0 : Proved Tryz.prog GLO.gx 38 ay := by
 refine bq (D := D) (fn := Tryz.f38) (c := Tryz.f38.body.getD .skip) [.agg [.any, .any, .any, .any, .any, .any, .sl (.ints .u8 []), .sl (.ints .u8 []), .any], .any] (by kernel_rfl) (au (by kernel_rfl)) (by kernel_rfl) (by kernel_rfl) (by kernel_rfl) ⟨mq.ok, trivial⟩ trivial ?_ ?_
 · rw [loops]; exact trivial
 · intro args K r h
   unfold ay at h
   split at h
   · rw [P.amg] at h; exact Eq.trans (by kernel_rfl) h
   · cases h
theorem ok : Proved Tryz.prog GLO.gx 38 spec := d9 _ ok0
end jy

end
