/-
  XmssGrows, part 16: an interpreter of my own over abstract values, the pure functions, the walks and the plain law.
-/

import Derived.Test.YtjhnljhjpnjieaaGreatDoorXmssGrowsH
import Derived.Test.YtjhnljhjpnjieaaGreatDoorXmssGrowsG
import Derived.Test.YtjhnljhjpnjieaaGreatDoorProg
import Derived.Test.YtjhnljhjpnjieaaGreatDoorXmssGrowsN
import Derived.Test.YtjhnljhjpnjieaaGreatDoorXmssGrowsO
import Derived.KernelRfl
import Derived.Test.YtjhnljhjpnjieaaGreatDoorXmssGrowsM
import Derived.Test.YtjhnljhjpnjieaaGreatDoorXmssGrowsI
import Derived.Test.YtjhnljhjpnjieaaGreatDoorXmssGrowsK

section
open Go Go.Abs Go.Proofs
set_option maxRecDepth 100000
set_option maxHeartbeats 0
set_option linter.unusedVariables false

namespace ng
noncomputable def D : Ctx := ({ P := Tryz.prog, G := [(123, je.spec), (126, jc.spec)], globs := GLO.gx, hints := [], loops := [], inl := [] } : Ctx)
theorem loops : d9 (Tryz.f92.body.getD .skip) = [] := by kernel_rfl
noncomputable def bn : Abs.Spec := fun args K => match args with
 | [.agg [.v (.int .i64 p), .v (.int .i64 q), .v (.int .i64 r), .v (.int .i64 s), .v (.int .i64 t), .v (.bool l), .alt u (.func 123) [] [.sta [.v (.int .i64 d), .arr .u64 25 a, .v (.int .i64 m), .v (.bool k)], .sta [.v (.int .i64 n)]] (.func 126) [] [.sta [.v (.int .i64 e), .arr .u64 8 b, .sl (.ints .u8 f), .v (.int .u64 g)], .sta [.v (.int .i64 o)], .sta [.v (.int .i64 h), .arr .u64 8 c, .sl (.ints .u8 i), .v (.int .u64 j)]]]] => P.ng p q r s t l u d a m k n e b f g o h c i j (fun w => K (.v (.int .i64 w)))
 | _ => none
noncomputable def spec : Abs.Spec := fun args K => bn (oh [.agg [.any, .any, .any, .any, .any, .any, .alt (.func 123) [] [.sta [.v (.int .i64 0), .arr .u64 25 [], .v (.int .i64 0), .v (.bool false)], .sta [.v (.int .i64 0)]] (.func 126) [] [.sta [.v (.int .i64 0), .arr .u64 8 [], .sl (.ints .u8 []), .v (.int .u64 0)], .sta [.v (.int .i64 0)], .sta [.v (.int .i64 0), .arr .u64 8 [], .sl (.ints .u8 []), .v (.int .u64 0)]]]] args) K
theorem ok0 : Proved Tryz.prog GLO.gx 92 bn := by
 refine dw (D := D) (fn := Tryz.f92) (c := Tryz.f92.body.getD .skip) [.any] (by kernel_rfl) (bf (by kernel_rfl)) (by kernel_rfl) (by kernel_rfl) (by kernel_rfl) ⟨je.ok, jc.ok, trivial⟩ trivial ?_ ?_
 · rw [loops]; exact trivial
 · intro args K r h
   unfold bn at h
   split at h
   · rw [P.ahi] at h; exact Eq.trans (by kernel_rfl) h
   · cases h
theorem ok : Proved Tryz.prog GLO.gx 92 spec := eu _ ok0
end ng

namespace tq
noncomputable def D : Ctx := ({ P := Tryz.prog, G := [(106, yx.spec)], globs := GLO.gx, hints := [], loops := [], inl := [] } : Ctx)
theorem loops : d9 (Tryz.f112.body.getD .skip) = [] := by kernel_rfl
noncomputable def bn : Abs.Spec := fun args K => match args with
 | [.arr .u8 32 a, .v (.int .i64 b)] => P.tq a b (fun c => K (.v (.int .u64 c)))
 | _ => none
noncomputable def spec : Abs.Spec := bn
theorem ok0 : Proved Tryz.prog GLO.gx 112 bn := by
 refine dw (D := D) (fn := Tryz.f112) (c := Tryz.f112.body.getD .skip) [.any] (by kernel_rfl) (bf (by kernel_rfl)) (by kernel_rfl) (by kernel_rfl) (by kernel_rfl) ⟨yx.ok, trivial⟩ trivial ?_ ?_
 · rw [loops]; exact trivial
 · intro args K r h
   unfold bn at h
   split at h
   · rw [P.aon] at h; exact Eq.trans (by kernel_rfl) h
   · cases h
theorem ok : Proved Tryz.prog GLO.gx 112 spec := ok0
end tq

namespace mq
noncomputable def D : Ctx := ({ P := Tryz.prog, G := [(80, iy.spec), (112, tq.spec), (123, je.spec), (126, jc.spec)], globs := GLO.gx, hints := [], loops := [], inl := [] } : Ctx)
theorem loops : d9 (Tryz.f90.body.getD .skip) = [] := by kernel_rfl
noncomputable def bn : Abs.Spec := fun args K => match args with
 | [.agg [.v (.int .i64 p), .v (.int .i64 q), .v (.int .i64 r), .v (.int .i64 s), .v (.int .i64 t), .v (.bool l), .alt u (.func 123) [] [.sta [.v (.int .i64 d), .arr .u64 25 a, .v (.int .i64 m), .v (.bool k)], .sta [.v (.int .i64 n)]] (.func 126) [] [.sta [.v (.int .i64 e), .arr .u64 8 b, .sl (.ints .u8 f), .v (.int .u64 g)], .sta [.v (.int .i64 o)], .sta [.v (.int .i64 h), .arr .u64 8 c, .sl (.ints .u8 i), .v (.int .u64 j)]]], .sl (.ints .u8 w), .arr .u8 32 y, .v (.int .i64 z)] => P.mq p q r s t l u d a m k n e b f g o h c i j w y z (fun A => K (.sl (.ints .u8 A)))
 | _ => none
noncomputable def spec : Abs.Spec := fun args K => bn (oh [.agg [.any, .any, .any, .any, .any, .any, .alt (.func 123) [] [.sta [.v (.int .i64 0), .arr .u64 25 [], .v (.int .i64 0), .v (.bool false)], .sta [.v (.int .i64 0)]] (.func 126) [] [.sta [.v (.int .i64 0), .arr .u64 8 [], .sl (.ints .u8 []), .v (.int .u64 0)], .sta [.v (.int .i64 0)], .sta [.v (.int .i64 0), .arr .u64 8 [], .sl (.ints .u8 []), .v (.int .u64 0)]]], .sl (.ints .u8 []), .any, .any] args) K
theorem ok0 : Proved Tryz.prog GLO.gx 90 bn := by
 refine dw (D := D) (fn := Tryz.f90) (c := Tryz.f90.body.getD .skip) [.sl (.ints .u8 [])] (by kernel_rfl) (bf (by kernel_rfl)) (by kernel_rfl) (by kernel_rfl) (by kernel_rfl) ⟨iy.ok, tq.ok, je.ok, jc.ok, trivial⟩ trivial ?_ ?_
 · rw [loops]; exact trivial
 · intro args K r h
   unfold bn at h
   split at h
   · rw [P.ahk] at h; exact Eq.trans (by kernel_rfl) h
   · cases h
theorem ok : Proved Tryz.prog GLO.gx 90 spec := eu _ ok0
end mq

namespace o9
noncomputable def D : Ctx := ({ P := Tryz.prog, G := [(80, iy.spec), (112, tq.spec), (123, je.spec), (126, jc.spec)], globs := GLO.gx, hints := [], loops := [], inl := [] } : Ctx)
theorem loops : d9 (Tryz.f93.body.getD .skip) = [] := by kernel_rfl
noncomputable def bn : Abs.Spec := fun args K => match args with
 | [.agg [.v (.int .i64 p), .v (.int .i64 q), .v (.int .i64 r), .v (.int .i64 s), .v (.int .i64 t), .v (.bool l), .alt u (.func 123) [] [.sta [.v (.int .i64 d), .arr .u64 25 a, .v (.int .i64 m), .v (.bool k)], .sta [.v (.int .i64 n)]] (.func 126) [] [.sta [.v (.int .i64 e), .arr .u64 8 b, .sl (.ints .u8 f), .v (.int .u64 g)], .sta [.v (.int .i64 o)], .sta [.v (.int .i64 h), .arr .u64 8 c, .sl (.ints .u8 i), .v (.int .u64 j)]]], .sl (.ints .u8 w), .arr .u8 32 y] => P.o9 p q r s t l u d a m k n e b f g o h c i j w y (fun z => K (.sl (.ints .u8 z)))
 | _ => none
noncomputable def spec : Abs.Spec := fun args K => bn (oh [.agg [.any, .any, .any, .any, .any, .any, .alt (.func 123) [] [.sta [.v (.int .i64 0), .arr .u64 25 [], .v (.int .i64 0), .v (.bool false)], .sta [.v (.int .i64 0)]] (.func 126) [] [.sta [.v (.int .i64 0), .arr .u64 8 [], .sl (.ints .u8 []), .v (.int .u64 0)], .sta [.v (.int .i64 0)], .sta [.v (.int .i64 0), .arr .u64 8 [], .sl (.ints .u8 []), .v (.int .u64 0)]]], .sl (.ints .u8 []), .any] args) K
theorem ok0 : Proved Tryz.prog GLO.gx 93 bn := by
 refine dw (D := D) (fn := Tryz.f93) (c := Tryz.f93.body.getD .skip) [.sl (.ints .u8 [])] (by kernel_rfl) (bf (by kernel_rfl)) (by kernel_rfl) (by kernel_rfl) (by kernel_rfl) ⟨iy.ok, tq.ok, je.ok, jc.ok, trivial⟩ trivial ?_ ?_
 · rw [loops]; exact trivial
 · intro args K r h
   unfold bn at h
   split at h
   · rw [P.ai9] at h; exact Eq.trans (by kernel_rfl) h
   · cases h
theorem ok : Proved Tryz.prog GLO.gx 93 spec := eu _ ok0
end o9

namespace zn
abbrev X6 := P.bwt
def S6 : X6 → ASt := fun (B, y, z, A, o, p, q, r, s, t, u, w, a, b, c, d, e, f, g, h, i, j, k, l, m, n) => ⟨[(11, .own 40), (1, .sl (.ints .u8 B)), (7, .ptr 1 0), (9, .ptr 2 0), (29, .v (.int .i64 y)), (30, .v (.int .i64 z))], [(40, some ⟨.row 5 (.ints .u8 A), false⟩), (1, some ⟨.box 25 [.arr .u8 32 o], false⟩), (2, some ⟨.box 97 [.v (.int .i64 p), .v (.int .i64 q), .v (.int .i64 r), .v (.int .i64 s), .v (.int .i64 t), .v (.bool u), .alt w (.func 123) [] [.sta [.v (.int .i64 a), .arr .u64 25 b, .v (.int .i64 c), .v (.bool d)], .sta [.v (.int .i64 e)]] (.func 126) [] [.sta [.v (.int .i64 f), .arr .u64 8 g, .sl (.ints .u8 h), .v (.int .u64 i)], .sta [.v (.int .i64 j)], .sta [.v (.int .i64 k), .arr .u64 8 l, .sl (.ints .u8 m), .v (.int .u64 n)]]], false⟩)], 41, 51⟩
def V6 : ASt → Option X6
 | ⟨[(11, .own 40), (1, .sl (.ints .u8 B)), (7, .ptr 1 0), (9, .ptr 2 0), (29, .v (.int .i64 y)), (30, .v (.int .i64 z))], [(40, some ⟨.row 5 (.ints .u8 A), false⟩), (1, some ⟨.box 25 [.arr .u8 32 o], false⟩), (2, some ⟨.box 97 [.v (.int .i64 p), .v (.int .i64 q), .v (.int .i64 r), .v (.int .i64 s), .v (.int .i64 t), .v (.bool u), .alt w (.func 123) [] [.sta [.v (.int .i64 a), .arr .u64 25 b, .v (.int .i64 c), .v (.bool d)], .sta [.v (.int .i64 e)]] (.func 126) [] [.sta [.v (.int .i64 f), .arr .u64 8 g, .sl (.ints .u8 h), .v (.int .u64 i)], .sta [.v (.int .i64 j)], .sta [.v (.int .i64 k), .arr .u64 8 l, .sl (.ints .u8 m), .v (.int .u64 n)]]], false⟩)], 41, 51⟩ => some (B, y, z, A, o, p, q, r, s, t, u, w, a, b, c, d, e, f, g, h, i, j, k, l, m, n)
 | _ => none
theorem ah4 (st) (x) (h : V6 st = some x) : st = S6 x := by
 unfold V6 at h
 split at h
 · cases h; rfl
 · cases h
abbrev Y6 := P.b2v
def E6 (K : AExit → ASt → Option R) : Y6 → Option R := (fun x => K (.exit 0) (S6 x))
noncomputable def L6 : p8 := fun st K => acg (V6 st) fun x => P.b1m x (E6 K)
noncomputable def D : Ctx := ({ P := Tryz.prog, G := [(80, iy.spec), (87, qp.spec), (89, jy.spec), (90, mq.spec), (92, ng.spec), (93, o9.spec)], globs := GLO.gx, hints := [(6, ⟨[1, 7, 9, 29, 30], [(11, 5, .ints .u8 [])], [8], [], some (40, [1, 2]), [], []⟩)], loops := [(6, L6)], inl := [] } : Ctx)
theorem ac4 (K) (next) (x) : jq D (dz Tryz.f82 6) K next (S6 x) = P.bxi x (fun x => next (S6 x)) (E6 K) := by kernel_rfl
theorem aiw : ji D (dz Tryz.f82 6) := gy S6 ah4 (by kernel_rfl) P.b81 ac4
theorem loops : d9 (Tryz.f82.body.getD .skip) = [dz Tryz.f82 6] := by kernel_rfl
noncomputable def bn : Abs.Spec := fun args K => match args with
 | [.agg [.v (.int .i64 b), .v (.int .i64 c), .v (.int .i64 d), .v (.int .i64 e), .v (.int .i64 f), .v (.bool a)], .sl (.ints .u8 g), .sl (.ints .u8 h), .arr .u8 32 i] => P.zn b c d e f a g h i (fun j => K (.sl (.ints .u8 j)))
 | _ => none
noncomputable def spec : Abs.Spec := fun args K => bn (oh [.any, .sl (.ints .u8 []), .sl (.ints .u8 []), .any] args) K
theorem ok0 : Proved Tryz.prog GLO.gx 82 bn := by
 refine dw (D := D) (fn := Tryz.f82) (c := Tryz.f82.body.getD .skip) [.sl (.ints .u8 [])] (by kernel_rfl) (bf (by kernel_rfl)) (by kernel_rfl) (by kernel_rfl) (by kernel_rfl) ⟨iy.ok, qp.ok, jy.ok, mq.ok, ng.ok, o9.ok, trivial⟩ trivial ?_ ?_
 · rw [loops]; exact ⟨aiw, trivial⟩
 · intro args K r h
   unfold bn at h
   split at h
   · rw [P.aoj] at h; exact Eq.trans (by kernel_rfl) h
   · cases h
theorem ok : Proved Tryz.prog GLO.gx 82 spec := eu _ ok0
end zn

namespace nk
noncomputable def D : Ctx := ({ P := Tryz.prog, G := [(80, iy.spec)], globs := GLO.gx, hints := [], loops := [], inl := [] } : Ctx)
theorem loops : d9 (Tryz.f58.body.getD .skip) = [] := by kernel_rfl
noncomputable def bn : Abs.Spec := fun args K => match args with
 | [.agg [.v (.int .i64 c), .v (.int .i64 d), .v (.int .i64 e), .v (.int .i64 f), .v (.int .i64 g), .v (.bool a), .sl (.ints .u8 b), .sl (.ints .u8 h), .arr .u8 32 i], .v (.int .u64 j)] => P.nk c d e f g a b h i j (fun k => K (.arr .u8 32 k))
 | _ => none
noncomputable def spec : Abs.Spec := fun args K => bn (oh [.agg [.any, .any, .any, .any, .any, .any, .sl (.ints .u8 []), .sl (.ints .u8 []), .any], .any] args) K
theorem ok0 : Proved Tryz.prog GLO.gx 58 bn := by
 refine dw (D := D) (fn := Tryz.f58) (c := Tryz.f58.body.getD .skip) [.any] (by kernel_rfl) (bf (by kernel_rfl)) (by kernel_rfl) (by kernel_rfl) (by kernel_rfl) ⟨iy.ok, trivial⟩ trivial ?_ ?_
 · rw [loops]; exact trivial
 · intro args K r h
   unfold bn at h
   split at h
   · rw [P.akd] at h; exact Eq.trans (by kernel_rfl) h
   · cases h
theorem ok : Proved Tryz.prog GLO.gx 58 spec := eu _ ok0
end nk

namespace aeu
noncomputable def D : Ctx := ({ P := Tryz.prog, G := [(87, qp.spec), (123, je.spec), (126, jc.spec)], globs := GLO.gx, hints := [], loops := [], inl := [] } : Ctx)
theorem loops : d9 (Tryz.f75.body.getD .skip) = [] := by kernel_rfl
noncomputable def bn : Abs.Spec := fun args K => match args with
 | [.agg [.v (.int .i64 b), .v (.int .i64 c), .v (.int .i64 d), .v (.int .i64 e), .v (.int .i64 f), .v (.bool a)], .sl (.ints .u8 g), .arr .u8 32 h, .sl (.ints .u8 i)] => P.aeu b c d e f a g h i (fun j => K (.sl (.ints .u8 j)))
 | _ => none
noncomputable def spec : Abs.Spec := fun args K => bn (oh [.any, .sl (.ints .u8 []), .any, .sl (.ints .u8 [])] args) K
theorem ok0 : Proved Tryz.prog GLO.gx 75 bn := by
 refine dw (D := D) (fn := Tryz.f75) (c := Tryz.f75.body.getD .skip) [.sl (.ints .u8 [])] (by kernel_rfl) (bf (by kernel_rfl)) (by kernel_rfl) (by kernel_rfl) (by kernel_rfl) ⟨qp.ok, je.ok, jc.ok, trivial⟩ trivial ?_ ?_
 · rw [loops]; exact trivial
 · intro args K r h
   unfold bn at h
   split at h
   · rw [P.aya] at h; exact Eq.trans (by kernel_rfl) h
   · cases h
theorem ok : Proved Tryz.prog GLO.gx 75 spec := eu _ ok0
end aeu

namespace pz
noncomputable def D : Ctx := ({ P := Tryz.prog, G := [(75, aeu.spec), (80, iy.spec), (94, j6.spec)], globs := GLO.gx, hints := [], loops := [], inl := [] } : Ctx)
theorem loops : d9 (Tryz.f61.body.getD .skip) = [] := by kernel_rfl
noncomputable def bn : Abs.Spec := fun args K => match args with
 | [.agg [.v (.int .i64 c), .v (.int .i64 d), .v (.int .i64 e), .v (.int .i64 f), .v (.int .i64 g), .v (.bool a), .sl (.ints .u8 b), .sl (.ints .u8 h), .arr .u8 32 i], .v (.int .i64 j), .v (.int .u64 k), .sl (.ints .u8 l), .sl (.ints .u8 m)] => P.pz c d e f g a b h i j k l m (fun n => K (.sl (.ints .u8 n)))
 | _ => none
noncomputable def spec : Abs.Spec := fun args K => bn (oh [.agg [.any, .any, .any, .any, .any, .any, .sl (.ints .u8 []), .sl (.ints .u8 []), .any], .any, .any, .sl (.ints .u8 []), .sl (.ints .u8 [])] args) K
theorem ok0 : Proved Tryz.prog GLO.gx 61 bn := by
 refine dw (D := D) (fn := Tryz.f61) (c := Tryz.f61.body.getD .skip) [.sl (.ints .u8 [])] (by kernel_rfl) (bf (by kernel_rfl)) (by kernel_rfl) (by kernel_rfl) (by kernel_rfl) ⟨aeu.ok, iy.ok, j6.ok, trivial⟩ trivial ?_ ?_
 · rw [loops]; exact trivial
 · intro args K r h
   unfold bn at h
   split at h
   · rw [P.aj1] at h; exact Eq.trans (by kernel_rfl) h
   · cases h
theorem ok : Proved Tryz.prog GLO.gx 61 spec := eu _ ok0
end pz

namespace oo
noncomputable def bfr (n : Nat) : Abs.Spec := fun args K => match args with
 | [.agg [.v (.int .i64 c), .v (.int .i64 d), .v (.int .i64 e), .v (.int .i64 f), .v (.int .i64 g), .v (.bool a), .sl (.ints .u8 b), .sl (.ints .u8 h), .arr .u8 32 i], .v (.int .i64 j), .v (.int .u64 k)] => P.oo n c d e f g a b h i j k (fun l => K (.sl (.ints .u8 l)))
 | _ => none
noncomputable def b3y (n : Nat) : Abs.Spec := fun args K => bfr n (oh [.agg [.any, .any, .any, .any, .any, .any, .sl (.ints .u8 []), .sl (.ints .u8 []), .any], .any, .any] args) K
noncomputable def D (n : Nat) : Ctx := ({ P := Tryz.prog, G := [(58, nk.spec), (61, pz.spec), (82, zn.spec), (53, b3y n)], globs := GLO.gx, hints := [], loops := [], inl := [] } : Ctx)
theorem body (n : Nat) (c : Int) (d : Int) (e : Int) (f : Int) (g : Int) (a : Bool) (b : List Int) (h : List Int) (i : List Int) (j : Int) (k : Int) (K : AVal → Option R) : bn9 (D n) Tryz.f53 [.sl (.ints .u8 [])] [.agg [.v (.int .i64 c), .v (.int .i64 d), .v (.int .i64 e), .v (.int .i64 f), .v (.int .i64 g), .v (.bool a), .sl (.ints .u8 b), .sl (.ints .u8 h), .arr .u8 32 i], .v (.int .i64 j), .v (.int .u64 k)] K = P.oo (n + 1) c d e f g a b h i j k (fun l => K (.sl (.ints .u8 l))) := by
 rw [P.af5]
 kernel_rfl
theorem loops : d9 (Tryz.f53.body.getD .skip) = [] := by kernel_rfl
noncomputable def bn : Abs.Spec := fun args K => match args with
 | [.agg [.v (.int .i64 c), .v (.int .i64 d), .v (.int .i64 e), .v (.int .i64 f), .v (.int .i64 g), .v (.bool a), .sl (.ints .u8 b), .sl (.ints .u8 h), .arr .u8 32 i], .v (.int .i64 j), .v (.int .u64 k)] => P.oo ((j.toNat+1)) c d e f g a b h i j k (fun l => K (.sl (.ints .u8 l)))
 | _ => none
noncomputable def spec : Abs.Spec := fun args K => bn (oh [.agg [.any, .any, .any, .any, .any, .any, .sl (.ints .u8 []), .sl (.ints .u8 []), .any], .any, .any] args) K
theorem step (n : Nat) (ih : Proved Tryz.prog GLO.gx 53 (bfr n)) : Proved Tryz.prog GLO.gx 53 (bfr (n + 1)) := by
 refine dw (D := D n) (fn := Tryz.f53) (c := Tryz.f53.body.getD .skip) [.sl (.ints .u8 [])] (by kernel_rfl) (bf (by kernel_rfl)) (by kernel_rfl) (by kernel_rfl) (by kernel_rfl) ⟨nk.ok, pz.ok, zn.ok, eu _ ih, trivial⟩ trivial ?_ ?_
 · rw [loops]; exact trivial
 · intro args K r h
   unfold bfr at h
   split at h
   · rw [body]; exact h
   · cases h
theorem okN : ∀ n, Proved Tryz.prog GLO.gx 53 (bfr n)
 | 0 => ⟨⟨Tryz.f53, by kernel_rfl, by kernel_rfl, by kernel_rfl⟩, fun args K r h => by unfold bfr at h; split at h <;> cases h⟩
 | n + 1 => step n (okN n)
theorem ok0 : Proved Tryz.prog GLO.gx 53 bn := ⟨(okN 0).enters, fun args K r h => by
 unfold bn at h
 split at h
 · exact (okN _).sound _ K r (by unfold bfr; exact h)
 · cases h⟩
theorem ok : Proved Tryz.prog GLO.gx 53 spec := eu _ ok0
end oo

namespace z8
noncomputable def D : Ctx := ({ P := Tryz.prog, G := [(51, jl.spec), (52, tu.spec), (53, oo.spec)], globs := GLO.gx, hints := [], loops := [], inl := [] } : Ctx)
theorem loops : d9 (Tryz.f26.body.getD .skip) = [] := by kernel_rfl
noncomputable def bn : Abs.Spec := fun args K => match args with
 | [.agg [.v (.int .i64 b), .v (.int .i64 c), .v (.int .i64 d), .v (.int .i64 e), .v (.int .i64 f), .v (.bool a)], .sl (.ints .u8 g), .sl (.ints .u8 h), .arr .u8 32 i, .v (.int .i64 j), .v (.int .u64 k)] => P.z8 b c d e f a g h i j k (fun l => K (.sl (.ints .u8 l)))
 | _ => none
noncomputable def spec : Abs.Spec := fun args K => bn (oh [.any, .sl (.ints .u8 []), .sl (.ints .u8 []), .any, .any, .any] args) K
theorem ok0 : Proved Tryz.prog GLO.gx 26 bn := by
 refine dw (D := D) (fn := Tryz.f26) (c := Tryz.f26.body.getD .skip) [.sl (.ints .u8 [])] (by kernel_rfl) (bf (by kernel_rfl)) (by kernel_rfl) (by kernel_rfl) (by kernel_rfl) ⟨jl.ok, tu.ok, oo.ok, trivial⟩ trivial ?_ ?_
 · rw [loops]; exact trivial
 · intro args K r h
   unfold bn at h
   split at h
   · rw [P.abf] at h; exact Eq.trans (by kernel_rfl) h
   · cases h
theorem ok : Proved Tryz.prog GLO.gx 26 spec := eu _ ok0
end z8

namespace qd
noncomputable def D : Ctx := ({ P := Tryz.prog, G := [(36, yg.spec), (51, jl.spec)], globs := GLO.gx, hints := [], loops := [], inl := [] } : Ctx)
theorem loops : d9 (Tryz.f24.body.getD .skip) = [] := by kernel_rfl
noncomputable def bn : Abs.Spec := fun args K => match args with
 | [.agg [.v (.int .i64 b), .v (.int .i64 c), .v (.int .i64 d), .v (.int .i64 e), .v (.int .i64 f), .v (.bool a)]] => P.qd b c d e f a (fun g => K (.v (.int .i64 g)))
 | _ => none
noncomputable def spec : Abs.Spec := bn
theorem ok0 : Proved Tryz.prog GLO.gx 24 bn := by
 refine dw (D := D) (fn := Tryz.f24) (c := Tryz.f24.body.getD .skip) [.any] (by kernel_rfl) (bf (by kernel_rfl)) (by kernel_rfl) (by kernel_rfl) (by kernel_rfl) ⟨yg.ok, jl.ok, trivial⟩ trivial ?_ ?_
 · rw [loops]; exact trivial
 · intro args K r h
   unfold bn at h
   split at h
   · rw [P.aul] at h; exact Eq.trans (by kernel_rfl) h
   · cases h
theorem ok : Proved Tryz.prog GLO.gx 24 spec := ok0
end qd

namespace u6
noncomputable def D : Ctx := ({ P := Tryz.prog, G := [(24, qd.spec), (26, z8.spec)], globs := GLO.gx, hints := [], loops := [], inl := [] } : Ctx)
theorem loops : d9 (Tryz.f23.body.getD .skip) = [] := by kernel_rfl
noncomputable def bn : Abs.Spec := fun args K => match args with
 | [] => P.u6 (fun a => K (.v (.bool a)))
 | _ => none
noncomputable def spec : Abs.Spec := bn
theorem ok0 : Proved Tryz.prog GLO.gx 23 bn := by
 refine dw (D := D) (fn := Tryz.f23) (c := Tryz.f23.body.getD .skip) [.any] (by kernel_rfl) (bf (by kernel_rfl)) (by kernel_rfl) (by kernel_rfl) (by kernel_rfl) ⟨qd.ok, z8.ok, trivial⟩ trivial ?_ ?_
 · rw [loops]; exact trivial
 · intro args K r h
   unfold bn at h
   split at h
   · rw [P.auj] at h; exact Eq.trans (by kernel_rfl) h
   · cases h
theorem ok : Proved Tryz.prog GLO.gx 23 spec := ok0
end u6

namespace ag9
abbrev X2 := P.zt2
def S2 : X2 → ASt := fun (a, b, c) => ⟨[(5, .sl (.rows .u8 a)), (6, .v (.int .i64 b)), (7, .v (.int .i64 c))], [], 0, 15⟩
def V2 : ASt → Option X2
 | ⟨[(5, .sl (.rows .u8 a)), (6, .v (.int .i64 b)), (7, .v (.int .i64 c))], [], 0, 15⟩ => some (a, b, c)
 | _ => none
theorem axu (st) (x) (h : V2 st = some x) : st = S2 x := by
 unfold V2 at h
 split at h
 · cases h; rfl
 · cases h
abbrev Y2 := P.zy2
def E2 (K : AExit → ASt → Option R) : Y2 → Option R := (Sum.elim (fun x => K (.exit 0) (S2 x)) (fun a => K .ret ⟨[(2, .v (.bool a))], [], 0, 15⟩))
noncomputable def L2 : p8 := fun st K => acg (V2 st) fun x => P.zm2 x (E2 K)
noncomputable def D : Ctx := ({ P := Tryz.prog, G := [], globs := GLO.gx, hints := [(2, ⟨[5, 6, 7], [], [2], [], none, [], []⟩)], loops := [(2, L2)], inl := [] } : Ctx)
theorem ame (K) (next) (x) : jq D (dz Tryz.f22 2) K next (S2 x) = P.zs2 x (fun x => next (S2 x)) (E2 K) := by kernel_rfl
theorem avz : ji D (dz Tryz.f22 2) := gy S2 axu (by kernel_rfl) P.ze2 ame
theorem loops : d9 (Tryz.f22.body.getD .skip) = [dz Tryz.f22 2] := by kernel_rfl
noncomputable def bn : Abs.Spec := fun args K => match args with
 | [.sl (.rows .u8 a)] => P.ag9 a (fun b => K (.v (.bool b)))
 | _ => none
noncomputable def spec : Abs.Spec := fun args K => bn (oh [.sl (.rows .u8 [])] args) K
theorem ok0 : Proved Tryz.prog GLO.gx 22 bn := by
 refine dw (D := D) (fn := Tryz.f22) (c := Tryz.f22.body.getD .skip) [.any] (by kernel_rfl) (bf (by kernel_rfl)) (by kernel_rfl) (by kernel_rfl) (by kernel_rfl) trivial trivial ?_ ?_
 · rw [loops]; exact ⟨avz, trivial⟩
 · intro args K r h
   unfold bn at h
   split at h
   · rw [P.bam] at h; exact Eq.trans (by kernel_rfl) h
   · cases h
theorem ok : Proved Tryz.prog GLO.gx 22 spec := eu _ ok0
end ag9

namespace mh
noncomputable def D : Ctx := ({ P := Tryz.prog, G := [], globs := GLO.gx, hints := [], loops := [], inl := [] } : Ctx)
theorem loops : d9 (Tryz.f37.body.getD .skip) = [] := by kernel_rfl
noncomputable def bn : Abs.Spec := fun args K => match args with
 | [.agg [.v (.int .i64 b), .v (.int .i64 c), .v (.int .i64 d), .v (.int .i64 e), .v (.int .i64 f), .v (.bool a)]] => P.mh b c d e f a (fun g => K (.v (.bool g)))
 | _ => none
noncomputable def spec : Abs.Spec := bn
theorem ok0 : Proved Tryz.prog GLO.gx 37 bn := by
 refine dw (D := D) (fn := Tryz.f37) (c := Tryz.f37.body.getD .skip) [.any] (by kernel_rfl) (bf (by kernel_rfl)) (by kernel_rfl) (by kernel_rfl) (by kernel_rfl) trivial trivial ?_ ?_
 · rw [loops]; exact trivial
 · intro args K r h
   unfold bn at h
   split at h
   · rw [P.aze] at h; exact Eq.trans (by kernel_rfl) h
   · cases h
theorem ok : Proved Tryz.prog GLO.gx 37 spec := ok0
end mh

namespace aa4
noncomputable def D : Ctx := ({ P := Tryz.prog, G := [(37, mh.spec)], globs := GLO.gx, hints := [], loops := [], inl := [] } : Ctx)
theorem loops : d9 (Tryz.f21.body.getD .skip) = [] := by kernel_rfl
noncomputable def bn : Abs.Spec := fun args K => match args with
 | [.agg [.v (.int .i64 b), .v (.int .i64 c), .v (.int .i64 d), .v (.int .i64 e), .v (.int .i64 f), .v (.bool a)]] => P.aa4 b c d e f a (fun g => K (.v (.bool g)))
 | _ => none
noncomputable def spec : Abs.Spec := bn
theorem ok0 : Proved Tryz.prog GLO.gx 21 bn := by
 refine dw (D := D) (fn := Tryz.f21) (c := Tryz.f21.body.getD .skip) [.any] (by kernel_rfl) (bf (by kernel_rfl)) (by kernel_rfl) (by kernel_rfl) (by kernel_rfl) ⟨mh.ok, trivial⟩ trivial ?_ ?_
 · rw [loops]; exact trivial
 · intro args K r h
   unfold bn at h
   split at h
   · rw [P.au3] at h; exact Eq.trans (by kernel_rfl) h
   · cases h
theorem ok : Proved Tryz.prog GLO.gx 21 spec := ok0
end aa4

namespace abr
abbrev X4 := P.zt1
def S4 : X4 → ASt := fun (a, b, c) => ⟨[(0, .sl (.ints .u8 a)), (1, .sl (.ints .u8 b)), (5, .v (.int .i64 c))], [], 0, 26⟩
def V4 : ASt → Option X4
 | ⟨[(0, .sl (.ints .u8 a)), (1, .sl (.ints .u8 b)), (5, .v (.int .i64 c))], [], 0, 26⟩ => some (a, b, c)
 | _ => none
theorem asv (st) (x) (h : V4 st = some x) : st = S4 x := by
 unfold V4 at h
 split at h
 · cases h; rfl
 · cases h
abbrev Y4 := P.zy1
def E4 (K : AExit → ASt → Option R) : Y4 → Option R := (Sum.elim (fun x => K (.exit 0) (S4 x)) (fun a => K .ret ⟨[(4, .v (.bool a))], [], 0, 26⟩))
noncomputable def L4 : p8 := fun st K => acg (V4 st) fun x => P.zm1 x (E4 K)
noncomputable def D : Ctx := ({ P := Tryz.prog, G := [], globs := GLO.gx, hints := [(4, ⟨[0, 1, 5], [], [4], [], none, [], []⟩)], loops := [(4, L4)], inl := [] } : Ctx)
theorem ake (K) (next) (x) : jq D (dz Tryz.f12 4) K next (S4 x) = P.zs1 x (fun x => next (S4 x)) (E4 K) := by kernel_rfl
theorem asx : ji D (dz Tryz.f12 4) := gy S4 asv (by kernel_rfl) P.ze1 ake
theorem loops : d9 (Tryz.f12.body.getD .skip) = [dz Tryz.f12 4] := by kernel_rfl
noncomputable def bn : Abs.Spec := fun args K => match args with
 | [.sl (.ints .u8 a), .sl (.ints .u8 b)] => P.abr a b (fun c => K (.v (.bool c)))
 | _ => none
noncomputable def spec : Abs.Spec := fun args K => bn (oh [.sl (.ints .u8 []), .sl (.ints .u8 [])] args) K
theorem ok0 : Proved Tryz.prog GLO.gx 12 bn := by
 refine dw (D := D) (fn := Tryz.f12) (c := Tryz.f12.body.getD .skip) [.any] (by kernel_rfl) (bf (by kernel_rfl)) (by kernel_rfl) (by kernel_rfl) (by kernel_rfl) trivial trivial ?_ ?_
 · rw [loops]; exact ⟨asx, trivial⟩
 · intro args K r h
   unfold bn at h
   split at h
   · rw [P.aw0] at h; exact Eq.trans (by kernel_rfl) h
   · cases h
theorem ok : Proved Tryz.prog GLO.gx 12 spec := eu _ ok0
end abr

namespace wo
abbrev X5 := P.buy
def S5 : X5 → ASt := fun (a, b, c) => ⟨[(0, .v (.int .u64 a)), (5, .own 0), (6, .v (.int .i64 b))], [(0, some ⟨.row 5 (.ints .u8 c), false⟩)], 1, 30⟩
def V5 : ASt → Option X5
 | ⟨[(0, .v (.int .u64 a)), (5, .own 0), (6, .v (.int .i64 b))], [(0, some ⟨.row 5 (.ints .u8 c), false⟩)], 1, 30⟩ => some (a, b, c)
 | _ => none
theorem atn (st) (x) (h : V5 st = some x) : st = S5 x := by
 unfold V5 at h
 split at h
 · cases h; rfl
 · cases h
abbrev Y5 := P.b1p
def E5 (K : AExit → ASt → Option R) : Y5 → Option R := (fun x => K (.exit 0) (S5 x))
noncomputable def L5 : p8 := fun st K => acg (V5 st) fun x => P.b27 x (E5 K)
noncomputable def D : Ctx := ({ P := Tryz.prog, G := [], globs := GLO.gx, hints := [(5, ⟨[0, 5, 6], [], [4], [], none, [], []⟩)], loops := [(5, L5)], inl := [] } : Ctx)
theorem akf (K) (next) (x) : jq D (dz Tryz.f104 5) K next (S5 x) = P.bwa x (fun x => next (S5 x)) (E5 K) := by kernel_rfl
theorem atq : ji D (dz Tryz.f104 5) := gy S5 atn (by kernel_rfl) P.b84 akf
theorem loops : d9 (Tryz.f104.body.getD .skip) = [dz Tryz.f104 5] := by kernel_rfl
noncomputable def bn : Abs.Spec := fun args K => match args with
 | [.v (.int .u64 a), .v (.int .i64 b)] => P.wo a b (fun c => K (.fr 5 (.ints .u8 c)))
 | _ => none
noncomputable def spec : Abs.Spec := bn
theorem ok0 : Proved Tryz.prog GLO.gx 104 bn := by
 refine dw (D := D) (fn := Tryz.f104) (c := Tryz.f104.body.getD .skip) [.fr 5 (.ints .u8 [])] (by kernel_rfl) (bf (by kernel_rfl)) (by kernel_rfl) (by kernel_rfl) (by kernel_rfl) trivial trivial ?_ ?_
 · rw [loops]; exact ⟨atq, trivial⟩
 · intro args K r h
   unfold bn at h
   split at h
   · rw [P.beo] at h; exact Eq.trans (by kernel_rfl) h
   · cases h
theorem ok : Proved Tryz.prog GLO.gx 104 spec := ok0
end wo

end
