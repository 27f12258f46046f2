/-
  XmssHypers, part 16: an interpreter of my own over abstract values, the pure functions, the walks and the plain law.
-/

import Derived.Test.YtjhnljhjpnjieaaGreatDoorXmssHypersH
import Derived.Test.YtjhnljhjpnjieaaGreatDoorXmssHypersG
import Derived.Test.YtjhnljhjpnjieaaGreatDoorProg
import Derived.Test.YtjhnljhjpnjieaaGreatDoorXmssHypersN
import Derived.Test.YtjhnljhjpnjieaaGreatDoorXmssHypersO
import Derived.KernelRfl
import Derived.Test.YtjhnljhjpnjieaaGreatDoorXmssHypersM
import Derived.Test.YtjhnljhjpnjieaaGreatDoorXmssHypersI
import Derived.Test.YtjhnljhjpnjieaaGreatDoorXmssHypersK

section
open Go Go.Abs Go.Proofs
set_option maxRecDepth 100000
set_option maxHeartbeats 0
set_option linter.unusedVariables false

namespace nk
noncomputable def D : Ctx := ({ P := Tryz.prog, G := [(123, jg.spec), (126, je.spec)], globs := GLO.gx, hints := [], loops := [], inl := [] } : Ctx)
theorem loops : d9 (Tryz.f92.body.getD .skip) = [] := by kernel_rfl
noncomputable def bn : Abs.Spec := fun args K => match args with
 | [.agg [.v (.int .i64 p), .v (.int .i64 q), .v (.int .i64 r), .v (.int .i64 s), .v (.int .i64 t), .v (.bool l), .alt u (.func 123) [] [.sta [.v (.int .i64 d), .arr .u64 25 a, .v (.int .i64 m), .v (.bool k)], .sta [.v (.int .i64 n)]] (.func 126) [] [.sta [.v (.int .i64 e), .arr .u64 8 b, .sl (.ints .u8 f), .v (.int .u64 g)], .sta [.v (.int .i64 o)], .sta [.v (.int .i64 h), .arr .u64 8 c, .sl (.ints .u8 i), .v (.int .u64 j)]]]] => P.nk p q r s t l u d a m k n e b f g o h c i j (fun w => K (.v (.int .i64 w)))
 | _ => none
noncomputable def spec : Abs.Spec := fun args K => bn (og [.agg [.any, .any, .any, .any, .any, .any, .alt (.func 123) [] [.sta [.v (.int .i64 0), .arr .u64 25 [], .v (.int .i64 0), .v (.bool false)], .sta [.v (.int .i64 0)]] (.func 126) [] [.sta [.v (.int .i64 0), .arr .u64 8 [], .sl (.ints .u8 []), .v (.int .u64 0)], .sta [.v (.int .i64 0)], .sta [.v (.int .i64 0), .arr .u64 8 [], .sl (.ints .u8 []), .v (.int .u64 0)]]]] args) K
theorem ok0 : Proved Tryz.prog GLO.gx 92 bn := by
 refine dh (D := D) (fn := Tryz.f92) (c := Tryz.f92.body.getD .skip) [.any] (by kernel_rfl) (bf (by kernel_rfl)) (by kernel_rfl) (by kernel_rfl) (by kernel_rfl) ⟨jg.ok, je.ok, trivial⟩ trivial ?_ ?_
 · rw [loops]; exact trivial
 · intro args K r h
   unfold bn at h
   split at h
   · rw [P.ahq] at h; exact Eq.trans (by kernel_rfl) h
   · cases h
theorem ok : Proved Tryz.prog GLO.gx 92 spec := eu _ ok0
end nk

namespace uf
noncomputable def D : Ctx := ({ P := Tryz.prog, G := [(106, zf.spec)], globs := GLO.gx, hints := [], loops := [], inl := [] } : Ctx)
theorem loops : d9 (Tryz.f112.body.getD .skip) = [] := by kernel_rfl
noncomputable def bn : Abs.Spec := fun args K => match args with
 | [.arr .u8 32 a, .v (.int .i64 b)] => P.uf a b (fun c => K (.v (.int .u64 c)))
 | _ => none
noncomputable def spec : Abs.Spec := bn
theorem ok0 : Proved Tryz.prog GLO.gx 112 bn := by
 refine dh (D := D) (fn := Tryz.f112) (c := Tryz.f112.body.getD .skip) [.any] (by kernel_rfl) (bf (by kernel_rfl)) (by kernel_rfl) (by kernel_rfl) (by kernel_rfl) ⟨zf.ok, trivial⟩ trivial ?_ ?_
 · rw [loops]; exact trivial
 · intro args K r h
   unfold bn at h
   split at h
   · rw [P.aps] at h; exact Eq.trans (by kernel_rfl) h
   · cases h
theorem ok : Proved Tryz.prog GLO.gx 112 spec := ok0
end uf

namespace ny
noncomputable def D : Ctx := ({ P := Tryz.prog, G := [(80, ig.spec), (112, uf.spec), (123, jg.spec), (126, je.spec)], globs := GLO.gx, hints := [], loops := [], inl := [] } : Ctx)
theorem loops : d9 (Tryz.f90.body.getD .skip) = [] := by kernel_rfl
noncomputable def bn : Abs.Spec := fun args K => match args with
 | [.agg [.v (.int .i64 p), .v (.int .i64 q), .v (.int .i64 r), .v (.int .i64 s), .v (.int .i64 t), .v (.bool l), .alt u (.func 123) [] [.sta [.v (.int .i64 d), .arr .u64 25 a, .v (.int .i64 m), .v (.bool k)], .sta [.v (.int .i64 n)]] (.func 126) [] [.sta [.v (.int .i64 e), .arr .u64 8 b, .sl (.ints .u8 f), .v (.int .u64 g)], .sta [.v (.int .i64 o)], .sta [.v (.int .i64 h), .arr .u64 8 c, .sl (.ints .u8 i), .v (.int .u64 j)]]], .sl (.ints .u8 w), .arr .u8 32 y, .v (.int .i64 z)] => P.ny p q r s t l u d a m k n e b f g o h c i j w y z (fun A => K (.sl (.ints .u8 A)))
 | _ => none
noncomputable def spec : Abs.Spec := fun args K => bn (og [.agg [.any, .any, .any, .any, .any, .any, .alt (.func 123) [] [.sta [.v (.int .i64 0), .arr .u64 25 [], .v (.int .i64 0), .v (.bool false)], .sta [.v (.int .i64 0)]] (.func 126) [] [.sta [.v (.int .i64 0), .arr .u64 8 [], .sl (.ints .u8 []), .v (.int .u64 0)], .sta [.v (.int .i64 0)], .sta [.v (.int .i64 0), .arr .u64 8 [], .sl (.ints .u8 []), .v (.int .u64 0)]]], .sl (.ints .u8 []), .any, .any] args) K
theorem ok0 : Proved Tryz.prog GLO.gx 90 bn := by
 refine dh (D := D) (fn := Tryz.f90) (c := Tryz.f90.body.getD .skip) [.sl (.ints .u8 [])] (by kernel_rfl) (bf (by kernel_rfl)) (by kernel_rfl) (by kernel_rfl) (by kernel_rfl) ⟨ig.ok, uf.ok, jg.ok, je.ok, trivial⟩ trivial ?_ ?_
 · rw [loops]; exact trivial
 · intro args K r h
   unfold bn at h
   split at h
   · rw [P.ahn] at h; exact Eq.trans (by kernel_rfl) h
   · cases h
theorem ok : Proved Tryz.prog GLO.gx 90 spec := eu _ ok0
end ny

namespace qd
noncomputable def D : Ctx := ({ P := Tryz.prog, G := [(80, ig.spec), (112, uf.spec), (123, jg.spec), (126, je.spec)], globs := GLO.gx, hints := [], loops := [], inl := [] } : Ctx)
theorem loops : d9 (Tryz.f93.body.getD .skip) = [] := by kernel_rfl
noncomputable def bn : Abs.Spec := fun args K => match args with
 | [.agg [.v (.int .i64 p), .v (.int .i64 q), .v (.int .i64 r), .v (.int .i64 s), .v (.int .i64 t), .v (.bool l), .alt u (.func 123) [] [.sta [.v (.int .i64 d), .arr .u64 25 a, .v (.int .i64 m), .v (.bool k)], .sta [.v (.int .i64 n)]] (.func 126) [] [.sta [.v (.int .i64 e), .arr .u64 8 b, .sl (.ints .u8 f), .v (.int .u64 g)], .sta [.v (.int .i64 o)], .sta [.v (.int .i64 h), .arr .u64 8 c, .sl (.ints .u8 i), .v (.int .u64 j)]]], .sl (.ints .u8 w), .arr .u8 32 y] => P.qd p q r s t l u d a m k n e b f g o h c i j w y (fun z => K (.sl (.ints .u8 z)))
 | _ => none
noncomputable def spec : Abs.Spec := fun args K => bn (og [.agg [.any, .any, .any, .any, .any, .any, .alt (.func 123) [] [.sta [.v (.int .i64 0), .arr .u64 25 [], .v (.int .i64 0), .v (.bool false)], .sta [.v (.int .i64 0)]] (.func 126) [] [.sta [.v (.int .i64 0), .arr .u64 8 [], .sl (.ints .u8 []), .v (.int .u64 0)], .sta [.v (.int .i64 0)], .sta [.v (.int .i64 0), .arr .u64 8 [], .sl (.ints .u8 []), .v (.int .u64 0)]]], .sl (.ints .u8 []), .any] args) K
theorem ok0 : Proved Tryz.prog GLO.gx 93 bn := by
 refine dh (D := D) (fn := Tryz.f93) (c := Tryz.f93.body.getD .skip) [.sl (.ints .u8 [])] (by kernel_rfl) (bf (by kernel_rfl)) (by kernel_rfl) (by kernel_rfl) (by kernel_rfl) ⟨ig.ok, uf.ok, jg.ok, je.ok, trivial⟩ trivial ?_ ?_
 · rw [loops]; exact trivial
 · intro args K r h
   unfold bn at h
   split at h
   · rw [P.ajp] at h; exact Eq.trans (by kernel_rfl) h
   · cases h
theorem ok : Proved Tryz.prog GLO.gx 93 spec := eu _ ok0
end qd

namespace aag
abbrev X6 := P.b05
def S6 : X6 → ASt := fun (B, y, z, A, o, p, q, r, s, t, u, w, a, b, c, d, e, f, g, h, i, j, k, l, m, n) => ⟨[(11, .own 40), (1, .sl (.ints .u8 B)), (7, .ptr 1 0), (9, .ptr 2 0), (29, .v (.int .i64 y)), (30, .v (.int .i64 z))], [(40, some ⟨.row 5 (.ints .u8 A), false⟩), (1, some ⟨.box 25 [.arr .u8 32 o], false⟩), (2, some ⟨.box 97 [.v (.int .i64 p), .v (.int .i64 q), .v (.int .i64 r), .v (.int .i64 s), .v (.int .i64 t), .v (.bool u), .alt w (.func 123) [] [.sta [.v (.int .i64 a), .arr .u64 25 b, .v (.int .i64 c), .v (.bool d)], .sta [.v (.int .i64 e)]] (.func 126) [] [.sta [.v (.int .i64 f), .arr .u64 8 g, .sl (.ints .u8 h), .v (.int .u64 i)], .sta [.v (.int .i64 j)], .sta [.v (.int .i64 k), .arr .u64 8 l, .sl (.ints .u8 m), .v (.int .u64 n)]]], false⟩)], 41, 51⟩
def V6 : ASt → Option X6
 | ⟨[(11, .own 40), (1, .sl (.ints .u8 B)), (7, .ptr 1 0), (9, .ptr 2 0), (29, .v (.int .i64 y)), (30, .v (.int .i64 z))], [(40, some ⟨.row 5 (.ints .u8 A), false⟩), (1, some ⟨.box 25 [.arr .u8 32 o], false⟩), (2, some ⟨.box 97 [.v (.int .i64 p), .v (.int .i64 q), .v (.int .i64 r), .v (.int .i64 s), .v (.int .i64 t), .v (.bool u), .alt w (.func 123) [] [.sta [.v (.int .i64 a), .arr .u64 25 b, .v (.int .i64 c), .v (.bool d)], .sta [.v (.int .i64 e)]] (.func 126) [] [.sta [.v (.int .i64 f), .arr .u64 8 g, .sl (.ints .u8 h), .v (.int .u64 i)], .sta [.v (.int .i64 j)], .sta [.v (.int .i64 k), .arr .u64 8 l, .sl (.ints .u8 m), .v (.int .u64 n)]]], false⟩)], 41, 51⟩ => some (B, y, z, A, o, p, q, r, s, t, u, w, a, b, c, d, e, f, g, h, i, j, k, l, m, n)
 | _ => none
theorem ail (st) (x) (h : V6 st = some x) : st = S6 x := by
 unfold V6 at h
 split at h
 · cases h; rfl
 · cases h
abbrev Y6 := P.b89
def E6 (K : AExit → ASt → Option R) : Y6 → Option R := (fun x => K (.exit 0) (S6 x))
noncomputable def L6 : oz := fun st K => abx (V6 st) fun x => P.b7a x (E6 K)
noncomputable def D : Ctx := ({ P := Tryz.prog, G := [(80, ig.spec), (87, qy.spec), (89, kr.spec), (90, ny.spec), (92, nk.spec), (93, qd.spec)], globs := GLO.gx, hints := [(6, ⟨[1, 7, 9, 29, 30], [(11, 5, .ints .u8 [])], [8], [], some (40, [1, 2]), [], []⟩)], loops := [(6, L6)], inl := [] } : Ctx)
theorem adf (K) (next) (x) : jo D (dz Tryz.f82 6) K next (S6 x) = P.byw x (fun x => next (S6 x)) (E6 K) := by kernel_rfl
theorem aif : jl D (dz Tryz.f82 6) := gq S6 ail (by kernel_rfl) P.cdb adf
theorem loops : d9 (Tryz.f82.body.getD .skip) = [dz Tryz.f82 6] := by kernel_rfl
noncomputable def bn : Abs.Spec := fun args K => match args with
 | [.agg [.v (.int .i64 b), .v (.int .i64 c), .v (.int .i64 d), .v (.int .i64 e), .v (.int .i64 f), .v (.bool a)], .sl (.ints .u8 g), .sl (.ints .u8 h), .arr .u8 32 i] => P.aag b c d e f a g h i (fun j => K (.sl (.ints .u8 j)))
 | _ => none
noncomputable def spec : Abs.Spec := fun args K => bn (og [.any, .sl (.ints .u8 []), .sl (.ints .u8 []), .any] args) K
theorem ok0 : Proved Tryz.prog GLO.gx 82 bn := by
 refine dh (D := D) (fn := Tryz.f82) (c := Tryz.f82.body.getD .skip) [.sl (.ints .u8 [])] (by kernel_rfl) (bf (by kernel_rfl)) (by kernel_rfl) (by kernel_rfl) (by kernel_rfl) ⟨ig.ok, qy.ok, kr.ok, ny.ok, nk.ok, qd.ok, trivial⟩ trivial ?_ ?_
 · rw [loops]; exact ⟨aif, trivial⟩
 · intro args K r h
   unfold bn at h
   split at h
   · rw [P.ap1] at h; exact Eq.trans (by kernel_rfl) h
   · cases h
theorem ok : Proved Tryz.prog GLO.gx 82 spec := eu _ ok0
end aag

namespace oo
noncomputable def D : Ctx := ({ P := Tryz.prog, G := [(80, ig.spec)], globs := GLO.gx, hints := [], loops := [], inl := [] } : Ctx)
theorem loops : d9 (Tryz.f58.body.getD .skip) = [] := by kernel_rfl
noncomputable def bn : Abs.Spec := fun args K => match args with
 | [.agg [.v (.int .i64 c), .v (.int .i64 d), .v (.int .i64 e), .v (.int .i64 f), .v (.int .i64 g), .v (.bool a), .sl (.ints .u8 b), .sl (.ints .u8 h), .arr .u8 32 i], .v (.int .u64 j)] => P.oo c d e f g a b h i j (fun k => K (.arr .u8 32 k))
 | _ => none
noncomputable def spec : Abs.Spec := fun args K => bn (og [.agg [.any, .any, .any, .any, .any, .any, .sl (.ints .u8 []), .sl (.ints .u8 []), .any], .any] args) K
theorem ok0 : Proved Tryz.prog GLO.gx 58 bn := by
 refine dh (D := D) (fn := Tryz.f58) (c := Tryz.f58.body.getD .skip) [.any] (by kernel_rfl) (bf (by kernel_rfl)) (by kernel_rfl) (by kernel_rfl) (by kernel_rfl) ⟨ig.ok, trivial⟩ trivial ?_ ?_
 · rw [loops]; exact trivial
 · intro args K r h
   unfold bn at h
   split at h
   · rw [P.akx] at h; exact Eq.trans (by kernel_rfl) h
   · cases h
theorem ok : Proved Tryz.prog GLO.gx 58 spec := eu _ ok0
end oo

namespace afo
noncomputable def D : Ctx := ({ P := Tryz.prog, G := [(87, qy.spec), (123, jg.spec), (126, je.spec)], globs := GLO.gx, hints := [], loops := [], inl := [] } : Ctx)
theorem loops : d9 (Tryz.f75.body.getD .skip) = [] := by kernel_rfl
noncomputable def bn : Abs.Spec := fun args K => match args with
 | [.agg [.v (.int .i64 b), .v (.int .i64 c), .v (.int .i64 d), .v (.int .i64 e), .v (.int .i64 f), .v (.bool a)], .sl (.ints .u8 g), .arr .u8 32 h, .sl (.ints .u8 i)] => P.afo b c d e f a g h i (fun j => K (.sl (.ints .u8 j)))
 | _ => none
noncomputable def spec : Abs.Spec := fun args K => bn (og [.any, .sl (.ints .u8 []), .any, .sl (.ints .u8 [])] args) K
theorem ok0 : Proved Tryz.prog GLO.gx 75 bn := by
 refine dh (D := D) (fn := Tryz.f75) (c := Tryz.f75.body.getD .skip) [.sl (.ints .u8 [])] (by kernel_rfl) (bf (by kernel_rfl)) (by kernel_rfl) (by kernel_rfl) (by kernel_rfl) ⟨qy.ok, jg.ok, je.ok, trivial⟩ trivial ?_ ?_
 · rw [loops]; exact trivial
 · intro args K r h
   unfold bn at h
   split at h
   · rw [P.ay0] at h; exact Eq.trans (by kernel_rfl) h
   · cases h
theorem ok : Proved Tryz.prog GLO.gx 75 spec := eu _ ok0
end afo

namespace qh
noncomputable def D : Ctx := ({ P := Tryz.prog, G := [(75, afo.spec), (80, ig.spec), (94, l5.spec)], globs := GLO.gx, hints := [], loops := [], inl := [] } : Ctx)
theorem loops : d9 (Tryz.f61.body.getD .skip) = [] := by kernel_rfl
noncomputable def bn : Abs.Spec := fun args K => match args with
 | [.agg [.v (.int .i64 c), .v (.int .i64 d), .v (.int .i64 e), .v (.int .i64 f), .v (.int .i64 g), .v (.bool a), .sl (.ints .u8 b), .sl (.ints .u8 h), .arr .u8 32 i], .v (.int .i64 j), .v (.int .u64 k), .sl (.ints .u8 l), .sl (.ints .u8 m)] => P.qh c d e f g a b h i j k l m (fun n => K (.sl (.ints .u8 n)))
 | _ => none
noncomputable def spec : Abs.Spec := fun args K => bn (og [.agg [.any, .any, .any, .any, .any, .any, .sl (.ints .u8 []), .sl (.ints .u8 []), .any], .any, .any, .sl (.ints .u8 []), .sl (.ints .u8 [])] args) K
theorem ok0 : Proved Tryz.prog GLO.gx 61 bn := by
 refine dh (D := D) (fn := Tryz.f61) (c := Tryz.f61.body.getD .skip) [.sl (.ints .u8 [])] (by kernel_rfl) (bf (by kernel_rfl)) (by kernel_rfl) (by kernel_rfl) (by kernel_rfl) ⟨afo.ok, ig.ok, l5.ok, trivial⟩ trivial ?_ ?_
 · rw [loops]; exact trivial
 · intro args K r h
   unfold bn at h
   split at h
   · rw [P.akl] at h; exact Eq.trans (by kernel_rfl) h
   · cases h
theorem ok : Proved Tryz.prog GLO.gx 61 spec := eu _ ok0
end qh

namespace ow
noncomputable def biv (n : Nat) : Abs.Spec := fun args K => match args with
 | [.agg [.v (.int .i64 c), .v (.int .i64 d), .v (.int .i64 e), .v (.int .i64 f), .v (.int .i64 g), .v (.bool a), .sl (.ints .u8 b), .sl (.ints .u8 h), .arr .u8 32 i], .v (.int .i64 j), .v (.int .u64 k)] => P.ow n c d e f g a b h i j k (fun l => K (.sl (.ints .u8 l)))
 | _ => none
noncomputable def cai (n : Nat) : Abs.Spec := fun args K => biv n (og [.agg [.any, .any, .any, .any, .any, .any, .sl (.ints .u8 []), .sl (.ints .u8 []), .any], .any, .any] args) K
noncomputable def D (n : Nat) : Ctx := ({ P := Tryz.prog, G := [(58, oo.spec), (61, qh.spec), (82, aag.spec), (53, cai n)], globs := GLO.gx, hints := [], loops := [], inl := [] } : Ctx)
theorem body (n : Nat) (c : Int) (d : Int) (e : Int) (f : Int) (g : Int) (a : Bool) (b : List Int) (h : List Int) (i : List Int) (j : Int) (k : Int) (K : AVal → Option R) : bqn (D n) Tryz.f53 [.sl (.ints .u8 [])] [.agg [.v (.int .i64 c), .v (.int .i64 d), .v (.int .i64 e), .v (.int .i64 f), .v (.int .i64 g), .v (.bool a), .sl (.ints .u8 b), .sl (.ints .u8 h), .arr .u8 32 i], .v (.int .i64 j), .v (.int .u64 k)] K = P.ow (n + 1) c d e f g a b h i j k (fun l => K (.sl (.ints .u8 l))) := by
 rw [P.agf]
 kernel_rfl
theorem loops : d9 (Tryz.f53.body.getD .skip) = [] := by kernel_rfl
noncomputable def bn : Abs.Spec := fun args K => match args with
 | [.agg [.v (.int .i64 c), .v (.int .i64 d), .v (.int .i64 e), .v (.int .i64 f), .v (.int .i64 g), .v (.bool a), .sl (.ints .u8 b), .sl (.ints .u8 h), .arr .u8 32 i], .v (.int .i64 j), .v (.int .u64 k)] => P.ow ((j.toNat+1)) c d e f g a b h i j k (fun l => K (.sl (.ints .u8 l)))
 | _ => none
noncomputable def spec : Abs.Spec := fun args K => bn (og [.agg [.any, .any, .any, .any, .any, .any, .sl (.ints .u8 []), .sl (.ints .u8 []), .any], .any, .any] args) K
theorem step (n : Nat) (ih : Proved Tryz.prog GLO.gx 53 (biv n)) : Proved Tryz.prog GLO.gx 53 (biv (n + 1)) := by
 refine dh (D := D n) (fn := Tryz.f53) (c := Tryz.f53.body.getD .skip) [.sl (.ints .u8 [])] (by kernel_rfl) (bf (by kernel_rfl)) (by kernel_rfl) (by kernel_rfl) (by kernel_rfl) ⟨oo.ok, qh.ok, aag.ok, eu _ ih, trivial⟩ trivial ?_ ?_
 · rw [loops]; exact trivial
 · intro args K r h
   unfold biv at h
   split at h
   · rw [body]; exact h
   · cases h
theorem okN : ∀ n, Proved Tryz.prog GLO.gx 53 (biv n)
 | 0 => ⟨⟨Tryz.f53, by kernel_rfl, by kernel_rfl, by kernel_rfl⟩, fun args K r h => by unfold biv at h; split at h <;> cases h⟩
 | n + 1 => step n (okN n)
theorem ok0 : Proved Tryz.prog GLO.gx 53 bn := ⟨(okN 0).enters, fun args K r h => by
 unfold bn at h
 split at h
 · exact (okN _).sound _ K r (by unfold biv; exact h)
 · cases h⟩
theorem ok : Proved Tryz.prog GLO.gx 53 spec := eu _ ok0
end ow

namespace ad9
noncomputable def D : Ctx := ({ P := Tryz.prog, G := [(51, iy.spec), (52, ku.spec), (53, ow.spec)], globs := GLO.gx, hints := [], loops := [], inl := [] } : Ctx)
theorem loops : d9 (Tryz.f26.body.getD .skip) = [] := by kernel_rfl
noncomputable def bn : Abs.Spec := fun args K => match args with
 | [.agg [.v (.int .i64 b), .v (.int .i64 c), .v (.int .i64 d), .v (.int .i64 e), .v (.int .i64 f), .v (.bool a)], .sl (.ints .u8 g), .sl (.ints .u8 h), .arr .u8 32 i, .v (.int .i64 j), .v (.int .u64 k)] => P.ad9 b c d e f a g h i j k (fun l => K (.sl (.ints .u8 l)))
 | _ => none
noncomputable def spec : Abs.Spec := fun args K => bn (og [.any, .sl (.ints .u8 []), .sl (.ints .u8 []), .any, .any, .any] args) K
theorem ok0 : Proved Tryz.prog GLO.gx 26 bn := by
 refine dh (D := D) (fn := Tryz.f26) (c := Tryz.f26.body.getD .skip) [.sl (.ints .u8 [])] (by kernel_rfl) (bf (by kernel_rfl)) (by kernel_rfl) (by kernel_rfl) (by kernel_rfl) ⟨iy.ok, ku.ok, ow.ok, trivial⟩ trivial ?_ ?_
 · rw [loops]; exact trivial
 · intro args K r h
   unfold bn at h
   split at h
   · rw [P.aoc] at h; exact Eq.trans (by kernel_rfl) h
   · cases h
theorem ok : Proved Tryz.prog GLO.gx 26 spec := eu _ ok0
end ad9

namespace mg
noncomputable def D : Ctx := ({ P := Tryz.prog, G := [(36, yw.spec), (51, iy.spec)], globs := GLO.gx, hints := [], loops := [], inl := [] } : Ctx)
theorem loops : d9 (Tryz.f24.body.getD .skip) = [] := by kernel_rfl
noncomputable def bn : Abs.Spec := fun args K => match args with
 | [.agg [.v (.int .i64 b), .v (.int .i64 c), .v (.int .i64 d), .v (.int .i64 e), .v (.int .i64 f), .v (.bool a)]] => P.mg b c d e f a (fun g => K (.v (.int .i64 g)))
 | _ => none
noncomputable def spec : Abs.Spec := bn
theorem ok0 : Proved Tryz.prog GLO.gx 24 bn := by
 refine dh (D := D) (fn := Tryz.f24) (c := Tryz.f24.body.getD .skip) [.any] (by kernel_rfl) (bf (by kernel_rfl)) (by kernel_rfl) (by kernel_rfl) (by kernel_rfl) ⟨yw.ok, iy.ok, trivial⟩ trivial ?_ ?_
 · rw [loops]; exact trivial
 · intro args K r h
   unfold bn at h
   split at h
   · rw [P.avn] at h; exact Eq.trans (by kernel_rfl) h
   · cases h
theorem ok : Proved Tryz.prog GLO.gx 24 spec := ok0
end mg

namespace u6
noncomputable def D : Ctx := ({ P := Tryz.prog, G := [(24, mg.spec), (26, ad9.spec)], globs := GLO.gx, hints := [], loops := [], inl := [] } : Ctx)
theorem loops : d9 (Tryz.f23.body.getD .skip) = [] := by kernel_rfl
noncomputable def bn : Abs.Spec := fun args K => match args with
 | [] => P.u6 (fun a => K (.v (.bool a)))
 | _ => none
noncomputable def spec : Abs.Spec := bn
theorem ok0 : Proved Tryz.prog GLO.gx 23 bn := by
 refine dh (D := D) (fn := Tryz.f23) (c := Tryz.f23.body.getD .skip) [.any] (by kernel_rfl) (bf (by kernel_rfl)) (by kernel_rfl) (by kernel_rfl) (by kernel_rfl) ⟨mg.ok, ad9.ok, trivial⟩ trivial ?_ ?_
 · rw [loops]; exact trivial
 · intro args K r h
   unfold bn at h
   split at h
   · rw [P.avu] at h; exact Eq.trans (by kernel_rfl) h
   · cases h
theorem ok : Proved Tryz.prog GLO.gx 23 spec := ok0
end u6

namespace ag6
abbrev X2 := P.zt2
def S2 : X2 → ASt := fun (a, b, c) => ⟨[(5, .sl (.rows .u8 a)), (6, .v (.int .i64 b)), (7, .v (.int .i64 c))], [], 0, 15⟩
def V2 : ASt → Option X2
 | ⟨[(5, .sl (.rows .u8 a)), (6, .v (.int .i64 b)), (7, .v (.int .i64 c))], [], 0, 15⟩ => some (a, b, c)
 | _ => none
theorem axf (st) (x) (h : V2 st = some x) : st = S2 x := by
 unfold V2 at h
 split at h
 · cases h; rfl
 · cases h
abbrev Y2 := P.zy2
def E2 (K : AExit → ASt → Option R) : Y2 → Option R := (Sum.elim (fun x => K (.exit 0) (S2 x)) (fun a => K .ret ⟨[(2, .v (.bool a))], [], 0, 15⟩))
noncomputable def L2 : oz := fun st K => abx (V2 st) fun x => P.zm2 x (E2 K)
noncomputable def D : Ctx := ({ P := Tryz.prog, G := [], globs := GLO.gx, hints := [(2, ⟨[5, 6, 7], [], [2], [], none, [], []⟩)], loops := [(2, L2)], inl := [] } : Ctx)
theorem anm (K) (next) (x) : jo D (dz Tryz.f22 2) K next (S2 x) = P.zs2 x (fun x => next (S2 x)) (E2 K) := by kernel_rfl
theorem azp : jl D (dz Tryz.f22 2) := gq S2 axf (by kernel_rfl) P.ze2 anm
theorem loops : d9 (Tryz.f22.body.getD .skip) = [dz Tryz.f22 2] := by kernel_rfl
noncomputable def bn : Abs.Spec := fun args K => match args with
 | [.sl (.rows .u8 a)] => P.ag6 a (fun b => K (.v (.bool b)))
 | _ => none
noncomputable def spec : Abs.Spec := fun args K => bn (og [.sl (.rows .u8 [])] args) K
theorem ok0 : Proved Tryz.prog GLO.gx 22 bn := by
 refine dh (D := D) (fn := Tryz.f22) (c := Tryz.f22.body.getD .skip) [.any] (by kernel_rfl) (bf (by kernel_rfl)) (by kernel_rfl) (by kernel_rfl) (by kernel_rfl) trivial trivial ?_ ?_
 · rw [loops]; exact ⟨azp, trivial⟩
 · intro args K r h
   unfold bn at h
   split at h
   · rw [P.bao] at h; exact Eq.trans (by kernel_rfl) h
   · cases h
theorem ok : Proved Tryz.prog GLO.gx 22 spec := eu _ ok0
end ag6

namespace p8
noncomputable def D : Ctx := ({ P := Tryz.prog, G := [], globs := GLO.gx, hints := [], loops := [], inl := [] } : Ctx)
theorem loops : d9 (Tryz.f37.body.getD .skip) = [] := by kernel_rfl
noncomputable def bn : Abs.Spec := fun args K => match args with
 | [.agg [.v (.int .i64 b), .v (.int .i64 c), .v (.int .i64 d), .v (.int .i64 e), .v (.int .i64 f), .v (.bool a)]] => P.p8 b c d e f a (fun g => K (.v (.bool g)))
 | _ => none
noncomputable def spec : Abs.Spec := bn
theorem ok0 : Proved Tryz.prog GLO.gx 37 bn := by
 refine dh (D := D) (fn := Tryz.f37) (c := Tryz.f37.body.getD .skip) [.any] (by kernel_rfl) (bf (by kernel_rfl)) (by kernel_rfl) (by kernel_rfl) (by kernel_rfl) trivial trivial ?_ ?_
 · rw [loops]; exact trivial
 · intro args K r h
   unfold bn at h
   split at h
   · rw [P.bbk] at h; exact Eq.trans (by kernel_rfl) h
   · cases h
theorem ok : Proved Tryz.prog GLO.gx 37 spec := ok0
end p8

namespace abd
noncomputable def D : Ctx := ({ P := Tryz.prog, G := [(37, p8.spec)], globs := GLO.gx, hints := [], loops := [], inl := [] } : Ctx)
theorem loops : d9 (Tryz.f21.body.getD .skip) = [] := by kernel_rfl
noncomputable def bn : Abs.Spec := fun args K => match args with
 | [.agg [.v (.int .i64 b), .v (.int .i64 c), .v (.int .i64 d), .v (.int .i64 e), .v (.int .i64 f), .v (.bool a)]] => P.abd b c d e f a (fun g => K (.v (.bool g)))
 | _ => none
noncomputable def spec : Abs.Spec := bn
theorem ok0 : Proved Tryz.prog GLO.gx 21 bn := by
 refine dh (D := D) (fn := Tryz.f21) (c := Tryz.f21.body.getD .skip) [.any] (by kernel_rfl) (bf (by kernel_rfl)) (by kernel_rfl) (by kernel_rfl) (by kernel_rfl) ⟨p8.ok, trivial⟩ trivial ?_ ?_
 · rw [loops]; exact trivial
 · intro args K r h
   unfold bn at h
   split at h
   · rw [P.ava] at h; exact Eq.trans (by kernel_rfl) h
   · cases h
theorem ok : Proved Tryz.prog GLO.gx 21 spec := ok0
end abd

namespace abq
abbrev X4 := P.zt1
def S4 : X4 → ASt := fun (a, b, c) => ⟨[(0, .sl (.ints .u8 a)), (1, .sl (.ints .u8 b)), (5, .v (.int .i64 c))], [], 0, 26⟩
def V4 : ASt → Option X4
 | ⟨[(0, .sl (.ints .u8 a)), (1, .sl (.ints .u8 b)), (5, .v (.int .i64 c))], [], 0, 26⟩ => some (a, b, c)
 | _ => none
theorem atw (st) (x) (h : V4 st = some x) : st = S4 x := by
 unfold V4 at h
 split at h
 · cases h; rfl
 · cases h
abbrev Y4 := P.zy1
def E4 (K : AExit → ASt → Option R) : Y4 → Option R := (Sum.elim (fun x => K (.exit 0) (S4 x)) (fun a => K .ret ⟨[(4, .v (.bool a))], [], 0, 26⟩))
noncomputable def L4 : oz := fun st K => abx (V4 st) fun x => P.zm1 x (E4 K)
noncomputable def D : Ctx := ({ P := Tryz.prog, G := [], globs := GLO.gx, hints := [(4, ⟨[0, 1, 5], [], [4], [], none, [], []⟩)], loops := [(4, L4)], inl := [] } : Ctx)
theorem aks (K) (next) (x) : jo D (dz Tryz.f12 4) K next (S4 x) = P.zs1 x (fun x => next (S4 x)) (E4 K) := by kernel_rfl
theorem aun : jl D (dz Tryz.f12 4) := gq S4 atw (by kernel_rfl) P.ze1 aks
theorem loops : d9 (Tryz.f12.body.getD .skip) = [dz Tryz.f12 4] := by kernel_rfl
noncomputable def bn : Abs.Spec := fun args K => match args with
 | [.sl (.ints .u8 a), .sl (.ints .u8 b)] => P.abq a b (fun c => K (.v (.bool c)))
 | _ => none
noncomputable def spec : Abs.Spec := fun args K => bn (og [.sl (.ints .u8 []), .sl (.ints .u8 [])] args) K
theorem ok0 : Proved Tryz.prog GLO.gx 12 bn := by
 refine dh (D := D) (fn := Tryz.f12) (c := Tryz.f12.body.getD .skip) [.any] (by kernel_rfl) (bf (by kernel_rfl)) (by kernel_rfl) (by kernel_rfl) (by kernel_rfl) trivial trivial ?_ ?_
 · rw [loops]; exact ⟨aun, trivial⟩
 · intro args K r h
   unfold bn at h
   split at h
   · rw [P.azf] at h; exact Eq.trans (by kernel_rfl) h
   · cases h
theorem ok : Proved Tryz.prog GLO.gx 12 spec := eu _ ok0
end abq

namespace ko
abbrev X3 := P.bw9
def S3 : X3 → ASt := fun (a, b, c) => ⟨[(3, .own 0), (0, .sl (.rows .u8 a)), (4, .v (.int .i64 b))], [(0, some ⟨.row 5 (.ints .u8 c), false⟩)], 1, 18⟩
def V3 : ASt → Option X3
 | ⟨[(3, .own 0), (0, .sl (.rows .u8 a)), (4, .v (.int .i64 b))], [(0, some ⟨.row 5 (.ints .u8 c), false⟩)], 1, 18⟩ => some (a, b, c)
 | _ => none
theorem aq4 (st) (x) (h : V3 st = some x) : st = S3 x := by
 unfold V3 at h
 split at h
 · cases h; rfl
 · cases h
abbrev Y3 := P.cad
def E3 (K : AExit → ASt → Option R) : Y3 → Option R := (fun x => K (.exit 0) (S3 x))
noncomputable def L3 : oz := fun st K => abx (V3 st) fun x => P.b8f x (E3 K)
noncomputable def D : Ctx := ({ P := Tryz.prog, G := [], globs := GLO.gx, hints := [(3, ⟨[0, 4], [(3, 5, .ints .u8 [])], [2], [], none, [], []⟩)], loops := [(3, L3)], inl := [] } : Ctx)
theorem ais (K) (next) (x) : jo D (dz Tryz.f44 3) K next (S3 x) = P.bwn x (fun x => next (S3 x)) (E3 K) := by kernel_rfl
theorem aqb : jl D (dz Tryz.f44 3) := gq S3 aq4 (by kernel_rfl) P.cdo ais
theorem loops : d9 (Tryz.f44.body.getD .skip) = [dz Tryz.f44 3] := by kernel_rfl
noncomputable def bn : Abs.Spec := fun args K => match args with
 | [.sl (.rows .u8 a)] => P.ko a (fun b => K (.fr 5 (.ints .u8 b)))
 | _ => none
noncomputable def spec : Abs.Spec := fun args K => bn (og [.sl (.rows .u8 [])] args) K
theorem ok0 : Proved Tryz.prog GLO.gx 44 bn := by
 refine dh (D := D) (fn := Tryz.f44) (c := Tryz.f44.body.getD .skip) [.fr 5 (.ints .u8 [])] (by kernel_rfl) (bf (by kernel_rfl)) (by kernel_rfl) (by kernel_rfl) (by kernel_rfl) trivial trivial ?_ ?_
 · rw [loops]; exact ⟨aqb, trivial⟩
 · intro args K r h
   unfold bn at h
   split at h
   · rw [P.azj] at h; exact Eq.trans (by kernel_rfl) h
   · cases h
theorem ok : Proved Tryz.prog GLO.gx 44 spec := eu _ ok0
end ko

end
