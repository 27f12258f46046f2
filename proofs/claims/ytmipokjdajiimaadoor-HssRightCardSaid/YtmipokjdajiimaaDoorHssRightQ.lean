/-
  HssRight, part 17: an interpreter of my own over abstract values, the pure functions, the walks and the plain law.
-/

import Derived.Test.YtmipokjdajiimaaDoorHssRightK
import Derived.Test.YtmipokjdajiimaaDoorHssRightH
import Derived.Test.YtmipokjdajiimaaDoorProg
import Derived.Test.YtmipokjdajiimaaDoorHssRightJ
import Derived.Test.YtmipokjdajiimaaDoorHssRightP
import Derived.KernelRfl
import Derived.Test.YtmipokjdajiimaaDoorHssRightM
import Derived.Test.YtmipokjdajiimaaDoorHssRightN
import Derived.Test.YtmipokjdajiimaaDoorHssRightO

section
open Go Go.Abs Go.Proofs
set_option maxRecDepth 100000
set_option maxHeartbeats 0
set_option linter.unusedVariables false

namespace gu
noncomputable def bfz (n : Nat) : Abs.Spec := fun args K => match args with
 | [.sta [.v (.int .i64 a), .v (.int .i64 b), .sl (.ints .u8 d), .sl (.ints .u8 c)], .v (.int .u64 e)] => P.gu n a b d c e (fun f => K (.fr 5 (.ints .u8 f)))
 | _ => none
noncomputable def b06 (n : Nat) : Abs.Spec := fun args K => bfz n (p9 [.agg [.any, .any, .sl (.ints .u8 []), .sl (.ints .u8 [])], .any] args) K
noncomputable def D (n : Nat) : Ctx := ({ P := Tryd.prog, G := [(67, y8.spec), (68, ug.spec), (44, b06 n)], globs := GLO.gB, hints := [], loops := [], inl := [] } : Ctx)
theorem body (n : Nat) (a : Int) (b : Int) (d : List Int) (c : List Int) (e : Int) (K : AVal → Option R) : bo8 (D n) Tryd.f44 [.fr 5 (.ints .u8 [])] [.sta [.v (.int .i64 a), .v (.int .i64 b), .sl (.ints .u8 d), .sl (.ints .u8 c)], .v (.int .u64 e)] K = P.gu (n + 1) a b d c e (fun f => K (.fr 5 (.ints .u8 f))) := by
 rw [P.adk]
 kernel_rfl
theorem loops : dh (Tryd.f44.body.getD .skip) = [] := by kernel_rfl
noncomputable def bn : Abs.Spec := fun args K => match args with
 | [.sta [.v (.int .i64 a), .v (.int .i64 b), .sl (.ints .u8 d), .sl (.ints .u8 c)], .v (.int .u64 e)] => P.gu ((a.toNat+2)) a b d c e (fun f => K (.fr 5 (.ints .u8 f)))
 | _ => none
noncomputable def spec : Abs.Spec := fun args K => bn (p9 [.agg [.any, .any, .sl (.ints .u8 []), .sl (.ints .u8 [])], .any] args) K
theorem step (n : Nat) (ih : Proved Tryd.prog GLO.gB 44 (bfz n)) : Proved Tryd.prog GLO.gB 44 (bfz (n + 1)) := by
 refine dx (D := D n) (fn := Tryd.f44) (c := Tryd.f44.body.getD .skip) [.fr 5 (.ints .u8 [])] (by kernel_rfl) (aj (by kernel_rfl)) (by kernel_rfl) (by kernel_rfl) (by kernel_rfl) ⟨y8.ok, ug.ok, dz _ ih, trivial⟩ trivial ?_ ?_
 · rw [loops]; exact trivial
 · intro args K r h
   unfold bfz at h
   split at h
   · rw [body]; exact h
   · cases h
theorem okN : ∀ n, Proved Tryd.prog GLO.gB 44 (bfz n)
 | 0 => ⟨⟨Tryd.f44, by kernel_rfl, by kernel_rfl, by kernel_rfl⟩, fun args K r h => by unfold bfz at h; split at h <;> cases h⟩
 | n + 1 => step n (okN n)
theorem ok0 : Proved Tryd.prog GLO.gB 44 bn := ⟨(okN 0).enters, fun args K r h => by
 unfold bn at h
 split at h
 · exact (okN _).sound _ K r (by unfold bfz; exact h)
 · cases h⟩
theorem ok : Proved Tryd.prog GLO.gB 44 spec := dz _ ok0
end gu

namespace ql
noncomputable def D : Ctx := ({ P := Tryd.prog, G := [(30, acg.spec)], globs := GLO.gB, hints := [], loops := [], inl := [] } : Ctx)
theorem loops : dh (Tryd.f42.body.getD .skip) = [] := by kernel_rfl
noncomputable def bn : Abs.Spec := fun args K => match args with
 | [.agg [.v (.int .i64 a), .v (.int .i64 b)], .sl (.ints .u8 c), .sl (.ints .u8 d)] => P.ql a b c d (fun e => K (.v (.int .i64 e)))
 | _ => none
noncomputable def spec : Abs.Spec := fun args K => bn (p9 [.any, .sl (.ints .u8 []), .sl (.ints .u8 [])] args) K
theorem ok0 : Proved Tryd.prog GLO.gB 42 bn := by
 refine dx (D := D) (fn := Tryd.f42) (c := Tryd.f42.body.getD .skip) [.any] (by kernel_rfl) (aj (by kernel_rfl)) (by kernel_rfl) (by kernel_rfl) (by kernel_rfl) ⟨acg.ok, trivial⟩ trivial ?_ ?_
 · rw [loops]; exact trivial
 · intro args K r h
   unfold bn at h
   split at h
   · rw [P.ak1] at h; exact Eq.trans (by kernel_rfl) h
   · cases h
theorem ok : Proved Tryd.prog GLO.gB 42 spec := dz _ ok0
end ql

namespace aaw
noncomputable def D : Ctx := ({ P := Tryd.prog, G := [(37, eu.spec), (42, ql.spec), (43, aco.spec), (44, gu.spec)], globs := GLO.gB, hints := [], loops := [], inl := [], sta := true } : Ctx)
theorem loops : dh (Tryd.f23.body.getD .skip) = [] := by kernel_rfl
noncomputable def bn : Abs.Spec := fun args K => match args with
 | [.agg [.v (.int .i64 a), .v (.int .i64 b)], .sl (.ints .u8 c), .sl (.ints .u8 d)] => P.aaw a b c d (fun e f => K (.tuple [.fr 5 (.ints .u8 e), .v (.int .i64 f)]))
 | _ => none
noncomputable def spec : Abs.Spec := fun args K => bn (p9 [.any, .sl (.ints .u8 []), .sl (.ints .u8 [])] args) K
theorem ok0 : Proved Tryd.prog GLO.gB 23 bn := by
 refine dx (D := D) (fn := Tryd.f23) (c := Tryd.f23.body.getD .skip) [.fr 5 (.ints .u8 []), .any] (by kernel_rfl) (aj (by kernel_rfl)) (by kernel_rfl) (by kernel_rfl) (by kernel_rfl) ⟨eu.ok, ql.ok, aco.ok, gu.ok, trivial⟩ trivial ?_ ?_
 · rw [loops]; exact trivial
 · intro args K r h
   unfold bn at h
   split at h
   · rw [P.aoq] at h; exact Eq.trans (by kernel_rfl) h
   · cases h
theorem ok : Proved Tryd.prog GLO.gB 23 spec := dz _ ok0
end aaw

namespace iw
noncomputable def D : Ctx := ({ P := Tryd.prog, G := [(23, aaw.spec)], globs := GLO.gB, hints := [], loops := [], inl := [] } : Ctx)
theorem loops : dh (Tryd.f39.body.getD .skip) = [] := by kernel_rfl
noncomputable def bn : Abs.Spec := fun args K => match args with
 | [.agg [.v (.int .i64 a), .v (.int .i64 b), .sl (.ints .u8 d), .sl (.ints .u8 c), .v (.int .u32 e)]] => P.iw a b d c e (fun f => K (.fr 5 (.ints .u8 f)))
 | _ => none
noncomputable def spec : Abs.Spec := fun args K => bn (p9 [.agg [.any, .any, .sl (.ints .u8 []), .sl (.ints .u8 []), .any]] args) K
theorem ok0 : Proved Tryd.prog GLO.gB 39 bn := by
 refine dx (D := D) (fn := Tryd.f39) (c := Tryd.f39.body.getD .skip) [.fr 5 (.ints .u8 [])] (by kernel_rfl) (aj (by kernel_rfl)) (by kernel_rfl) (by kernel_rfl) (by kernel_rfl) ⟨aaw.ok, trivial⟩ trivial ?_ ?_
 · rw [loops]; exact trivial
 · intro args K r h
   unfold bn at h
   split at h
   · rw [P.ac3] at h; exact Eq.trans (by kernel_rfl) h
   · cases h
theorem ok : Proved Tryd.prog GLO.gB 39 spec := dz _ ok0
end iw

namespace abz
noncomputable def D : Ctx := ({ P := Tryd.prog, G := [(12, acv.spec), (37, eu.spec), (38, gq.spec), (39, iw.spec)], globs := GLO.gB, hints := [], loops := [], inl := [] } : Ctx)
theorem loops : dh (Tryd.f19.body.getD .skip) = [] := by kernel_rfl
noncomputable def bn : Abs.Spec := fun args K => match args with
 | [.agg [.sl (.cols a [.ints .i64 b, .ints .i64 c]), .sl (.ints .u8 e), .sl (.ints .u8 d)]] => P.abz a b c e d (fun f g => K (.tuple [.fr 5 (.ints .u8 f), .v (.int .i64 g)]))
 | _ => none
noncomputable def spec : Abs.Spec := fun args K => bn (p9 [.agg [.sl (.cols 0 [.ints .i64 [], .ints .i64 []]), .sl (.ints .u8 []), .sl (.ints .u8 [])]] args) K
theorem ok0 : Proved Tryd.prog GLO.gB 19 bn := by
 refine dx (D := D) (fn := Tryd.f19) (c := Tryd.f19.body.getD .skip) [.fr 5 (.ints .u8 []), .any] (by kernel_rfl) (aj (by kernel_rfl)) (by kernel_rfl) (by kernel_rfl) (by kernel_rfl) ⟨acv.ok, eu.ok, gq.ok, iw.ok, trivial⟩ trivial ?_ ?_
 · rw [loops]; exact trivial
 · intro args K r h
   unfold bn at h
   split at h
   · rw [P.aox] at h; exact Eq.trans (by kernel_rfl) h
   · cases h
theorem ok : Proved Tryd.prog GLO.gB 19 spec := dz _ ok0
end abz

namespace af5
noncomputable def D : Ctx := ({ P := Tryd.prog, G := [(87, aao.spec), (88, uw.spec), (89, aaq.spec)], globs := GLO.gB, hints := [], loops := [], inl := [] } : Ctx)
theorem loops : dh (Tryd.f84.body.getD .skip) = [] := by kernel_rfl
noncomputable def bn : Abs.Spec := fun args K => match args with
 | [.v (.int .i64 a), .sl (.ints .u8 b)] => P.af5 a b (fun c d => K (.tuple [.fr 5 (.ints .u8 c), .v (.int .i64 d)]))
 | _ => none
noncomputable def spec : Abs.Spec := fun args K => bn (p9 [.any, .sl (.ints .u8 [])] args) K
theorem ok0 : Proved Tryd.prog GLO.gB 84 bn := by
 refine dx (D := D) (fn := Tryd.f84) (c := Tryd.f84.body.getD .skip) [.fr 5 (.ints .u8 []), .any] (by kernel_rfl) (aj (by kernel_rfl)) (by kernel_rfl) (by kernel_rfl) (by kernel_rfl) ⟨aao.ok, uw.ok, aaq.ok, trivial⟩ trivial ?_ ?_
 · rw [loops]; exact trivial
 · intro args K r h
   unfold bn at h
   split at h
   · rw [P.azg] at h; exact Eq.trans (by kernel_rfl) h
   · cases h
theorem ok : Proved Tryd.prog GLO.gB 84 spec := dz _ ok0
end af5

namespace jc
noncomputable def D : Ctx := ({ P := Tryd.prog, G := [(37, eu.spec), (38, gq.spec), (84, af5.spec)], globs := GLO.gB, hints := [], loops := [], inl := [] } : Ctx)
theorem loops : dh (Tryd.f66.body.getD .skip) = [] := by kernel_rfl
noncomputable def bn : Abs.Spec := fun args K => match args with
 | [.agg [.v (.int .i64 a), .v (.int .i64 b), .sl (.ints .u8 d), .sl (.ints .u8 c), .v (.int .u32 e)], .v (.int .u64 f)] => P.jc a b d c e f (fun g => K (.fr 5 (.ints .u8 g)))
 | _ => none
noncomputable def spec : Abs.Spec := fun args K => bn (p9 [.agg [.any, .any, .sl (.ints .u8 []), .sl (.ints .u8 []), .any], .any] args) K
theorem ok0 : Proved Tryd.prog GLO.gB 66 bn := by
 refine dx (D := D) (fn := Tryd.f66) (c := Tryd.f66.body.getD .skip) [.fr 5 (.ints .u8 [])] (by kernel_rfl) (aj (by kernel_rfl)) (by kernel_rfl) (by kernel_rfl) (by kernel_rfl) ⟨eu.ok, gq.ok, af5.ok, trivial⟩ trivial ?_ ?_
 · rw [loops]; exact trivial
 · intro args K r h
   unfold bn at h
   split at h
   · rw [P.agy] at h; exact Eq.trans (by kernel_rfl) h
   · cases h
theorem ok : Proved Tryd.prog GLO.gB 66 spec := dz _ ok0
end jc

namespace uy
abbrev X7 := P.bw4
def S7 : X7 → ASt := fun (j, g, h, i, a, b, c, d, e, f, k) => ⟨[(15, .own 40), (3, .sl (.ints .u8 j)), (12, .ptr 0 0), (43, .own 5), (44, .v (.int .i64 g)), (45, .v (.int .i64 h))], [(40, some ⟨.row 5 (.ints .u8 i), false⟩), (0, some ⟨.box 103 [.v (.int .i64 a), .sl (.ints .u8 b), .v (.int .u32 c), .v (.int .i64 d), .v (.int .i64 e), .v (.int .i64 f)], false⟩), (5, some ⟨.row 42 (.ints .u32 k), false⟩)], 41, 63⟩
def V7 : ASt → Option X7
 | ⟨[(15, .own 40), (3, .sl (.ints .u8 j)), (12, .ptr 0 0), (43, .own 5), (44, .v (.int .i64 g)), (45, .v (.int .i64 h))], [(40, some ⟨.row 5 (.ints .u8 i), false⟩), (0, some ⟨.box 103 [.v (.int .i64 a), .sl (.ints .u8 b), .v (.int .u32 c), .v (.int .i64 d), .v (.int .i64 e), .v (.int .i64 f)], false⟩), (5, some ⟨.row 42 (.ints .u32 k), false⟩)], 41, 63⟩ => some (j, g, h, i, a, b, c, d, e, f, k)
 | _ => none
theorem b09 (st) (x) (h : V7 st = some x) : st = S7 x := by
 unfold V7 at h
 split at h
 · cases h; rfl
 · cases h
abbrev Y7 := P.b4d
def E7 (K : AExit → ASt → Option R) : Y7 → Option R := (fun x => K (.exit 0) (S7 x))
noncomputable def L7 : aah := fun st K => akb (V7 st) fun x => P.bz2 x (E7 K)
noncomputable def D : Ctx := ({ P := Tryd.prog, G := [(37, eu.spec), (38, gq.spec), (69, tu.spec), (70, l9.spec), (71, jv.spec), (72, jr.spec)], globs := GLO.gB, hints := [(7, ⟨[3, 12, 43, 44, 45], [(15, 5, .ints .u8 [])], [10, 11], [], some (40, [0, 5]), [], [], []⟩)], loops := [(7, L7)], inl := [] } : Ctx)
theorem bud (K) (next) (x) : rz D (fu Tryd.f45 7) K next (S7 x) = P.bvs x (fun x => next (S7 x)) (E7 K) := by kernel_rfl
theorem bzy : pq D (fu Tryd.f45 7) := jq S7 b09 (by kernel_rfl) P.b6j bud
theorem loops : dh (Tryd.f45.body.getD .skip) = [fu Tryd.f45 7] := by kernel_rfl
noncomputable def bn : Abs.Spec := fun args K => match args with
 | [.v (.int .i64 a), .sl (.ints .u8 b), .v (.int .u32 c), .sl (.ints .u8 d), .sl (.ints .u8 e)] => P.uy a b c d e (fun f g => K (.tuple [.fr 5 (.ints .u8 f), .v (.int .i64 g)]))
 | _ => none
noncomputable def spec : Abs.Spec := fun args K => bn (p9 [.any, .sl (.ints .u8 []), .any, .sl (.ints .u8 []), .sl (.ints .u8 [])] args) K
theorem ok0 : Proved Tryd.prog GLO.gB 45 bn := by
 refine dx (D := D) (fn := Tryd.f45) (c := Tryd.f45.body.getD .skip) [.fr 5 (.ints .u8 []), .any] (by kernel_rfl) (aj (by kernel_rfl)) (by kernel_rfl) (by kernel_rfl) (by kernel_rfl) ⟨eu.ok, gq.ok, tu.ok, l9.ok, jv.ok, jr.ok, trivial⟩ trivial ?_ ?_
 · rw [loops]; exact ⟨bzy, trivial⟩
 · intro args K r h
   unfold bn at h
   split at h
   · rw [P.ap6] at h; exact Eq.trans (by kernel_rfl) h
   · cases h
theorem ok : Proved Tryd.prog GLO.gB 45 spec := dz _ ok0
end uy

namespace ael
abbrev bvr := P.bva
def bma : bvr → ASt := fun (f, e, a, b, c, d) => ⟨[(0, .yld 11 [15, 17] [.ptr 6 0, .ptr 8 0]), (4, .v (.int .u64 f))], [(840, some ⟨.row 5 (.ints .u8 e), false⟩), (6, some ⟨.box 23 [.own 840], false⟩), (8, some ⟨.box 82 [.fn (.func 44) [.sta [.v (.int .i64 a), .v (.int .i64 b), .sl (.ints .u8 c), .sl (.ints .u8 d)]] []], false⟩)], 841, 19⟩
def btb : ASt → Option bvr
 | ⟨[(0, .yld 11 [15, 17] [.ptr 6 0, .ptr 8 0]), (4, .v (.int .u64 f))], [(840, some ⟨.row 5 (.ints .u8 e), false⟩), (6, some ⟨.box 23 [.own 840], false⟩), (8, some ⟨.box 82 [.fn (.func 44) [.sta [.v (.int .i64 a), .v (.int .i64 b), .sl (.ints .u8 c), .sl (.ints .u8 d)]] []], false⟩)], 841, 19⟩ => some (f, e, a, b, c, d)
 | _ => none
theorem bgf (st) (x) (h : btb st = some x) : st = bma x := by
 unfold btb at h
 split at h
 · cases h; rfl
 · cases h
abbrev b1n := P.b4k
def bwc (K : AExit → ASt → Option R) : b1n → Option R := (fun x => K (.exit 0) (bma x))
noncomputable def b1w : aah := fun st K => akb (btb st) fun x => P.b2i x (bwc K)
noncomputable def D3 : Ctx := ({ P := Tryd.prog, G := [(37, eu.spec), (38, gq.spec), (42, ql.spec), (44, gu.spec), (45, uy.spec), (46, pz.spec)], globs := GLO.gB, hints := [], loops := [], inl := [], y := some (atn (ach Tryd.f24 12) 70 false), sta := true } : Ctx)
noncomputable def D2 : Ctx := ({ P := Tryd.prog, G := [(37, eu.spec), (38, gq.spec), (42, ql.spec), (44, gu.spec), (45, uy.spec), (46, pz.spec)], globs := GLO.gB, hints := [(1, ⟨[0, 4], [(1000006, 5, .ints .u8 [])], [], [], some (840, [6, 8]), [8], [], []⟩)], loops := [(1, b1w)], inl := [], y := some (atn (ach Tryd.f24 12) 70 true), ys := some (akx D3 (atn (ach Tryd.f24 12) 70 true)) } : Ctx)
noncomputable def D1 : Ctx := ({ P := Tryd.prog, G := [(37, eu.spec), (38, gq.spec), (42, ql.spec), (44, gu.spec), (45, uy.spec), (46, pz.spec)], globs := GLO.gB, hints := [], loops := [], inl := [] } : Ctx)
noncomputable def D : Ctx := ({ P := Tryd.prog, G := [(37, eu.spec), (38, gq.spec), (42, ql.spec), (44, gu.spec), (45, uy.spec), (46, pz.spec)], globs := GLO.gB, hints := [], loops := [], inl := [(47, agn D1 Tryd.f47)], top := true, rng := [(12, ⟨73, 70, [15, 17], agn D2 Tryd.f73⟩)], sta := true } : Ctx)
theorem bbc (K) (next) (x) : rz D2 (fu Tryd.f73 1) K next (bma x) = P.bvw x (fun x => next (bma x)) (bwc K) := by kernel_rfl
theorem bfv : pq D2 (fu Tryd.f73 1) := jq bma bgf (by kernel_rfl) P.b5c bbc
theorem loops : dh (Tryd.f24.body.getD .skip) = [] := by kernel_rfl
theorem axo : dh (Tryd.f47.body.getD .skip) = [] := by kernel_rfl
theorem bdv : dh (Tryd.f73.body.getD .skip) = [fu Tryd.f73 1] := by kernel_rfl
theorem bej : dh (brf (ach Tryd.f24 12)) = [] := by kernel_rfl
theorem ranges : qx (Tryd.f24.body.getD .skip) = [ach Tryd.f24 12] := by kernel_rfl
theorem aph : ala D2 (akx D3 (atn (ach Tryd.f24 12) 70 true)) := av4 (Y := atn (ach Tryd.f24 12) 70 true) (aw1 (D := D3) ⟨eu.ok, gq.ok, ql.ok, gu.ok, uy.ok, pz.ok, trivial⟩) (aj (by kernel_rfl)) (axw (D := D3) trivial (aon rfl)) (by kernel_rfl) rfl rfl (by kernel_rfl) (by kernel_rfl) rfl rfl rfl (aem _ (by rw [show dh (atn (ach Tryd.f24 12) 70 true).assign = [] from by kernel_rfl]; exact trivial)) (aem _ (by rw [show dh (atn (ach Tryd.f24 12) 70 true).body = dh (brf (ach Tryd.f24 12)) from by kernel_rfl, bej]; exact trivial))
noncomputable def bn : Abs.Spec := fun args K => match args with
 | [.agg [.v (.int .i64 a), .v (.int .i64 b)], .sl (.ints .u8 c), .sl (.ints .u8 d), .v (.int .u32 e), .sl (.ints .u8 f)] => P.ael a b c d e f (fun g h => K (.tuple [.fr 5 (.ints .u8 g), .v (.int .i64 h)]))
 | _ => none
noncomputable def spec : Abs.Spec := fun args K => bn (p9 [.any, .sl (.ints .u8 []), .sl (.ints .u8 []), .any, .sl (.ints .u8 [])] args) K
theorem ok0 : Proved Tryd.prog GLO.gB 24 bn := by
 refine dx (D := D) (fn := Tryd.f24) (c := Tryd.f24.body.getD .skip) [.fr 5 (.ints .u8 []), .any] (by kernel_rfl) (aj (by kernel_rfl)) (by kernel_rfl) (by kernel_rfl) (by kernel_rfl) ⟨eu.ok, gq.ok, ql.ok, gu.ok, uy.ok, pz.ok, trivial⟩ ⟨avp (D := D1) (D' := D) (fn := Tryd.f47) (c := Tryd.f47.body.getD .skip) rfl rfl (by kernel_rfl) (aj (by kernel_rfl)) (by kernel_rfl) (by kernel_rfl) (by kernel_rfl) ⟨eu.ok, gq.ok, ql.ok, gu.ok, uy.ok, pz.ok, trivial⟩ trivial (by rw [axo]; exact trivial) (fun _ _ _ _ _ h => h), trivial⟩ ?_ ?_ (hRg := by rw [ranges]; exact ⟨arn (D := D) (Di := D2) (e := ⟨73, 70, [15, 17], agn D2 Tryd.f73⟩) (by kernel_rfl) rfl rfl (by kernel_rfl) (avp (D := D2) (D' := D2) (fn := Tryd.f73) (c := Tryd.f73.body.getD .skip) rfl rfl (by kernel_rfl) (aj (by kernel_rfl)) (by kernel_rfl) (by kernel_rfl) (by kernel_rfl) ⟨eu.ok, gq.ok, ql.ok, gu.ok, uy.ok, pz.ok, trivial⟩ trivial (by rw [bdv]; exact ⟨bfv, trivial⟩) (fun _ _ _ _ _ h => h) rfl rfl (amd rfl _) (fun s hs => by have hs : some (akx D3 (atn (ach Tryd.f24 12) 70 true)) = some s := hs; cases hs; exact aph)), trivial⟩)
 · rw [loops]; exact trivial
 · intro args K r h
   unfold bn at h
   split at h
   · rw [P.av2] at h; exact Eq.trans (by kernel_rfl) h
   · cases h
theorem ok : Proved Tryd.prog GLO.gB 24 spec := dz _ ok0
end ael

namespace lq
noncomputable def D : Ctx := ({ P := Tryd.prog, G := [(24, ael.spec)], globs := GLO.gB, hints := [], loops := [], inl := [] } : Ctx)
theorem loops : dh (Tryd.f41.body.getD .skip) = [] := by kernel_rfl
noncomputable def bn : Abs.Spec := fun args K => match args with
 | [.agg [.v (.int .i64 a), .v (.int .i64 b), .sl (.ints .u8 d), .sl (.ints .u8 c), .v (.int .u32 e)], .sl (.ints .u8 f)] => P.lq a b d c e f (fun g => K (.fr 5 (.ints .u8 g)))
 | _ => none
noncomputable def spec : Abs.Spec := fun args K => bn (p9 [.agg [.any, .any, .sl (.ints .u8 []), .sl (.ints .u8 []), .any], .sl (.ints .u8 [])] args) K
theorem ok0 : Proved Tryd.prog GLO.gB 41 bn := by
 refine dx (D := D) (fn := Tryd.f41) (c := Tryd.f41.body.getD .skip) [.fr 5 (.ints .u8 [])] (by kernel_rfl) (aj (by kernel_rfl)) (by kernel_rfl) (by kernel_rfl) (by kernel_rfl) ⟨ael.ok, trivial⟩ trivial ?_ ?_
 · rw [loops]; exact trivial
 · intro args K r h
   unfold bn at h
   split at h
   · rw [P.aea] at h; exact Eq.trans (by kernel_rfl) h
   · cases h
theorem ok : Proved Tryd.prog GLO.gB 41 spec := dz _ ok0
end lq

namespace aft
abbrev b56 := P.bvf
def buy : b56 → ASt := fun (f, o, p, h, i, j, m, n, k, q, g, a, b, c, d, e, l) => ⟨[(0, .yld 7 [2, 10, 11] [.sl (.ints .u8 f), .ptr 3 0, .ptr 4 0]), (2, .ptr 6 0), (4, .sl (.ints .u8 o)), (5, .sl (.ints .u8 p)), (14, .sl (.cols h [.ints .i64 i, .ints .i64 j])), (15, .v (.int .i64 m)), (16, .v (.int .i64 n))], [(840, some ⟨.row 5 (.ints .u8 k), false⟩), (1, some ⟨.row 42 (.ints .u32 q), true⟩), (3, some ⟨.box 23 [.own 840], false⟩), (4, some ⟨.box 72 [.osta g [.v (.int .i64 a), .v (.int .i64 b), .sl (.ints .u8 c), .sl (.ints .u8 d), .v (.int .u32 e)]], false⟩), (6, some ⟨.box 29 [.sl (.ints .u32 l)], false⟩)], 841, 39⟩
def b0r : ASt → Option b56
 | ⟨[(0, .yld 7 [2, 10, 11] [.sl (.ints .u8 f), .ptr 3 0, .ptr 4 0]), (2, .ptr 6 0), (4, .sl (.ints .u8 o)), (5, .sl (.ints .u8 p)), (14, .sl (.cols h [.ints .i64 i, .ints .i64 j])), (15, .v (.int .i64 m)), (16, .v (.int .i64 n))], [(840, some ⟨.row 5 (.ints .u8 k), false⟩), (1, some ⟨.row 42 (.ints .u32 q), true⟩), (3, some ⟨.box 23 [.own 840], false⟩), (4, some ⟨.box 72 [.osta g [.v (.int .i64 a), .v (.int .i64 b), .sl (.ints .u8 c), .sl (.ints .u8 d), .v (.int .u32 e)]], false⟩), (6, some ⟨.box 29 [.sl (.ints .u32 l)], false⟩)], 841, 39⟩ => some (f, o, p, h, i, j, m, n, k, q, g, a, b, c, d, e, l)
 | _ => none
theorem bse (st) (x) (h : b0r st = some x) : st = buy x := by
 unfold b0r at h
 split at h
 · cases h; rfl
 · cases h
abbrev Y2_2 := P.b1q
def b5b (K : AExit → ASt → Option R) : Y2_2 → Option R := (fun x => K (.exit 0) (buy x))
noncomputable def L2_2 : aah := fun st K => akb (b0r st) fun x => P.b3m x (b5b K)
noncomputable def D3 : Ctx := ({ P := Tryd.prog, G := [(10, qg.spec), (38, gq.spec), (39, iw.spec), (41, lq.spec), (66, jc.spec)], globs := GLO.gB, hints := [], loops := [], inl := [], y := some (atn (ach Tryd.f20 8) 52 false) } : Ctx)
noncomputable def D2 : Ctx := ({ P := Tryd.prog, G := [(10, qg.spec), (38, gq.spec), (39, iw.spec), (41, lq.spec), (66, jc.spec)], globs := GLO.gB, hints := [(2, ⟨[0, 2, 4, 5, 14, 15, 16], [(1000003, 5, .ints .u8 [])], [], [(4, .sl (.ints .u8 [])), (5, .sl (.ints .u8 []))], some (840, [1, 3, 4, 6]), [4, 6], [], [(4, [.v (.int .i64 0), .v (.int .i64 0), .sl (.ints .u8 []), .sl (.ints .u8 []), .v (.int .u32 0)])]⟩)], loops := [(2, L2_2)], inl := [], y := some (atn (ach Tryd.f20 8) 52 true), ys := some (akx D3 (atn (ach Tryd.f20 8) 52 true)) } : Ctx)
noncomputable def D1 : Ctx := ({ P := Tryd.prog, G := [(10, qg.spec), (38, gq.spec), (39, iw.spec), (41, lq.spec), (66, jc.spec)], globs := GLO.gB, hints := [], loops := [], inl := [] } : Ctx)
noncomputable def D : Ctx := ({ P := Tryd.prog, G := [(10, qg.spec), (38, gq.spec), (39, iw.spec), (41, lq.spec), (66, jc.spec)], globs := GLO.gB, hints := [], loops := [], inl := [(40, agn D1 Tryd.f40)], top := true, rng := [(8, ⟨65, 52, [2, 10, 11], agn D2 Tryd.f65⟩)] } : Ctx)
theorem bqm (K) (next) (x) : rz D2 (fu Tryd.f65 2) K next (buy x) = P.bwi x (fun x => next (buy x)) (b5b K) := by kernel_rfl
theorem bs0 : pq D2 (fu Tryd.f65 2) := jq buy bse (by kernel_rfl) P.b5o bqm
theorem loops : dh (Tryd.f20.body.getD .skip) = [] := by kernel_rfl
theorem axo : dh (Tryd.f40.body.getD .skip) = [] := by kernel_rfl
theorem bdv : dh (Tryd.f65.body.getD .skip) = [fu Tryd.f65 2] := by kernel_rfl
theorem bej : dh (brf (ach Tryd.f20 8)) = [] := by kernel_rfl
theorem ranges : qx (Tryd.f20.body.getD .skip) = [ach Tryd.f20 8] := by kernel_rfl
theorem aph : ala D2 (akx D3 (atn (ach Tryd.f20 8) 52 true)) := av4 (Y := atn (ach Tryd.f20 8) 52 true) (aw1 (D := D3) ⟨qg.ok, gq.ok, iw.ok, lq.ok, jc.ok, trivial⟩) (aj (by kernel_rfl)) (axw (D := D3) trivial (aon rfl)) (by kernel_rfl) rfl rfl (by kernel_rfl) (by kernel_rfl) rfl rfl rfl (aem _ (by rw [show dh (atn (ach Tryd.f20 8) 52 true).assign = [] from by kernel_rfl]; exact trivial)) (aem _ (by rw [show dh (atn (ach Tryd.f20 8) 52 true).body = dh (brf (ach Tryd.f20 8)) from by kernel_rfl, bej]; exact trivial))
noncomputable def bn : Abs.Spec := fun args K => match args with
 | [.agg [.sl (.cols a [.ints .i64 b, .ints .i64 c]), .sl (.ints .u8 e), .sl (.ints .u8 d)], .v (.int .u64 f), .sl (.ints .u8 g)] => P.aft a b c e d f g (fun h i => K (.tuple [.fr 5 (.ints .u8 h), .v (.int .i64 i)]))
 | _ => none
noncomputable def spec : Abs.Spec := fun args K => bn (p9 [.agg [.sl (.cols 0 [.ints .i64 [], .ints .i64 []]), .sl (.ints .u8 []), .sl (.ints .u8 [])], .any, .sl (.ints .u8 [])] args) K
theorem ok0 : Proved Tryd.prog GLO.gB 20 bn := by
 refine dx (D := D) (fn := Tryd.f20) (c := Tryd.f20.body.getD .skip) [.fr 5 (.ints .u8 []), .any] (by kernel_rfl) (aj (by kernel_rfl)) (by kernel_rfl) (by kernel_rfl) (by kernel_rfl) ⟨qg.ok, gq.ok, iw.ok, lq.ok, jc.ok, trivial⟩ ⟨avp (D := D1) (D' := D) (fn := Tryd.f40) (c := Tryd.f40.body.getD .skip) rfl rfl (by kernel_rfl) (aj (by kernel_rfl)) (by kernel_rfl) (by kernel_rfl) (by kernel_rfl) ⟨qg.ok, gq.ok, iw.ok, lq.ok, jc.ok, trivial⟩ trivial (by rw [axo]; exact trivial) (fun _ _ _ _ _ h => h), trivial⟩ ?_ ?_ (hRg := by rw [ranges]; exact ⟨arn (D := D) (Di := D2) (e := ⟨65, 52, [2, 10, 11], agn D2 Tryd.f65⟩) (by kernel_rfl) rfl rfl (by kernel_rfl) (avp (D := D2) (D' := D2) (fn := Tryd.f65) (c := Tryd.f65.body.getD .skip) rfl rfl (by kernel_rfl) (aj (by kernel_rfl)) (by kernel_rfl) (by kernel_rfl) (by kernel_rfl) ⟨qg.ok, gq.ok, iw.ok, lq.ok, jc.ok, trivial⟩ trivial (by rw [bdv]; exact ⟨bs0, trivial⟩) (fun _ _ _ _ _ h => h) rfl rfl (amd rfl _) (fun s hs => by have hs : some (akx D3 (atn (ach Tryd.f20 8) 52 true)) = some s := hs; cases hs; exact aph)), trivial⟩)
 · rw [loops]; exact trivial
 · intro args K r h
   unfold bn at h
   split at h
   · rw [P.av6] at h; exact Eq.trans (by kernel_rfl) h
   · cases h
theorem ok : Proved Tryd.prog GLO.gB 20 spec := dz _ ok0
end aft

namespace za
noncomputable def D : Ctx := ({ P := Tryd.prog, G := [(8, afl.spec), (9, zx.spec), (14, yw.spec), (17, tq.spec), (19, abz.spec), (20, aft.spec)], globs := GLO.gB, hints := [], loops := [], inl := [] } : Ctx)
theorem loops : dh (Tryd.f6.body.getD .skip) = [] := by kernel_rfl
noncomputable def bn : Abs.Spec := fun args K => match args with
 | [.v (.int .u8 a), .v (.int .u8 b), .arr .u8 16 c, .arr .u8 32 d, .v (.int .u8 e), .sl (.ints .u8 f)] => P.za a b c d e f (fun g => K (.v (.bool g)))
 | _ => none
noncomputable def spec : Abs.Spec := fun args K => bn (p9 [.any, .any, .any, .any, .any, .sl (.ints .u8 [])] args) K
theorem ok0 : Proved Tryd.prog GLO.gB 6 bn := by
 refine dx (D := D) (fn := Tryd.f6) (c := Tryd.f6.body.getD .skip) [.any] (by kernel_rfl) (aj (by kernel_rfl)) (by kernel_rfl) (by kernel_rfl) (by kernel_rfl) ⟨afl.ok, zx.ok, yw.ok, tq.ok, abz.ok, aft.ok, trivial⟩ trivial ?_ ?_
 · rw [loops]; exact trivial
 · intro args K r h
   unfold bn at h
   split at h
   · rw [P.al3] at h; exact Eq.trans (by kernel_rfl) h
   · cases h
theorem ok : Proved Tryd.prog GLO.gB 6 spec := dz _ ok0
end za

end
