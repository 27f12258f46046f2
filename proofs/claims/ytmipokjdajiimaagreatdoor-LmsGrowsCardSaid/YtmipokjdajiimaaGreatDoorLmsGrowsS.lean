/-
  LmsGrows, part 19: an interpreter of my own over abstract values, the pure functions, the walks and the plain law.
-/

import Derived.Test.YtmipokjdajiimaaGreatDoorLmsGrowsK
import Derived.Test.YtmipokjdajiimaaGreatDoorLmsGrowsH
import Derived.Test.YtmipokjdajiimaaGreatDoorProg
import Derived.Test.YtmipokjdajiimaaGreatDoorLmsGrowsJ
import Derived.Test.YtmipokjdajiimaaGreatDoorLmsGrowsO
import Derived.Test.YtmipokjdajiimaaGreatDoorLmsGrowsR
import Derived.KernelRfl
import Derived.Test.YtmipokjdajiimaaGreatDoorLmsGrowsP
import Derived.Test.YtmipokjdajiimaaGreatDoorLmsGrowsM
import Derived.Test.YtmipokjdajiimaaGreatDoorLmsGrowsL

section
open Go Go.Abs Go.Proofs
set_option maxRecDepth 100000
set_option maxHeartbeats 0
set_option linter.unusedVariables false

namespace yw
abbrev X6 := P.bp5
def S6 : X6 → ASt := fun (i, g, h, j, a, b, c, d, e, f) => ⟨[(12, .own 1), (3, .sl (.ints .u8 i)), (10, .ptr 0 0), (27, .v (.int .i64 g)), (28, .v (.int .i64 h))], [(1, some ⟨.row 5 (.ints .u8 j), false⟩), (0, some ⟨.box 106 [.v (.int .i64 a), .sl (.ints .u8 b), .v (.int .u32 c), .v (.int .i64 d), .v (.int .i64 e), .v (.int .i64 f)], false⟩)], 2, 48⟩
def V6 : ASt → Option X6
 | ⟨[(12, .own 1), (3, .sl (.ints .u8 i)), (10, .ptr 0 0), (27, .v (.int .i64 g)), (28, .v (.int .i64 h))], [(1, some ⟨.row 5 (.ints .u8 j), false⟩), (0, some ⟨.box 106 [.v (.int .i64 a), .sl (.ints .u8 b), .v (.int .u32 c), .v (.int .i64 d), .v (.int .i64 e), .v (.int .i64 f)], false⟩)], 2, 48⟩ => some (i, g, h, j, a, b, c, d, e, f)
 | _ => none
theorem bi8 (st) (x) (h : V6 st = some x) : st = S6 x := by
 unfold V6 at h
 split at h
 · cases h; rfl
 · cases h
abbrev Y6 := P.bva
def E6 (K : AExit → ASt → Option R) : Y6 → Option R := (fun x => K (.exit 0) (S6 x))
noncomputable def L6 : ru := fun st K => ae3 (V6 st) fun x => P.byn x (E6 K)
noncomputable def D : Ctx := ({ P := Tryz.prog, G := [(74, qh.spec), (75, l6.spec), (77, jk.spec), (89, l5.spec), (90, gy.spec)], globs := GLO.gB, hints := [(6, ⟨[3, 10, 27, 28], [(12, 5, .ints .u8 [])], [8, 9], [], none, [], [], []⟩)], loops := [(6, L6)], inl := [] } : Ctx)
theorem bbk (K) (next) (x) : l8 D (dx Tryz.f68 6) K next (S6 x) = P.brp x (fun x => next (S6 x)) (E6 K) := by kernel_rfl
theorem bhs : j5 D (dx Tryz.f68 6) := fq S6 bi8 (by kernel_rfl) P.bz8 bbk
theorem loops : bg (Tryz.f68.body.getD .skip) = [dx Tryz.f68 6] := by kernel_rfl
noncomputable def aj : Abs.Spec := fun args K => match args with
 | [.v (.int .i64 a), .sl (.ints .u8 b), .v (.int .u32 c), .sl (.ints .u8 d)] => P.yw a b c d (fun e f => K (.tuple [.fr 5 (.ints .u8 e), .v (.int .i64 f)]))
 | _ => none
noncomputable def spec : Abs.Spec := fun args K => aj (l7 [.any, .sl (.ints .u8 []), .any, .sl (.ints .u8 [])] args) K
theorem ok0 : Proved Tryz.prog GLO.gB 68 aj := by
 refine bf (D := D) (fn := Tryz.f68) (c := Tryz.f68.body.getD .skip) [.fr 5 (.ints .u8 []), .any] (by kernel_rfl) (ah (by kernel_rfl)) (by kernel_rfl) (by kernel_rfl) (by kernel_rfl) ⟨qh.ok, l6.ok, jk.ok, l5.ok, gy.ok, trivial⟩ trivial ?_ ?_
 · rw [loops]; exact ⟨bhs, trivial⟩
 · intro args K r h
   unfold aj at h
   split at h
   · rw [P.aj1] at h; exact Eq.trans (by kernel_rfl) h
   · cases h
theorem ok : Proved Tryz.prog GLO.gB 68 spec := bq _ ok0
end yw

namespace gq
noncomputable def bct (n : Nat) : Abs.Spec := fun args K => match args with
 | [.sta [.v (.int .i64 a), .v (.int .i64 b), .sl (.ints .u8 d), .sl (.ints .u8 c)], .v (.int .u64 e)] => P.gq n a b d c e (fun f => K (.fr 5 (.ints .u8 f)))
 | _ => none
noncomputable def bw9 (n : Nat) : Abs.Spec := fun args K => bct n (l7 [.agg [.any, .any, .sl (.ints .u8 []), .sl (.ints .u8 [])], .any] args) K
noncomputable def D (n : Nat) : Ctx := ({ P := Tryz.prog, G := [(68, yw.spec), (69, uq.spec), (41, bw9 n)], globs := GLO.gB, hints := [], loops := [], inl := [] } : Ctx)
theorem body (n : Nat) (a : Int) (b : Int) (d : List Int) (c : List Int) (e : Int) (K : AVal → Option R) : bk6 (D n) Tryz.f41 [.fr 5 (.ints .u8 [])] [.sta [.v (.int .i64 a), .v (.int .i64 b), .sl (.ints .u8 d), .sl (.ints .u8 c)], .v (.int .u64 e)] K = P.gq (n + 1) a b d c e (fun f => K (.fr 5 (.ints .u8 f))) := by
 rw [P.acy]
 kernel_rfl
theorem loops : bg (Tryz.f41.body.getD .skip) = [] := by kernel_rfl
noncomputable def aj : Abs.Spec := fun args K => match args with
 | [.sta [.v (.int .i64 a), .v (.int .i64 b), .sl (.ints .u8 d), .sl (.ints .u8 c)], .v (.int .u64 e)] => P.gq ((a.toNat+2)) a b d c e (fun f => K (.fr 5 (.ints .u8 f)))
 | _ => none
noncomputable def spec : Abs.Spec := fun args K => aj (l7 [.agg [.any, .any, .sl (.ints .u8 []), .sl (.ints .u8 [])], .any] args) K
theorem step (n : Nat) (ih : Proved Tryz.prog GLO.gB 41 (bct n)) : Proved Tryz.prog GLO.gB 41 (bct (n + 1)) := by
 refine bf (D := D n) (fn := Tryz.f41) (c := Tryz.f41.body.getD .skip) [.fr 5 (.ints .u8 [])] (by kernel_rfl) (ah (by kernel_rfl)) (by kernel_rfl) (by kernel_rfl) (by kernel_rfl) ⟨yw.ok, uq.ok, bq _ ih, trivial⟩ trivial ?_ ?_
 · rw [loops]; exact trivial
 · intro args K r h
   unfold bct at h
   split at h
   · rw [body]; exact h
   · cases h
theorem okN : ∀ n, Proved Tryz.prog GLO.gB 41 (bct n)
 | 0 => ⟨⟨Tryz.f41, by kernel_rfl, by kernel_rfl, by kernel_rfl⟩, fun args K r h => by unfold bct at h; split at h <;> cases h⟩
 | n + 1 => step n (okN n)
theorem ok0 : Proved Tryz.prog GLO.gB 41 aj := ⟨(okN 0).enters, fun args K r h => by
 unfold aj at h
 split at h
 · exact (okN _).sound _ K r (by unfold bct; exact h)
 · cases h⟩
theorem ok : Proved Tryz.prog GLO.gB 41 spec := bq _ ok0
end gq

namespace o7
noncomputable def D : Ctx := ({ P := Tryz.prog, G := [(20, wm.spec)], globs := GLO.gB, hints := [], loops := [], inl := [] } : Ctx)
theorem loops : bg (Tryz.f39.body.getD .skip) = [] := by kernel_rfl
noncomputable def aj : Abs.Spec := fun args K => match args with
 | [.agg [.v (.int .i64 a), .v (.int .i64 b)], .sl (.ints .u8 c), .sl (.ints .u8 d)] => P.o7 a b c d (fun e => K (.v (.int .i64 e)))
 | _ => none
noncomputable def spec : Abs.Spec := fun args K => aj (l7 [.any, .sl (.ints .u8 []), .sl (.ints .u8 [])] args) K
theorem ok0 : Proved Tryz.prog GLO.gB 39 aj := by
 refine bf (D := D) (fn := Tryz.f39) (c := Tryz.f39.body.getD .skip) [.any] (by kernel_rfl) (ah (by kernel_rfl)) (by kernel_rfl) (by kernel_rfl) (by kernel_rfl) ⟨wm.ok, trivial⟩ trivial ?_ ?_
 · rw [loops]; exact trivial
 · intro args K r h
   unfold aj at h
   split at h
   · rw [P.ajt] at h; exact Eq.trans (by kernel_rfl) h
   · cases h
theorem ok : Proved Tryz.prog GLO.gB 39 spec := bq _ ok0
end o7

namespace aak
noncomputable def D : Ctx := ({ P := Tryz.prog, G := [(29, fu.spec), (39, o7.spec), (40, ab8.spec), (41, gq.spec)], globs := GLO.gB, hints := [], loops := [], inl := [], sta := true } : Ctx)
theorem loops : bg (Tryz.f16.body.getD .skip) = [] := by kernel_rfl
noncomputable def aj : Abs.Spec := fun args K => match args with
 | [.agg [.v (.int .i64 a), .v (.int .i64 b)], .sl (.ints .u8 c), .sl (.ints .u8 d)] => P.aak a b c d (fun e f => K (.tuple [.fr 5 (.ints .u8 e), .v (.int .i64 f)]))
 | _ => none
noncomputable def spec : Abs.Spec := fun args K => aj (l7 [.any, .sl (.ints .u8 []), .sl (.ints .u8 [])] args) K
theorem ok0 : Proved Tryz.prog GLO.gB 16 aj := by
 refine bf (D := D) (fn := Tryz.f16) (c := Tryz.f16.body.getD .skip) [.fr 5 (.ints .u8 []), .any] (by kernel_rfl) (ah (by kernel_rfl)) (by kernel_rfl) (by kernel_rfl) (by kernel_rfl) ⟨fu.ok, o7.ok, ab8.ok, gq.ok, trivial⟩ trivial ?_ ?_
 · rw [loops]; exact trivial
 · intro args K r h
   unfold aj at h
   split at h
   · rw [P.aib] at h; exact Eq.trans (by kernel_rfl) h
   · cases h
theorem ok : Proved Tryz.prog GLO.gB 16 spec := bq _ ok0
end aak

namespace qw
abbrev X7 := P.bp9
def S7 : X7 → ASt := fun (j, g, h, i, a, b, c, d, e, f, k) => ⟨[(15, .own 40), (3, .sl (.ints .u8 j)), (12, .ptr 0 0), (43, .own 5), (44, .v (.int .i64 g)), (45, .v (.int .i64 h))], [(40, some ⟨.row 5 (.ints .u8 i), false⟩), (0, some ⟨.box 106 [.v (.int .i64 a), .sl (.ints .u8 b), .v (.int .u32 c), .v (.int .i64 d), .v (.int .i64 e), .v (.int .i64 f)], false⟩), (5, some ⟨.row 41 (.ints .u32 k), false⟩)], 41, 63⟩
def V7 : ASt → Option X7
 | ⟨[(15, .own 40), (3, .sl (.ints .u8 j)), (12, .ptr 0 0), (43, .own 5), (44, .v (.int .i64 g)), (45, .v (.int .i64 h))], [(40, some ⟨.row 5 (.ints .u8 i), false⟩), (0, some ⟨.box 106 [.v (.int .i64 a), .sl (.ints .u8 b), .v (.int .u32 c), .v (.int .i64 d), .v (.int .i64 e), .v (.int .i64 f)], false⟩), (5, some ⟨.row 41 (.ints .u32 k), false⟩)], 41, 63⟩ => some (j, g, h, i, a, b, c, d, e, f, k)
 | _ => none
theorem bm9 (st) (x) (h : V7 st = some x) : st = S7 x := by
 unfold V7 at h
 split at h
 · cases h; rfl
 · cases h
abbrev Y7 := P.bxe
def E7 (K : AExit → ASt → Option R) : Y7 → Option R := (fun x => K (.exit 0) (S7 x))
noncomputable def L7 : ru := fun st K => ae3 (V7 st) fun x => P.bwj x (E7 K)
noncomputable def D : Ctx := ({ P := Tryz.prog, G := [(29, fu.spec), (30, jl.spec), (74, qh.spec), (75, l6.spec), (76, ji.spec), (77, jk.spec)], globs := GLO.gB, hints := [(7, ⟨[3, 12, 43, 44, 45], [(15, 5, .ints .u8 [])], [10, 11], [], some (40, [0, 5]), [], [], []⟩)], loops := [(7, L7)], inl := [] } : Ctx)
theorem bii (K) (next) (x) : l8 D (dx Tryz.f45 7) K next (S7 x) = P.br7 x (fun x => next (S7 x)) (E7 K) := by kernel_rfl
theorem bnn : j5 D (dx Tryz.f45 7) := fq S7 bm9 (by kernel_rfl) P.b0d bii
theorem loops : bg (Tryz.f45.body.getD .skip) = [dx Tryz.f45 7] := by kernel_rfl
noncomputable def aj : Abs.Spec := fun args K => match args with
 | [.v (.int .i64 a), .sl (.ints .u8 b), .v (.int .u32 c), .sl (.ints .u8 d), .sl (.ints .u8 e)] => P.qw a b c d e (fun f g => K (.tuple [.fr 5 (.ints .u8 f), .v (.int .i64 g)]))
 | _ => none
noncomputable def spec : Abs.Spec := fun args K => aj (l7 [.any, .sl (.ints .u8 []), .any, .sl (.ints .u8 []), .sl (.ints .u8 [])] args) K
theorem ok0 : Proved Tryz.prog GLO.gB 45 aj := by
 refine bf (D := D) (fn := Tryz.f45) (c := Tryz.f45.body.getD .skip) [.fr 5 (.ints .u8 []), .any] (by kernel_rfl) (ah (by kernel_rfl)) (by kernel_rfl) (by kernel_rfl) (by kernel_rfl) ⟨fu.ok, jl.ok, qh.ok, l6.ok, ji.ok, jk.ok, trivial⟩ trivial ?_ ?_
 · rw [loops]; exact ⟨bnn, trivial⟩
 · intro args K r h
   unfold aj at h
   split at h
   · rw [P.an6] at h; exact Eq.trans (by kernel_rfl) h
   · cases h
theorem ok : Proved Tryz.prog GLO.gB 45 spec := bq _ ok0
end qw

namespace acw
abbrev bqv := P.bph
def bhm : bqv → ASt := fun (f, e, a, b, c, d) => ⟨[(0, .yld 11 [15, 17] [.ptr 6 0, .ptr 8 0]), (4, .v (.int .u64 f))], [(840, some ⟨.row 5 (.ints .u8 e), false⟩), (6, some ⟨.box 23 [.own 840], false⟩), (8, some ⟨.box 75 [.fn (.func 41) [.sta [.v (.int .i64 a), .v (.int .i64 b), .sl (.ints .u8 c), .sl (.ints .u8 d)]] []], false⟩)], 841, 19⟩
def bog : ASt → Option bqv
 | ⟨[(0, .yld 11 [15, 17] [.ptr 6 0, .ptr 8 0]), (4, .v (.int .u64 f))], [(840, some ⟨.row 5 (.ints .u8 e), false⟩), (6, some ⟨.box 23 [.own 840], false⟩), (8, some ⟨.box 75 [.fn (.func 41) [.sta [.v (.int .i64 a), .v (.int .i64 b), .sl (.ints .u8 c), .sl (.ints .u8 d)]] []], false⟩)], 841, 19⟩ => some (f, e, a, b, c, d)
 | _ => none
theorem bdc (st) (x) (h : bog st = some x) : st = bhm x := by
 unfold bog at h
 split at h
 · cases h; rfl
 · cases h
abbrev by0 := P.byl
def bri (K : AExit → ASt → Option R) : by0 → Option R := (fun x => K (.exit 0) (bhm x))
noncomputable def buu : ru := fun st K => ae3 (bog st) fun x => P.bvl x (bri K)
noncomputable def D3 : Ctx := ({ P := Tryz.prog, G := [(29, fu.spec), (30, jl.spec), (39, o7.spec), (41, gq.spec), (45, qw.spec), (46, nu.spec)], globs := GLO.gB, hints := [], loops := [], inl := [], y := some (azb (agj Tryz.f18 12) 70 false), sta := true } : Ctx)
noncomputable def D2 : Ctx := ({ P := Tryz.prog, G := [(29, fu.spec), (30, jl.spec), (39, o7.spec), (41, gq.spec), (45, qw.spec), (46, nu.spec)], globs := GLO.gB, hints := [(1, ⟨[0, 4], [(1000006, 5, .ints .u8 [])], [], [], some (840, [6, 8]), [8], [], []⟩)], loops := [(1, buu)], inl := [], y := some (azb (agj Tryz.f18 12) 70 true), ys := some (aqa D3 (azb (agj Tryz.f18 12) 70 true)) } : Ctx)
noncomputable def D1 : Ctx := ({ P := Tryz.prog, G := [(29, fu.spec), (30, jl.spec), (39, o7.spec), (41, gq.spec), (45, qw.spec), (46, nu.spec)], globs := GLO.gB, hints := [], loops := [], inl := [] } : Ctx)
noncomputable def D : Ctx := ({ P := Tryz.prog, G := [(29, fu.spec), (30, jl.spec), (39, o7.spec), (41, gq.spec), (45, qw.spec), (46, nu.spec)], globs := GLO.gB, hints := [], loops := [], inl := [(47, ai0 D1 Tryz.f47)], top := true, rng := [(12, ⟨78, 70, [15, 17], ai0 D2 Tryz.f78⟩)], sta := true } : Ctx)
theorem axc (K) (next) (x) : l8 D2 (dx Tryz.f78 1) K next (bhm x) = P.brg x (fun x => next (bhm x)) (bri K) := by kernel_rfl
theorem bdf : j5 D2 (dx Tryz.f78 1) := fq bhm bdc (by kernel_rfl) P.bze axc
theorem loops : bg (Tryz.f18.body.getD .skip) = [] := by kernel_rfl
theorem azm : bg (Tryz.f47.body.getD .skip) = [] := by kernel_rfl
theorem bgp : bg (Tryz.f78.body.getD .skip) = [dx Tryz.f78 1] := by kernel_rfl
theorem bhq : bg (bo4 (agj Tryz.f18 12)) = [] := by kernel_rfl
theorem ranges : qm (Tryz.f18.body.getD .skip) = [agj Tryz.f18 12] := by kernel_rfl
theorem ayg : alu D2 (aqa D3 (azb (agj Tryz.f18 12) 70 true)) := bbl (Y := azb (agj Tryz.f18 12) 70 true) (awk (D := D3) ⟨fu.ok, jl.ok, o7.ok, gq.ok, qw.ok, nu.ok, trivial⟩) (ah (by kernel_rfl)) (aw0 (D := D3) trivial (apc rfl)) (by kernel_rfl) rfl rfl (by kernel_rfl) (by kernel_rfl) rfl rfl rfl (ag4 _ (by rw [show bg (azb (agj Tryz.f18 12) 70 true).assign = [] from by kernel_rfl]; exact trivial)) (ag4 _ (by rw [show bg (azb (agj Tryz.f18 12) 70 true).body = bg (bo4 (agj Tryz.f18 12)) from by kernel_rfl, bhq]; exact trivial))
noncomputable def aj : Abs.Spec := fun args K => match args with
 | [.agg [.v (.int .i64 a), .v (.int .i64 b)], .sl (.ints .u8 c), .sl (.ints .u8 d), .v (.int .u32 e), .sl (.ints .u8 f)] => P.acw a b c d e f (fun g h => K (.tuple [.fr 5 (.ints .u8 g), .v (.int .i64 h)]))
 | _ => none
noncomputable def spec : Abs.Spec := fun args K => aj (l7 [.any, .sl (.ints .u8 []), .sl (.ints .u8 []), .any, .sl (.ints .u8 [])] args) K
theorem ok0 : Proved Tryz.prog GLO.gB 18 aj := by
 refine bf (D := D) (fn := Tryz.f18) (c := Tryz.f18.body.getD .skip) [.fr 5 (.ints .u8 []), .any] (by kernel_rfl) (ah (by kernel_rfl)) (by kernel_rfl) (by kernel_rfl) (by kernel_rfl) ⟨fu.ok, jl.ok, o7.ok, gq.ok, qw.ok, nu.ok, trivial⟩ ⟨azq (D := D1) (D' := D) (fn := Tryz.f47) (c := Tryz.f47.body.getD .skip) rfl rfl (by kernel_rfl) (ah (by kernel_rfl)) (by kernel_rfl) (by kernel_rfl) (by kernel_rfl) ⟨fu.ok, jl.ok, o7.ok, gq.ok, qw.ok, nu.ok, trivial⟩ trivial (by rw [azm]; exact trivial) (fun _ _ _ _ _ h => h), trivial⟩ ?_ ?_ (hRg := by rw [ranges]; exact ⟨awu (D := D) (Di := D2) (e := ⟨78, 70, [15, 17], ai0 D2 Tryz.f78⟩) (by kernel_rfl) rfl rfl (by kernel_rfl) (azq (D := D2) (D' := D2) (fn := Tryz.f78) (c := Tryz.f78.body.getD .skip) rfl rfl (by kernel_rfl) (ah (by kernel_rfl)) (by kernel_rfl) (by kernel_rfl) (by kernel_rfl) ⟨fu.ok, jl.ok, o7.ok, gq.ok, qw.ok, nu.ok, trivial⟩ trivial (by rw [bgp]; exact ⟨bdf, trivial⟩) (fun _ _ _ _ _ h => h) rfl rfl (amw rfl _) (fun s hs => by have hs : some (aqa D3 (azb (agj Tryz.f18 12) 70 true)) = some s := hs; cases hs; exact ayg)), trivial⟩)
 · rw [loops]; exact trivial
 · intro args K r h
   unfold aj at h
   split at h
   · rw [P.aiv] at h; exact Eq.trans (by kernel_rfl) h
   · cases h
theorem ok : Proved Tryz.prog GLO.gB 18 spec := bq _ ok0
end acw

namespace yt
noncomputable def D : Ctx := ({ P := Tryz.prog, G := [(12, z8.spec), (13, adi.spec), (14, aes.spec), (15, um.spec), (16, aak.spec), (17, aam.spec), (18, acw.spec), (19, ac5.spec), (20, wm.spec), (21, yx.spec), (22, ze.spec), (23, ae7.spec)], globs := GLO.gB, hints := [], loops := [], inl := [] } : Ctx)
theorem loops : bg (Tryz.f4.body.getD .skip) = [] := by kernel_rfl
noncomputable def aj : Abs.Spec := fun args K => match args with
 | [.agg [.v (.int .i64 a), .v (.int .i64 b)], .sl (.ints .u8 c), .sl (.ints .u8 d), .v (.int .u32 e), .sl (.ints .u8 f)] => P.yt a b c d e f (fun g => K (.v (.bool g)))
 | _ => none
noncomputable def spec : Abs.Spec := fun args K => aj (l7 [.any, .sl (.ints .u8 []), .sl (.ints .u8 []), .any, .sl (.ints .u8 [])] args) K
theorem ok0 : Proved Tryz.prog GLO.gB 4 aj := by
 refine bf (D := D) (fn := Tryz.f4) (c := Tryz.f4.body.getD .skip) [.any] (by kernel_rfl) (ah (by kernel_rfl)) (by kernel_rfl) (by kernel_rfl) (by kernel_rfl) ⟨z8.ok, adi.ok, aes.ok, um.ok, aak.ok, aam.ok, acw.ok, ac5.ok, wm.ok, yx.ok, ze.ok, ae7.ok, trivial⟩ trivial ?_ ?_
 · rw [loops]; exact trivial
 · intro args K r h
   unfold aj at h
   split at h
   · rw [P.akh] at h; exact Eq.trans (by kernel_rfl) h
   · cases h
theorem ok : Proved Tryz.prog GLO.gB 4 spec := bq _ ok0
end yt

end
