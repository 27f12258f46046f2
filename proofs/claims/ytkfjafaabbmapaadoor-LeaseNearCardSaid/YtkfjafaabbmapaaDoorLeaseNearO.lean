/-
  LeaseNear, part 15: an interpreter of my own over abstract values, the pure functions, the walks and the plain law.
-/

import Derived.Test.YtkfjafaabbmapaaDoorLeaseNearK
import Derived.Test.YtkfjafaabbmapaaDoorLeaseNearH
import Derived.Test.YtkfjafaabbmapaaDoorProg
import Derived.Test.YtkfjafaabbmapaaDoorLeaseNearJ
import Derived.Test.YtkfjafaabbmapaaDoorLeaseNearN
import Derived.KernelRfl
import Derived.Test.YtkfjafaabbmapaaDoorLeaseNearM

section
open Go Go.Abs Go.Proofs
set_option maxRecDepth 100000
set_option maxHeartbeats 0
set_option linter.unusedVariables false

namespace abf
noncomputable def D : Ctx := ({ P := Tryd.prog, G := [(69, aei.spec), (70, aeg.spec), (71, abe.spec)], globs := GLO.gB, hints := [], loops := [], inl := [] } : Ctx)
theorem loops : dw (Tryd.f58.body.getD .skip) = [] := by kernel_rfl
noncomputable def bn : Abs.Spec := fun args K => match args with
 | [.v (.int .i64 a), .sl (.ints .u8 b)] => P.abf a b (fun c d => K (.tuple [.fr 5 (.ints .u8 c), .v (.int .i64 d)]))
 | _ => none
noncomputable def spec : Abs.Spec := fun args K => bn (qb [.any, .sl (.ints .u8 [])] args) K
theorem ok0 : Proved Tryd.prog GLO.gB 58 bn := by
 refine eu (D := D) (fn := Tryd.f58) (c := Tryd.f58.body.getD .skip) [.fr 5 (.ints .u8 []), .any] (by kernel_rfl) (au (by kernel_rfl)) (by kernel_rfl) (by kernel_rfl) (by kernel_rfl) ⟨aei.ok, aeg.ok, abe.ok, trivial⟩ trivial ?_ ?_
 · rw [loops]; exact trivial
 · intro args K r h
   unfold bn at h
   split at h
   · rw [P.ap5] at h; exact Eq.trans (by kernel_rfl) h
   · cases h
theorem ok : Proved Tryd.prog GLO.gB 58 spec := iy _ ok0
end abf

namespace lq
noncomputable def D : Ctx := ({ P := Tryd.prog, G := [(58, abf.spec), (64, z8.spec), (65, qd.spec)], globs := GLO.gB, hints := [], loops := [], inl := [] } : Ctx)
theorem loops : dw (Tryd.f55.body.getD .skip) = [] := by kernel_rfl
noncomputable def bn : Abs.Spec := fun args K => match args with
 | [.sl (.ints .u8 c)] => P.lq c (fun a b d => K (.tuple [.agg [.v (.int .u64 a), .v (.int .u64 b)], .v (.bool d)]))
 | _ => none
noncomputable def spec : Abs.Spec := fun args K => bn (qb [.sl (.ints .u8 [])] args) K
theorem ok0 : Proved Tryd.prog GLO.gB 55 bn := by
 refine eu (D := D) (fn := Tryd.f55) (c := Tryd.f55.body.getD .skip) [.any, .any] (by kernel_rfl) (au (by kernel_rfl)) (by kernel_rfl) (by kernel_rfl) (by kernel_rfl) ⟨abf.ok, z8.ok, qd.ok, trivial⟩ trivial ?_ ?_
 · rw [loops]; exact trivial
 · intro args K r h
   unfold bn at h
   split at h
   · rw [P.aif] at h; exact Eq.trans (by kernel_rfl) h
   · cases h
theorem ok : Proved Tryd.prog GLO.gB 55 spec := iy _ ok0
end lq

namespace bg
abbrev bqu := P.bip
def bjz : bqu → ASt := fun (a, b, i, c, d, e, f, g, h) => ⟨[(0, .yld 6 [2, 5, 6, 7] [.ptr 1 0, .ptr 2 0, .ptr 3 0, .ptr 4 0]), (7, .agg [.sl (.ints .u8 a), .sl (.ints .u8 b)]), (8, .v (.int .i64 i))], [(1, some ⟨.box 61 [.v (.int .u64 c), .v (.int .u64 d)], false⟩), (2, some ⟨.box 61 [.v (.int .u64 e), .v (.int .u64 f)], false⟩), (3, some ⟨.box 3 [.v (.int .i64 g)], false⟩), (4, some ⟨.box 33 [.v (.int .i64 h)], false⟩)], 840, 26⟩
def bov : ASt → Option bqu
 | ⟨[(0, .yld 6 [2, 5, 6, 7] [.ptr 1 0, .ptr 2 0, .ptr 3 0, .ptr 4 0]), (7, .agg [.sl (.ints .u8 a), .sl (.ints .u8 b)]), (8, .v (.int .i64 i))], [(1, some ⟨.box 61 [.v (.int .u64 c), .v (.int .u64 d)], false⟩), (2, some ⟨.box 61 [.v (.int .u64 e), .v (.int .u64 f)], false⟩), (3, some ⟨.box 3 [.v (.int .i64 g)], false⟩), (4, some ⟨.box 33 [.v (.int .i64 h)], false⟩)], 840, 26⟩ => some (a, b, i, c, d, e, f, g, h)
 | _ => none
theorem bfv (st) (x) (h : bov st = some x) : st = bjz x := by
 unfold bov at h
 split at h
 · cases h; rfl
 · cases h
abbrev Y2_1 := P.bor
def bp6 (K : AExit → ASt → Option R) : Y2_1 → Option R := (fun x => K (.exit 0) (bjz x))
noncomputable def L2_1 : wm := fun st K => af4 (bov st) fun x => P.bnq x (bp6 K)
noncomputable def D3 : Ctx := ({ P := Tryd.prog, G := [(55, lq.spec)], globs := GLO.gB, hints := [], loops := [], inl := [], y := some (bd2 (ank Tryd.f28 5) 29 false) } : Ctx)
noncomputable def D2 : Ctx := ({ P := Tryd.prog, G := [(55, lq.spec)], globs := GLO.gB, hints := [(1, ⟨[0, 7, 8], [], [], [], some (840, [1, 2, 3, 4]), [1, 2, 3, 4], [], []⟩)], loops := [(1, L2_1)], inl := [], y := some (bd2 (ank Tryd.f28 5) 29 true), ys := some (avm D3 (bd2 (ank Tryd.f28 5) 29 true)) } : Ctx)
noncomputable def D1 : Ctx := ({ P := Tryd.prog, G := [(55, lq.spec)], globs := GLO.gB, hints := [], loops := [], inl := [] } : Ctx)
noncomputable def D : Ctx := ({ P := Tryd.prog, G := [(55, lq.spec)], globs := GLO.gB, hints := [], loops := [], inl := [(44, aag D1 Tryd.f44)], top := true, rng := [(5, ⟨54, 29, [2, 5, 6, 7], aag D2 Tryd.f54⟩)] } : Ctx)
theorem bd8 (K) (next) (x) : og D2 (gq Tryd.f54 1) K next (bjz x) = P.bh2 x (fun x => next (bjz x)) (bp6 K) := by kernel_rfl
theorem bg9 : mq D2 (gq Tryd.f54 1) := jk bjz bfv (by kernel_rfl) P.bqq bd8
theorem loops : dw (Tryd.f28.body.getD .skip) = [] := by kernel_rfl
theorem anj : dw (Tryd.f44.body.getD .skip) = [] := by kernel_rfl
theorem ap3 : dw (Tryd.f54.body.getD .skip) = [gq Tryd.f54 1] := by kernel_rfl
theorem aw1 : dw (bk8 (ank Tryd.f28 5)) = [] := by kernel_rfl
theorem ranges : qc (Tryd.f28.body.getD .skip) = [ank Tryd.f28 5] := by kernel_rfl
theorem bcx : ak9 D2 (avm D3 (bd2 (ank Tryd.f28 5) 29 true)) := bbj (Y := bd2 (ank Tryd.f28 5) 29 true) (au3 (D := D3) ⟨lq.ok, trivial⟩) (au (by kernel_rfl)) (ath (D := D3) trivial (ao7 rfl)) (by kernel_rfl) rfl rfl (by kernel_rfl) (by kernel_rfl) rfl rfl rfl (ahw _ (by rw [show dw (bd2 (ank Tryd.f28 5) 29 true).assign = [] from by kernel_rfl]; exact trivial)) (ahw _ (by rw [show dw (bd2 (ank Tryd.f28 5) 29 true).body = dw (bk8 (ank Tryd.f28 5)) from by kernel_rfl, aw1]; exact trivial))
noncomputable def bn : Abs.Spec := fun args K => match args with
 | [.agg [.sl (.ints .u8 c), .sl (.ints .u8 d)]] => P.bg c d (fun a b e f => K (.tuple [.agg [.v (.int .u64 a), .v (.int .u64 b)], .v (.int .i64 e), .v (.int .i64 f)]))
 | _ => none
noncomputable def spec : Abs.Spec := fun args K => bn (qb [.agg [.sl (.ints .u8 []), .sl (.ints .u8 [])]] args) K
theorem ok0 : Proved Tryd.prog GLO.gB 28 bn := by
 refine eu (D := D) (fn := Tryd.f28) (c := Tryd.f28.body.getD .skip) [.any, .any, .any] (by kernel_rfl) (au (by kernel_rfl)) (by kernel_rfl) (by kernel_rfl) (by kernel_rfl) ⟨lq.ok, trivial⟩ ⟨ads (D := D1) (D' := D) (fn := Tryd.f44) (c := Tryd.f44.body.getD .skip) rfl rfl (by kernel_rfl) (au (by kernel_rfl)) (by kernel_rfl) (by kernel_rfl) (by kernel_rfl) ⟨lq.ok, trivial⟩ trivial (by rw [anj]; exact trivial) (fun _ _ _ _ _ h => h), trivial⟩ ?_ ?_ (hRg := by rw [ranges]; exact ⟨ay7 (D := D) (Di := D2) (e := ⟨54, 29, [2, 5, 6, 7], aag D2 Tryd.f54⟩) (by kernel_rfl) rfl rfl (by kernel_rfl) (ads (D := D2) (D' := D2) (fn := Tryd.f54) (c := Tryd.f54.body.getD .skip) rfl rfl (by kernel_rfl) (au (by kernel_rfl)) (by kernel_rfl) (by kernel_rfl) (by kernel_rfl) ⟨lq.ok, trivial⟩ trivial (by rw [ap3]; exact ⟨bg9, trivial⟩) (fun _ _ _ _ _ h => h) rfl rfl (am7 rfl _) (fun s hs => by have hs : some (avm D3 (bd2 (ank Tryd.f28 5) 29 true)) = some s := hs; cases hs; exact bcx)), trivial⟩)
 · rw [loops]; exact trivial
 · intro args K r h
   unfold bn at h
   split at h
   · rw [P.aic] at h; exact Eq.trans (by kernel_rfl) h
   · cases h
theorem ok : Proved Tryd.prog GLO.gB 28 spec := iy _ ok0
end bg

namespace iq
noncomputable def D : Ctx := ({ P := Tryd.prog, G := [(28, bg.spec), (29, fu.spec)], globs := GLO.gB, hints := [], loops := [], inl := [] } : Ctx)
theorem loops : dw (Tryd.f10.body.getD .skip) = [] := by kernel_rfl
noncomputable def bn : Abs.Spec := fun args K => match args with
 | [.agg [.sl (.ints .u8 h), .sl (.ints .u8 i)], .v (.int .u64 j), .v (.int .u64 k)] => P.iq h i j k (fun a b c d f e g l => K (.tuple [.agg [.fr 5 (.ints .u8 a), .fr 5 (.ints .u8 b), .v (.int .u64 c), .v (.int .u64 d), .v (.int .u64 f), .v (.int .u64 e), .v (.bool g)], .v (.int .i64 l)]))
 | _ => none
noncomputable def spec : Abs.Spec := fun args K => bn (qb [.agg [.sl (.ints .u8 []), .sl (.ints .u8 [])], .any, .any] args) K
theorem ok0 : Proved Tryd.prog GLO.gB 10 bn := by
 refine eu (D := D) (fn := Tryd.f10) (c := Tryd.f10.body.getD .skip) [.agg [.fr 5 (.ints .u8 []), .fr 5 (.ints .u8 []), .any, .any, .any, .any, .any], .any] (by kernel_rfl) (au (by kernel_rfl)) (by kernel_rfl) (by kernel_rfl) (by kernel_rfl) ⟨bg.ok, fu.ok, trivial⟩ trivial ?_ ?_
 · rw [loops]; exact trivial
 · intro args K r h
   unfold bn at h
   split at h
   · rw [P.akb] at h; exact Eq.trans (by kernel_rfl) h
   · cases h
theorem ok : Proved Tryd.prog GLO.gB 10 spec := iy _ ok0
end iq

namespace aad
noncomputable def D : Ctx := ({ P := Tryd.prog, G := [(66, jd.spec)], globs := GLO.gB, hints := [], loops := [], inl := [] } : Ctx)
theorem loops : dw (Tryd.f56.body.getD .skip) = [] := by kernel_rfl
noncomputable def bn : Abs.Spec := fun args K => match args with
 | [.sl (.rows .u8 a)] => P.aad a (fun b => K (.fr 5 (.ints .u8 b)))
 | _ => none
noncomputable def spec : Abs.Spec := fun args K => bn (qb [.sl (.rows .u8 [])] args) K
theorem ok0 : Proved Tryd.prog GLO.gB 56 bn := by
 refine eu (D := D) (fn := Tryd.f56) (c := Tryd.f56.body.getD .skip) [.fr 5 (.ints .u8 [])] (by kernel_rfl) (au (by kernel_rfl)) (by kernel_rfl) (by kernel_rfl) (by kernel_rfl) ⟨jd.ok, trivial⟩ trivial ?_ ?_
 · rw [loops]; exact trivial
 · intro args K r h
   unfold bn at h
   split at h
   · rw [P.al2] at h; exact Eq.trans (by kernel_rfl) h
   · cases h
theorem ok : Proved Tryd.prog GLO.gB 56 spec := iy _ ok0
end aad

namespace ku
noncomputable def D : Ctx := ({ P := Tryd.prog, G := [(56, aad.spec), (57, yc.spec), (58, abf.spec)], globs := GLO.gB, hints := [], loops := [], inl := [] } : Ctx)
theorem loops : dw (Tryd.f45.body.getD .skip) = [] := by kernel_rfl
noncomputable def bn : Abs.Spec := fun args K => match args with
 | [.agg [.v (.int .u64 a), .v (.int .u64 b)]] => P.ku a b (fun c => K (.fr 5 (.ints .u8 c)))
 | _ => none
noncomputable def spec : Abs.Spec := bn
theorem ok0 : Proved Tryd.prog GLO.gB 45 bn := by
 refine eu (D := D) (fn := Tryd.f45) (c := Tryd.f45.body.getD .skip) [.fr 5 (.ints .u8 [])] (by kernel_rfl) (au (by kernel_rfl)) (by kernel_rfl) (by kernel_rfl) (by kernel_rfl) ⟨aad.ok, yc.ok, abf.ok, trivial⟩ trivial ?_ ?_
 · rw [loops]; exact trivial
 · intro args K r h
   unfold bn at h
   split at h
   · rw [P.aha] at h; exact Eq.trans (by kernel_rfl) h
   · cases h
theorem ok : Proved Tryd.prog GLO.gB 45 spec := ok0
end ku

namespace vv
noncomputable def D : Ctx := ({ P := Tryd.prog, G := [(45, ku.spec)], globs := GLO.gB, hints := [], loops := [], inl := [] } : Ctx)
theorem loops : dw (Tryd.f30.body.getD .skip) = [] := by kernel_rfl
noncomputable def bn : Abs.Spec := fun args K => match args with
 | [] => P.vv (fun a b => K (.agg [.fr 5 (.ints .u8 a), .fr 5 (.ints .u8 b)]))
 | _ => none
noncomputable def spec : Abs.Spec := bn
theorem ok0 : Proved Tryd.prog GLO.gB 30 bn := by
 refine eu (D := D) (fn := Tryd.f30) (c := Tryd.f30.body.getD .skip) [.agg [.fr 5 (.ints .u8 []), .fr 5 (.ints .u8 [])]] (by kernel_rfl) (au (by kernel_rfl)) (by kernel_rfl) (by kernel_rfl) (by kernel_rfl) ⟨ku.ok, trivial⟩ trivial ?_ ?_
 · rw [loops]; exact trivial
 · intro args K r h
   unfold bn at h
   split at h
   · rw [P.akt] at h; exact Eq.trans (by kernel_rfl) h
   · cases h
theorem ok : Proved Tryd.prog GLO.gB 30 spec := ok0
end vv

namespace su
noncomputable def D : Ctx := ({ P := Tryd.prog, G := [(10, iq.spec), (30, vv.spec)], globs := GLO.gB, hints := [], loops := [], inl := [] } : Ctx)
theorem loops : dw (Tryd.f12.body.getD .skip) = [] := by kernel_rfl
noncomputable def bn : Abs.Spec := fun args K => match args with
 | [.v (.int .u64 h), .v (.int .u64 i)] => P.su h i (fun a b c d f e g j => K (.tuple [.agg [.fr 5 (.ints .u8 a), .fr 5 (.ints .u8 b), .v (.int .u64 c), .v (.int .u64 d), .v (.int .u64 f), .v (.int .u64 e), .v (.bool g)], .v (.int .i64 j)]))
 | _ => none
noncomputable def spec : Abs.Spec := bn
theorem ok0 : Proved Tryd.prog GLO.gB 12 bn := by
 refine eu (D := D) (fn := Tryd.f12) (c := Tryd.f12.body.getD .skip) [.agg [.fr 5 (.ints .u8 []), .fr 5 (.ints .u8 []), .any, .any, .any, .any, .any], .any] (by kernel_rfl) (au (by kernel_rfl)) (by kernel_rfl) (by kernel_rfl) (by kernel_rfl) ⟨iq.ok, vv.ok, trivial⟩ trivial ?_ ?_
 · rw [loops]; exact trivial
 · intro args K r h
   unfold bn at h
   split at h
   · rw [P.ami] at h; exact Eq.trans (by kernel_rfl) h
   · cases h
theorem ok : Proved Tryd.prog GLO.gB 12 spec := ok0
end su

namespace lu
noncomputable def D : Ctx := ({ P := Tryd.prog, G := [(29, fu.spec)], globs := GLO.gB, hints := [], loops := [], inl := [] } : Ctx)
theorem loops : dw (Tryd.f63.body.getD .skip) = [] := by kernel_rfl
noncomputable def bn : Abs.Spec := fun args K => match args with
 | [.agg [.sl (.ints .u8 a), .sl (.ints .u8 b)]] => P.lu a b (fun c d => K (.agg [.fr 5 (.ints .u8 c), .fr 5 (.ints .u8 d)]))
 | _ => none
noncomputable def spec : Abs.Spec := fun args K => bn (qb [.agg [.sl (.ints .u8 []), .sl (.ints .u8 [])]] args) K
theorem ok0 : Proved Tryd.prog GLO.gB 63 bn := by
 refine eu (D := D) (fn := Tryd.f63) (c := Tryd.f63.body.getD .skip) [.agg [.fr 5 (.ints .u8 []), .fr 5 (.ints .u8 [])]] (by kernel_rfl) (au (by kernel_rfl)) (by kernel_rfl) (by kernel_rfl) (by kernel_rfl) ⟨fu.ok, trivial⟩ trivial ?_ ?_
 · rw [loops]; exact trivial
 · intro args K r h
   unfold bn at h
   split at h
   · rw [P.agr] at h; exact Eq.trans (by kernel_rfl) h
   · cases h
theorem ok : Proved Tryd.prog GLO.gB 63 spec := iy _ ok0
end lu

namespace ny
noncomputable def D : Ctx := ({ P := Tryd.prog, G := [(28, bg.spec), (29, fu.spec), (63, lu.spec)], globs := GLO.gB, hints := [], loops := [], inl := [] } : Ctx)
theorem loops : dw (Tryd.f62.body.getD .skip) = [] := by kernel_rfl
noncomputable def bn : Abs.Spec := fun args K => match args with
 | [.agg [.sl (.ints .u8 a), .sl (.ints .u8 b)], .sl (.ints .u8 e)] => P.ny a b e (fun c d f g => K (.tuple [.agg [.fr 5 (.ints .u8 c), .fr 5 (.ints .u8 d)], .v (.int .i64 f), .v (.int .i64 g)]))
 | _ => none
noncomputable def spec : Abs.Spec := fun args K => bn (qb [.agg [.sl (.ints .u8 []), .sl (.ints .u8 [])], .sl (.ints .u8 [])] args) K
theorem ok0 : Proved Tryd.prog GLO.gB 62 bn := by
 refine eu (D := D) (fn := Tryd.f62) (c := Tryd.f62.body.getD .skip) [.agg [.fr 5 (.ints .u8 []), .fr 5 (.ints .u8 [])], .any, .any] (by kernel_rfl) (au (by kernel_rfl)) (by kernel_rfl) (by kernel_rfl) (by kernel_rfl) ⟨bg.ok, fu.ok, lu.ok, trivial⟩ trivial ?_ ?_
 · rw [loops]; exact trivial
 · intro args K r h
   unfold bn at h
   split at h
   · rw [P.aia] at h; exact Eq.trans (by kernel_rfl) h
   · cases h
theorem ok : Proved Tryd.prog GLO.gB 62 spec := iy _ ok0
end ny

namespace cu
noncomputable def D : Ctx := ({ P := Tryd.prog, G := [(45, ku.spec), (62, ny.spec)], globs := GLO.gB, hints := [], loops := [], inl := [] } : Ctx)
theorem loops : dw (Tryd.f50.body.getD .skip) = [] := by kernel_rfl
noncomputable def bn : Abs.Spec := fun args K => match args with
 | [.agg [.sl (.ints .u8 c), .sl (.ints .u8 d)], .agg [.v (.int .u64 a), .v (.int .u64 b)]] => P.cu c d a b (fun e f g h => K (.tuple [.agg [.fr 5 (.ints .u8 e), .fr 5 (.ints .u8 f)], .v (.int .i64 g), .v (.int .i64 h)]))
 | _ => none
noncomputable def spec : Abs.Spec := fun args K => bn (qb [.agg [.sl (.ints .u8 []), .sl (.ints .u8 [])], .any] args) K
theorem ok0 : Proved Tryd.prog GLO.gB 50 bn := by
 refine eu (D := D) (fn := Tryd.f50) (c := Tryd.f50.body.getD .skip) [.agg [.fr 5 (.ints .u8 []), .fr 5 (.ints .u8 [])], .any, .any] (by kernel_rfl) (au (by kernel_rfl)) (by kernel_rfl) (by kernel_rfl) (by kernel_rfl) ⟨ku.ok, ny.ok, trivial⟩ trivial ?_ ?_
 · rw [loops]; exact trivial
 · intro args K r h
   unfold bn at h
   split at h
   · rw [P.ag6] at h; exact Eq.trans (by kernel_rfl) h
   · cases h
theorem ok : Proved Tryd.prog GLO.gB 50 spec := iy _ ok0
end cu

namespace gy
noncomputable def D : Ctx := ({ P := Tryd.prog, G := [(28, bg.spec), (50, cu.spec), (62, ny.spec), (63, lu.spec)], globs := GLO.gB, hints := [], loops := [], inl := [] } : Ctx)
theorem loops : dw (Tryd.f52.body.getD .skip) = [] := by kernel_rfl
noncomputable def bn : Abs.Spec := fun args K => match args with
 | [.agg [.sl (.ints .u8 c), .sl (.ints .u8 d)], .agg [.v (.int .u64 a), .v (.int .u64 b)], .v (.int .i64 g), .sl (.ints .u8 h)] => P.gy c d a b g h (fun e f i => K (.tuple [.agg [.fr 5 (.ints .u8 e), .fr 5 (.ints .u8 f)], .v (.int .i64 i)]))
 | _ => none
noncomputable def spec : Abs.Spec := fun args K => bn (qb [.agg [.sl (.ints .u8 []), .sl (.ints .u8 [])], .any, .any, .sl (.ints .u8 [])] args) K
theorem ok0 : Proved Tryd.prog GLO.gB 52 bn := by
 refine eu (D := D) (fn := Tryd.f52) (c := Tryd.f52.body.getD .skip) [.agg [.fr 5 (.ints .u8 []), .fr 5 (.ints .u8 [])], .any] (by kernel_rfl) (au (by kernel_rfl)) (by kernel_rfl) (by kernel_rfl) (by kernel_rfl) ⟨bg.ok, cu.ok, ny.ok, lu.ok, trivial⟩ trivial ?_ ?_
 · rw [loops]; exact trivial
 · intro args K r h
   unfold bn at h
   split at h
   · rw [P.aie] at h; exact Eq.trans (by kernel_rfl) h
   · cases h
theorem ok : Proved Tryd.prog GLO.gB 52 spec := iy _ ok0
end gy

namespace yh
noncomputable def D6 : Ctx := ({ P := Tryd.prog, G := [(10, iq.spec), (28, bg.spec), (50, cu.spec), (52, gy.spec)], globs := GLO.gB, hints := [], loops := [], inl := [] } : Ctx)
noncomputable def D5 : Ctx := ({ P := Tryd.prog, G := [(10, iq.spec), (28, bg.spec), (50, cu.spec), (52, gy.spec)], globs := GLO.gB, hints := [], loops := [], inl := [] } : Ctx)
noncomputable def D4 : Ctx := ({ P := Tryd.prog, G := [(10, iq.spec), (28, bg.spec), (50, cu.spec), (52, gy.spec)], globs := GLO.gB, hints := [], loops := [], inl := [] } : Ctx)
noncomputable def D3 : Ctx := ({ P := Tryd.prog, G := [(10, iq.spec), (28, bg.spec), (50, cu.spec), (52, gy.spec)], globs := GLO.gB, hints := [], loops := [], inl := [(49, aag D5 Tryd.f49), (40, aag D6 Tryd.f40)] } : Ctx)
noncomputable def D2 : Ctx := ({ P := Tryd.prog, G := [(10, iq.spec), (28, bg.spec), (50, cu.spec), (52, gy.spec)], globs := GLO.gB, hints := [], loops := [], inl := [(49, aag D5 Tryd.f49)] } : Ctx)
noncomputable def D1 : Ctx := ({ P := Tryd.prog, G := [(10, iq.spec), (28, bg.spec), (50, cu.spec), (52, gy.spec)], globs := GLO.gB, hints := [], loops := [], inl := [(34, aag D2 Tryd.f34)] } : Ctx)
noncomputable def D : Ctx := ({ P := Tryd.prog, G := [(10, iq.spec), (28, bg.spec), (50, cu.spec), (52, gy.spec)], globs := GLO.gB, hints := [], loops := [], inl := [(37, aag D1 Tryd.f37), (34, aag D2 Tryd.f34), (39, aag D3 Tryd.f39), (38, aag D4 Tryd.f38), (40, aag D6 Tryd.f40)] } : Ctx)
theorem loops : dw (Tryd.f21.body.getD .skip) = [] := by kernel_rfl
theorem anj : dw (Tryd.f37.body.getD .skip) = [] := by kernel_rfl
theorem ap3 : dw (Tryd.f34.body.getD .skip) = [] := by kernel_rfl
theorem aw1 : dw (Tryd.f39.body.getD .skip) = [] := by kernel_rfl
theorem beu : dw (Tryd.f38.body.getD .skip) = [] := by kernel_rfl
theorem aua : dw (Tryd.f49.body.getD .skip) = [] := by kernel_rfl
theorem az2 : dw (Tryd.f40.body.getD .skip) = [] := by kernel_rfl
noncomputable def bn : Abs.Spec := fun args K => match args with
 | [.agg [.sl (.ints .u8 a), .sl (.ints .u8 b), .v (.int .u64 e), .v (.int .u64 g), .v (.int .u64 k), .v (.int .u64 h), .v (.bool p)], .agg [.v (.int .i64 l), .v (.int .i64 m), .sl (.ints .u8 n)]] => P.yh a b e g k h p l m n (fun c d f i o j q r s => K (.tuple [.agg [.sl (.ints .u8 c), .sl (.ints .u8 d), .v (.int .u64 f), .v (.int .u64 i), .v (.int .u64 o), .v (.int .u64 j), .v (.bool q)], .fr 25 (.ints .u64 r), .v (.int .i64 s)]))
 | _ => none
noncomputable def spec : Abs.Spec := fun args K => bn (qb [.agg [.sl (.ints .u8 []), .sl (.ints .u8 []), .any, .any, .any, .any, .any], .agg [.any, .any, .sl (.ints .u8 [])]] args) K
theorem ok0 : Proved Tryd.prog GLO.gB 21 bn := by
 refine eu (D := D) (fn := Tryd.f21) (c := Tryd.f21.body.getD .skip) [.agg [.sl (.ints .u8 []), .sl (.ints .u8 []), .any, .any, .any, .any, .any], .fr 25 (.ints .u64 []), .any] (by kernel_rfl) (au (by kernel_rfl)) (by kernel_rfl) (by kernel_rfl) (by kernel_rfl) ⟨iq.ok, bg.ok, cu.ok, gy.ok, trivial⟩ ⟨ads (D := D1) (D' := D) (fn := Tryd.f37) (c := Tryd.f37.body.getD .skip) rfl rfl (by kernel_rfl) (au (by kernel_rfl)) (by kernel_rfl) (by kernel_rfl) (by kernel_rfl) ⟨iq.ok, bg.ok, cu.ok, gy.ok, trivial⟩ ⟨ads (D := D2) (D' := D1) (fn := Tryd.f34) (c := Tryd.f34.body.getD .skip) rfl rfl (by kernel_rfl) (au (by kernel_rfl)) (by kernel_rfl) (by kernel_rfl) (by kernel_rfl) ⟨iq.ok, bg.ok, cu.ok, gy.ok, trivial⟩ ⟨ads (D := D5) (D' := D2) (fn := Tryd.f49) (c := Tryd.f49.body.getD .skip) rfl rfl (by kernel_rfl) (au (by kernel_rfl)) (by kernel_rfl) (by kernel_rfl) (by kernel_rfl) ⟨iq.ok, bg.ok, cu.ok, gy.ok, trivial⟩ trivial (by rw [aua]; exact trivial) (fun _ _ _ _ _ h => h), trivial⟩ (by rw [ap3]; exact trivial) (fun _ _ _ _ _ h => h), trivial⟩ (by rw [anj]; exact trivial) (fun _ _ _ _ _ h => h), ads (D := D2) (D' := D) (fn := Tryd.f34) (c := Tryd.f34.body.getD .skip) rfl rfl (by kernel_rfl) (au (by kernel_rfl)) (by kernel_rfl) (by kernel_rfl) (by kernel_rfl) ⟨iq.ok, bg.ok, cu.ok, gy.ok, trivial⟩ ⟨ads (D := D5) (D' := D2) (fn := Tryd.f49) (c := Tryd.f49.body.getD .skip) rfl rfl (by kernel_rfl) (au (by kernel_rfl)) (by kernel_rfl) (by kernel_rfl) (by kernel_rfl) ⟨iq.ok, bg.ok, cu.ok, gy.ok, trivial⟩ trivial (by rw [aua]; exact trivial) (fun _ _ _ _ _ h => h), trivial⟩ (by rw [ap3]; exact trivial) (fun _ _ _ _ _ h => h), ads (D := D3) (D' := D) (fn := Tryd.f39) (c := Tryd.f39.body.getD .skip) rfl rfl (by kernel_rfl) (au (by kernel_rfl)) (by kernel_rfl) (by kernel_rfl) (by kernel_rfl) ⟨iq.ok, bg.ok, cu.ok, gy.ok, trivial⟩ ⟨ads (D := D5) (D' := D3) (fn := Tryd.f49) (c := Tryd.f49.body.getD .skip) rfl rfl (by kernel_rfl) (au (by kernel_rfl)) (by kernel_rfl) (by kernel_rfl) (by kernel_rfl) ⟨iq.ok, bg.ok, cu.ok, gy.ok, trivial⟩ trivial (by rw [aua]; exact trivial) (fun _ _ _ _ _ h => h), ads (D := D6) (D' := D3) (fn := Tryd.f40) (c := Tryd.f40.body.getD .skip) rfl rfl (by kernel_rfl) (au (by kernel_rfl)) (by kernel_rfl) (by kernel_rfl) (by kernel_rfl) ⟨iq.ok, bg.ok, cu.ok, gy.ok, trivial⟩ trivial (by rw [az2]; exact trivial) (fun _ _ _ _ _ h => h), trivial⟩ (by rw [aw1]; exact trivial) (fun _ _ _ _ _ h => h), ads (D := D4) (D' := D) (fn := Tryd.f38) (c := Tryd.f38.body.getD .skip) rfl rfl (by kernel_rfl) (au (by kernel_rfl)) (by kernel_rfl) (by kernel_rfl) (by kernel_rfl) ⟨iq.ok, bg.ok, cu.ok, gy.ok, trivial⟩ trivial (by rw [beu]; exact trivial) (fun _ _ _ _ _ h => h), ads (D := D6) (D' := D) (fn := Tryd.f40) (c := Tryd.f40.body.getD .skip) rfl rfl (by kernel_rfl) (au (by kernel_rfl)) (by kernel_rfl) (by kernel_rfl) (by kernel_rfl) ⟨iq.ok, bg.ok, cu.ok, gy.ok, trivial⟩ trivial (by rw [az2]; exact trivial) (fun _ _ _ _ _ h => h), trivial⟩ ?_ ?_
 · rw [loops]; exact trivial
 · intro args K r h
   unfold bn at h
   split at h
   · rw [P.anu] at h; exact Eq.trans (by kernel_rfl) h
   · cases h
theorem ok : Proved Tryd.prog GLO.gB 21 spec := iy _ ok0
end yh

namespace vw
abbrev X3 := P.bi4
def S3 : X3 → ASt := fun (a, b, c, d, q, r, s, e, f, g, h, i, j, k, l, m, n, o, p) => ⟨[(6, .own 2), (2, .ptr 0 0), (4, .ptr 1 0), (12, .sl (.cols a [.ints .i64 b, .ints .i64 c, .rows .u8 d])), (13, .v (.int .i64 q)), (14, .v (.int .i64 r))], [(2, some ⟨.row 25 (.ints .u64 s), false⟩), (0, some ⟨.box 27 [.sl (.ints .u8 e), .sl (.ints .u8 f), .v (.int .u64 g), .v (.int .u64 h), .v (.int .u64 i), .v (.int .u64 j), .v (.bool k)], false⟩), (1, some ⟨.box 27 [.v (.slice none 0 0), .v (.slice none 0 0), .v (.int .u64 l), .v (.int .u64 m), .v (.int .u64 n), .v (.int .u64 o), .v (.bool p)], false⟩)], 3, 32⟩
def V3 : ASt → Option X3
 | ⟨[(6, .own 2), (2, .ptr 0 0), (4, .ptr 1 0), (12, .sl (.cols a [.ints .i64 b, .ints .i64 c, .rows .u8 d])), (13, .v (.int .i64 q)), (14, .v (.int .i64 r))], [(2, some ⟨.row 25 (.ints .u64 s), false⟩), (0, some ⟨.box 27 [.sl (.ints .u8 e), .sl (.ints .u8 f), .v (.int .u64 g), .v (.int .u64 h), .v (.int .u64 i), .v (.int .u64 j), .v (.bool k)], false⟩), (1, some ⟨.box 27 [.v (.slice none 0 0), .v (.slice none 0 0), .v (.int .u64 l), .v (.int .u64 m), .v (.int .u64 n), .v (.int .u64 o), .v (.bool p)], false⟩)], 3, 32⟩ => some (a, b, c, d, q, r, s, e, f, g, h, i, j, k, l, m, n, o, p)
 | _ => none
theorem alx (st) (x) (h : V3 st = some x) : st = S3 x := by
 unfold V3 at h
 split at h
 · cases h; rfl
 · cases h
abbrev Y3 := P.bl5
def E3 (K : AExit → ASt → Option R) : Y3 → Option R := (fun x => K (.exit 0) (S3 x))
noncomputable def L3 : wm := fun st K => af4 (V3 st) fun x => P.bob x (E3 K)
noncomputable def D : Ctx := ({ P := Tryd.prog, G := [(21, yh.spec)], globs := GLO.gB, hints := [(3, ⟨[2, 4, 12, 13, 14], [(6, 25, .ints .u64 [])], [4, 5], [], none, [], [], []⟩)], loops := [(3, L3)], inl := [] } : Ctx)
theorem afr (K) (next) (x) : og D (gq Tryd.f24 3) K next (S3 x) = P.bjh x (fun x => next (S3 x)) (E3 K) := by kernel_rfl
theorem alk : mq D (gq Tryd.f24 3) := jk S3 alx (by kernel_rfl) P.bpu afr
theorem loops : dw (Tryd.f24.body.getD .skip) = [gq Tryd.f24 3] := by kernel_rfl
noncomputable def bn : Abs.Spec := fun args K => match args with
 | [.agg [.sl (.ints .u8 a), .sl (.ints .u8 b), .v (.int .u64 e), .v (.int .u64 g), .v (.int .u64 k), .v (.int .u64 h), .v (.bool m)], .sl (.cols o [.ints .i64 p, .ints .i64 q, .rows .u8 r])] => P.vw a b e g k h m o p q r (fun c d f i l j n s => K (.tuple [.agg [.sl (.ints .u8 c), .sl (.ints .u8 d), .v (.int .u64 f), .v (.int .u64 i), .v (.int .u64 l), .v (.int .u64 j), .v (.bool n)], .fr 25 (.ints .u64 s)]))
 | _ => none
noncomputable def spec : Abs.Spec := fun args K => bn (qb [.agg [.sl (.ints .u8 []), .sl (.ints .u8 []), .any, .any, .any, .any, .any], .sl (.cols 0 [.ints .i64 [], .ints .i64 [], .rows .u8 []])] args) K
theorem ok0 : Proved Tryd.prog GLO.gB 24 bn := by
 refine eu (D := D) (fn := Tryd.f24) (c := Tryd.f24.body.getD .skip) [.agg [.sl (.ints .u8 []), .sl (.ints .u8 []), .any, .any, .any, .any, .any], .fr 25 (.ints .u64 [])] (by kernel_rfl) (au (by kernel_rfl)) (by kernel_rfl) (by kernel_rfl) (by kernel_rfl) ⟨yh.ok, trivial⟩ trivial ?_ ?_
 · rw [loops]; exact ⟨alk, trivial⟩
 · intro args K r h
   unfold bn at h
   split at h
   · rw [P.aki] at h; exact Eq.trans (by kernel_rfl) h
   · cases h
theorem ok : Proved Tryd.prog GLO.gB 24 spec := iy _ ok0
end vw

end
