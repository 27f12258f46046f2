/-
  LeaseSpent, part 14: an interpreter of my own over abstract values, the pure functions, the walks and the plain law.
-/

import Derived.Test.YtkfjafaabbmapaaDoorLeaseSpentK
import Derived.Test.YtkfjafaabbmapaaDoorLeaseSpentH
import Derived.Test.YtkfjafaabbmapaaDoorProg
import Derived.Test.YtkfjafaabbmapaaDoorLeaseSpentJ
import Derived.Test.YtkfjafaabbmapaaDoorLeaseSpentM
import Derived.KernelRfl
import Derived.Test.YtkfjafaabbmapaaDoorLeaseSpentL

section
open Go Go.Abs Go.Proofs
set_option maxRecDepth 100000
set_option maxHeartbeats 0
set_option linter.unusedVariables false

namespace abk
noncomputable def D : Ctx := ({ P := Tryd.prog, G := [(69, aeo.spec), (70, aek.spec), (71, abj.spec)], globs := GLO.gB, hints := [], loops := [], inl := [] } : Ctx)
theorem loops : d9 (Tryd.f58.body.getD .skip) = [] := by kernel_rfl
noncomputable def dn : Abs.Spec := fun args K => match args with
 | [.v (.int .i64 a), .sl (.ints .u8 b)] => P.abk a b (fun c d => K (.tuple [.fr 5 (.ints .u8 c), .v (.int .i64 d)]))
 | _ => none
noncomputable def spec : Abs.Spec := fun args K => dn (p9 [.any, .sl (.ints .u8 [])] args) K
theorem ok0 : Proved Tryd.prog GLO.gB 58 dn := by
 refine gq (D := D) (fn := Tryd.f58) (c := Tryd.f58.body.getD .skip) [.fr 5 (.ints .u8 []), .any] (by kernel_rfl) (bf (by kernel_rfl)) (by kernel_rfl) (by kernel_rfl) (by kernel_rfl) ⟨aeo.ok, aek.ok, abj.ok, trivial⟩ trivial ?_ ?_
 · rw [loops]; exact trivial
 · intro args K r h
   unfold dn at h
   split at h
   · rw [P.ap9] at h; exact Eq.trans (by kernel_rfl) h
   · cases h
theorem ok : Proved Tryd.prog GLO.gB 58 spec := jd _ ok0
end abk

namespace l8
noncomputable def D : Ctx := ({ P := Tryd.prog, G := [(58, abk.spec), (64, aax.spec), (65, qh.spec)], globs := GLO.gB, hints := [], loops := [], inl := [] } : Ctx)
theorem loops : d9 (Tryd.f55.body.getD .skip) = [] := by kernel_rfl
noncomputable def dn : Abs.Spec := fun args K => match args with
 | [.sl (.ints .u8 c)] => P.l8 c (fun a b d => K (.tuple [.agg [.v (.int .u64 a), .v (.int .u64 b)], .v (.bool d)]))
 | _ => none
noncomputable def spec : Abs.Spec := fun args K => dn (p9 [.sl (.ints .u8 [])] args) K
theorem ok0 : Proved Tryd.prog GLO.gB 55 dn := by
 refine gq (D := D) (fn := Tryd.f55) (c := Tryd.f55.body.getD .skip) [.any, .any] (by kernel_rfl) (bf (by kernel_rfl)) (by kernel_rfl) (by kernel_rfl) (by kernel_rfl) ⟨abk.ok, aax.ok, qh.ok, trivial⟩ trivial ?_ ?_
 · rw [loops]; exact trivial
 · intro args K r h
   unfold dn at h
   split at h
   · rw [P.ait] at h; exact Eq.trans (by kernel_rfl) h
   · cases h
theorem ok : Proved Tryd.prog GLO.gB 55 spec := jd _ ok0
end l8

namespace dh
abbrev bqb := P.bie
def bjy : bqb → ASt := fun (a, b, i, c, d, e, f, g, h) => ⟨[(0, .yld 6 [2, 5, 6, 7] [.ptr 1 0, .ptr 2 0, .ptr 3 0, .ptr 4 0]), (7, .agg [.sl (.ints .u8 a), .sl (.ints .u8 b)]), (8, .v (.int .i64 i))], [(1, some ⟨.box 61 [.v (.int .u64 c), .v (.int .u64 d)], false⟩), (2, some ⟨.box 61 [.v (.int .u64 e), .v (.int .u64 f)], false⟩), (3, some ⟨.box 3 [.v (.int .i64 g)], false⟩), (4, some ⟨.box 33 [.v (.int .i64 h)], false⟩)], 840, 26⟩
def bmj : ASt → Option bqb
 | ⟨[(0, .yld 6 [2, 5, 6, 7] [.ptr 1 0, .ptr 2 0, .ptr 3 0, .ptr 4 0]), (7, .agg [.sl (.ints .u8 a), .sl (.ints .u8 b)]), (8, .v (.int .i64 i))], [(1, some ⟨.box 61 [.v (.int .u64 c), .v (.int .u64 d)], false⟩), (2, some ⟨.box 61 [.v (.int .u64 e), .v (.int .u64 f)], false⟩), (3, some ⟨.box 3 [.v (.int .i64 g)], false⟩), (4, some ⟨.box 33 [.v (.int .i64 h)], false⟩)], 840, 26⟩ => some (a, b, i, c, d, e, f, g, h)
 | _ => none
theorem bgm (st) (x) (h : bmj st = some x) : st = bjy x := by
 unfold bmj at h
 split at h
 · cases h; rfl
 · cases h
abbrev Y2_1 := P.bo6
def bpz (K : AExit → ASt → Option R) : Y2_1 → Option R := (fun x => K (.exit 0) (bjy x))
noncomputable def L2_1 : yc := fun st K => agy (bmj st) fun x => P.bmi x (bpz K)
noncomputable def D3 : Ctx := ({ P := Tryd.prog, G := [(55, l8.spec)], globs := GLO.gB, hints := [], loops := [], inl := [], y := some (bdw (ank Tryd.f28 5) 29 false) } : Ctx)
noncomputable def D2 : Ctx := ({ P := Tryd.prog, G := [(55, l8.spec)], globs := GLO.gB, hints := [(1, ⟨[0, 7, 8], [], [], [], some (840, [1, 2, 3, 4]), [1, 2, 3, 4], [], []⟩)], loops := [(1, L2_1)], inl := [], y := some (bdw (ank Tryd.f28 5) 29 true), ys := some (au8 D3 (bdw (ank Tryd.f28 5) 29 true)) } : Ctx)
noncomputable def D1 : Ctx := ({ P := Tryd.prog, G := [(55, l8.spec)], globs := GLO.gB, hints := [], loops := [], inl := [] } : Ctx)
noncomputable def D : Ctx := ({ P := Tryd.prog, G := [(55, l8.spec)], globs := GLO.gB, hints := [], loops := [], inl := [(44, aah D1 Tryd.f44)], top := true, rng := [(5, ⟨54, 29, [2, 5, 6, 7], aah D2 Tryd.f54⟩)] } : Ctx)
theorem bd5 (K) (next) (x) : oq D2 (jc Tryd.f54 1) K next (bjy x) = P.bja x (fun x => next (bjy x)) (bpz K) := by kernel_rfl
theorem bg1 : nk D2 (jc Tryd.f54 1) := jo bjy bgm (by kernel_rfl) P.bp8 bd5
theorem loops : d9 (Tryd.f28.body.getD .skip) = [] := by kernel_rfl
theorem an9 : d9 (Tryd.f44.body.getD .skip) = [] := by kernel_rfl
theorem aqg : d9 (Tryd.f54.body.getD .skip) = [jc Tryd.f54 1] := by kernel_rfl
theorem ayg : d9 (blq (ank Tryd.f28 5)) = [] := by kernel_rfl
theorem ranges : qj (Tryd.f28.body.getD .skip) = [ank Tryd.f28 5] := by kernel_rfl
theorem bef : ak7 D2 (au8 D3 (bdw (ank Tryd.f28 5) 29 true)) := bap (Y := bdw (ank Tryd.f28 5) 29 true) (aut (D := D3) ⟨l8.ok, trivial⟩) (bf (by kernel_rfl)) (at0 (D := D3) trivial (aos rfl)) (by kernel_rfl) rfl rfl (by kernel_rfl) (by kernel_rfl) rfl rfl rfl (ah3 _ (by rw [show d9 (bdw (ank Tryd.f28 5) 29 true).assign = [] from by kernel_rfl]; exact trivial)) (ah3 _ (by rw [show d9 (bdw (ank Tryd.f28 5) 29 true).body = d9 (blq (ank Tryd.f28 5)) from by kernel_rfl, ayg]; exact trivial))
noncomputable def dn : Abs.Spec := fun args K => match args with
 | [.agg [.sl (.ints .u8 c), .sl (.ints .u8 d)]] => P.dh c d (fun a b e f => K (.tuple [.agg [.v (.int .u64 a), .v (.int .u64 b)], .v (.int .i64 e), .v (.int .i64 f)]))
 | _ => none
noncomputable def spec : Abs.Spec := fun args K => dn (p9 [.agg [.sl (.ints .u8 []), .sl (.ints .u8 [])]] args) K
theorem ok0 : Proved Tryd.prog GLO.gB 28 dn := by
 refine gq (D := D) (fn := Tryd.f28) (c := Tryd.f28.body.getD .skip) [.any, .any, .any] (by kernel_rfl) (bf (by kernel_rfl)) (by kernel_rfl) (by kernel_rfl) (by kernel_rfl) ⟨l8.ok, trivial⟩ ⟨adw (D := D1) (D' := D) (fn := Tryd.f44) (c := Tryd.f44.body.getD .skip) rfl rfl (by kernel_rfl) (bf (by kernel_rfl)) (by kernel_rfl) (by kernel_rfl) (by kernel_rfl) ⟨l8.ok, trivial⟩ trivial (by rw [an9]; exact trivial) (fun _ _ _ _ _ h => h), trivial⟩ ?_ ?_ (hRg := by rw [ranges]; exact ⟨azo (D := D) (Di := D2) (e := ⟨54, 29, [2, 5, 6, 7], aah D2 Tryd.f54⟩) (by kernel_rfl) rfl rfl (by kernel_rfl) (adw (D := D2) (D' := D2) (fn := Tryd.f54) (c := Tryd.f54.body.getD .skip) rfl rfl (by kernel_rfl) (bf (by kernel_rfl)) (by kernel_rfl) (by kernel_rfl) (by kernel_rfl) ⟨l8.ok, trivial⟩ trivial (by rw [aqg]; exact ⟨bg1, trivial⟩) (fun _ _ _ _ _ h => h) rfl rfl (anc rfl _) (fun s hs => by have hs : some (au8 D3 (bdw (ank Tryd.f28 5) 29 true)) = some s := hs; cases hs; exact bef)), trivial⟩)
 · rw [loops]; exact trivial
 · intro args K r h
   unfold dn at h
   split at h
   · rw [P.aio] at h; exact Eq.trans (by kernel_rfl) h
   · cases h
theorem ok : Proved Tryd.prog GLO.gB 28 spec := jd _ ok0
end dh

namespace ig
noncomputable def D : Ctx := ({ P := Tryd.prog, G := [(28, dh.spec), (29, gy.spec)], globs := GLO.gB, hints := [], loops := [], inl := [] } : Ctx)
theorem loops : d9 (Tryd.f10.body.getD .skip) = [] := by kernel_rfl
noncomputable def dn : Abs.Spec := fun args K => match args with
 | [.agg [.sl (.ints .u8 h), .sl (.ints .u8 i)], .v (.int .u64 j), .v (.int .u64 k)] => P.ig h i j k (fun a b c d f e g l => K (.tuple [.agg [.fr 5 (.ints .u8 a), .fr 5 (.ints .u8 b), .v (.int .u64 c), .v (.int .u64 d), .v (.int .u64 f), .v (.int .u64 e), .v (.bool g)], .v (.int .i64 l)]))
 | _ => none
noncomputable def spec : Abs.Spec := fun args K => dn (p9 [.agg [.sl (.ints .u8 []), .sl (.ints .u8 [])], .any, .any] args) K
theorem ok0 : Proved Tryd.prog GLO.gB 10 dn := by
 refine gq (D := D) (fn := Tryd.f10) (c := Tryd.f10.body.getD .skip) [.agg [.fr 5 (.ints .u8 []), .fr 5 (.ints .u8 []), .any, .any, .any, .any, .any], .any] (by kernel_rfl) (bf (by kernel_rfl)) (by kernel_rfl) (by kernel_rfl) (by kernel_rfl) ⟨dh.ok, gy.ok, trivial⟩ trivial ?_ ?_
 · rw [loops]; exact trivial
 · intro args K r h
   unfold dn at h
   split at h
   · rw [P.akz] at h; exact Eq.trans (by kernel_rfl) h
   · cases h
theorem ok : Proved Tryd.prog GLO.gB 10 spec := jd _ ok0
end ig

namespace aak
noncomputable def D : Ctx := ({ P := Tryd.prog, G := [(66, jg.spec)], globs := GLO.gB, hints := [], loops := [], inl := [] } : Ctx)
theorem loops : d9 (Tryd.f56.body.getD .skip) = [] := by kernel_rfl
noncomputable def dn : Abs.Spec := fun args K => match args with
 | [.sl (.rows .u8 a)] => P.aak a (fun b => K (.fr 5 (.ints .u8 b)))
 | _ => none
noncomputable def spec : Abs.Spec := fun args K => dn (p9 [.sl (.rows .u8 [])] args) K
theorem ok0 : Proved Tryd.prog GLO.gB 56 dn := by
 refine gq (D := D) (fn := Tryd.f56) (c := Tryd.f56.body.getD .skip) [.fr 5 (.ints .u8 [])] (by kernel_rfl) (bf (by kernel_rfl)) (by kernel_rfl) (by kernel_rfl) (by kernel_rfl) ⟨jg.ok, trivial⟩ trivial ?_ ?_
 · rw [loops]; exact trivial
 · intro args K r h
   unfold dn at h
   split at h
   · rw [P.aml] at h; exact Eq.trans (by kernel_rfl) h
   · cases h
theorem ok : Proved Tryd.prog GLO.gB 56 spec := jd _ ok0
end aak

namespace lq
noncomputable def D : Ctx := ({ P := Tryd.prog, G := [(56, aak.spec), (57, yx.spec), (58, abk.spec)], globs := GLO.gB, hints := [], loops := [], inl := [] } : Ctx)
theorem loops : d9 (Tryd.f45.body.getD .skip) = [] := by kernel_rfl
noncomputable def dn : Abs.Spec := fun args K => match args with
 | [.agg [.v (.int .u64 a), .v (.int .u64 b)]] => P.lq a b (fun c => K (.fr 5 (.ints .u8 c)))
 | _ => none
noncomputable def spec : Abs.Spec := dn
theorem ok0 : Proved Tryd.prog GLO.gB 45 dn := by
 refine gq (D := D) (fn := Tryd.f45) (c := Tryd.f45.body.getD .skip) [.fr 5 (.ints .u8 [])] (by kernel_rfl) (bf (by kernel_rfl)) (by kernel_rfl) (by kernel_rfl) (by kernel_rfl) ⟨aak.ok, yx.ok, abk.ok, trivial⟩ trivial ?_ ?_
 · rw [loops]; exact trivial
 · intro args K r h
   unfold dn at h
   split at h
   · rw [P.ag5] at h; exact Eq.trans (by kernel_rfl) h
   · cases h
theorem ok : Proved Tryd.prog GLO.gB 45 spec := ok0
end lq

namespace xk
noncomputable def D : Ctx := ({ P := Tryd.prog, G := [(45, lq.spec)], globs := GLO.gB, hints := [], loops := [], inl := [] } : Ctx)
theorem loops : d9 (Tryd.f30.body.getD .skip) = [] := by kernel_rfl
noncomputable def dn : Abs.Spec := fun args K => match args with
 | [] => P.xk (fun a b => K (.agg [.fr 5 (.ints .u8 a), .fr 5 (.ints .u8 b)]))
 | _ => none
noncomputable def spec : Abs.Spec := dn
theorem ok0 : Proved Tryd.prog GLO.gB 30 dn := by
 refine gq (D := D) (fn := Tryd.f30) (c := Tryd.f30.body.getD .skip) [.agg [.fr 5 (.ints .u8 []), .fr 5 (.ints .u8 [])]] (by kernel_rfl) (bf (by kernel_rfl)) (by kernel_rfl) (by kernel_rfl) (by kernel_rfl) ⟨lq.ok, trivial⟩ trivial ?_ ?_
 · rw [loops]; exact trivial
 · intro args K r h
   unfold dn at h
   split at h
   · rw [P.akt] at h; exact Eq.trans (by kernel_rfl) h
   · cases h
theorem ok : Proved Tryd.prog GLO.gB 30 spec := ok0
end xk

namespace uy
noncomputable def D : Ctx := ({ P := Tryd.prog, G := [(10, ig.spec), (30, xk.spec)], globs := GLO.gB, hints := [], loops := [], inl := [] } : Ctx)
theorem loops : d9 (Tryd.f12.body.getD .skip) = [] := by kernel_rfl
noncomputable def dn : Abs.Spec := fun args K => match args with
 | [.v (.int .u64 h), .v (.int .u64 i)] => P.uy h i (fun a b c d f e g j => K (.tuple [.agg [.fr 5 (.ints .u8 a), .fr 5 (.ints .u8 b), .v (.int .u64 c), .v (.int .u64 d), .v (.int .u64 f), .v (.int .u64 e), .v (.bool g)], .v (.int .i64 j)]))
 | _ => none
noncomputable def spec : Abs.Spec := dn
theorem ok0 : Proved Tryd.prog GLO.gB 12 dn := by
 refine gq (D := D) (fn := Tryd.f12) (c := Tryd.f12.body.getD .skip) [.agg [.fr 5 (.ints .u8 []), .fr 5 (.ints .u8 []), .any, .any, .any, .any, .any], .any] (by kernel_rfl) (bf (by kernel_rfl)) (by kernel_rfl) (by kernel_rfl) (by kernel_rfl) ⟨ig.ok, xk.ok, trivial⟩ trivial ?_ ?_
 · rw [loops]; exact trivial
 · intro args K r h
   unfold dn at h
   split at h
   · rw [P.amo] at h; exact Eq.trans (by kernel_rfl) h
   · cases h
theorem ok : Proved Tryd.prog GLO.gB 12 spec := ok0
end uy

namespace l5
noncomputable def D : Ctx := ({ P := Tryd.prog, G := [(29, gy.spec)], globs := GLO.gB, hints := [], loops := [], inl := [] } : Ctx)
theorem loops : d9 (Tryd.f63.body.getD .skip) = [] := by kernel_rfl
noncomputable def dn : Abs.Spec := fun args K => match args with
 | [.agg [.sl (.ints .u8 a), .sl (.ints .u8 b)]] => P.l5 a b (fun c d => K (.agg [.fr 5 (.ints .u8 c), .fr 5 (.ints .u8 d)]))
 | _ => none
noncomputable def spec : Abs.Spec := fun args K => dn (p9 [.agg [.sl (.ints .u8 []), .sl (.ints .u8 [])]] args) K
theorem ok0 : Proved Tryd.prog GLO.gB 63 dn := by
 refine gq (D := D) (fn := Tryd.f63) (c := Tryd.f63.body.getD .skip) [.agg [.fr 5 (.ints .u8 []), .fr 5 (.ints .u8 [])]] (by kernel_rfl) (bf (by kernel_rfl)) (by kernel_rfl) (by kernel_rfl) (by kernel_rfl) ⟨gy.ok, trivial⟩ trivial ?_ ?_
 · rw [loops]; exact trivial
 · intro args K r h
   unfold dn at h
   split at h
   · rw [P.agv] at h; exact Eq.trans (by kernel_rfl) h
   · cases h
theorem ok : Proved Tryd.prog GLO.gB 63 spec := jd _ ok0
end l5

namespace om
noncomputable def D : Ctx := ({ P := Tryd.prog, G := [(28, dh.spec), (29, gy.spec), (63, l5.spec)], globs := GLO.gB, hints := [], loops := [], inl := [] } : Ctx)
theorem loops : d9 (Tryd.f62.body.getD .skip) = [] := by kernel_rfl
noncomputable def dn : Abs.Spec := fun args K => match args with
 | [.agg [.sl (.ints .u8 a), .sl (.ints .u8 b)], .sl (.ints .u8 e)] => P.om a b e (fun c d f g => K (.tuple [.agg [.fr 5 (.ints .u8 c), .fr 5 (.ints .u8 d)], .v (.int .i64 f), .v (.int .i64 g)]))
 | _ => none
noncomputable def spec : Abs.Spec := fun args K => dn (p9 [.agg [.sl (.ints .u8 []), .sl (.ints .u8 [])], .sl (.ints .u8 [])] args) K
theorem ok0 : Proved Tryd.prog GLO.gB 62 dn := by
 refine gq (D := D) (fn := Tryd.f62) (c := Tryd.f62.body.getD .skip) [.agg [.fr 5 (.ints .u8 []), .fr 5 (.ints .u8 [])], .any, .any] (by kernel_rfl) (bf (by kernel_rfl)) (by kernel_rfl) (by kernel_rfl) (by kernel_rfl) ⟨dh.ok, gy.ok, l5.ok, trivial⟩ trivial ?_ ?_
 · rw [loops]; exact trivial
 · intro args K r h
   unfold dn at h
   split at h
   · rw [P.ain] at h; exact Eq.trans (by kernel_rfl) h
   · cases h
theorem ok : Proved Tryd.prog GLO.gB 62 spec := jd _ ok0
end om

namespace dw
noncomputable def D : Ctx := ({ P := Tryd.prog, G := [(45, lq.spec), (62, om.spec)], globs := GLO.gB, hints := [], loops := [], inl := [] } : Ctx)
theorem loops : d9 (Tryd.f50.body.getD .skip) = [] := by kernel_rfl
noncomputable def dn : Abs.Spec := fun args K => match args with
 | [.agg [.sl (.ints .u8 c), .sl (.ints .u8 d)], .agg [.v (.int .u64 a), .v (.int .u64 b)]] => P.dw c d a b (fun e f g h => K (.tuple [.agg [.fr 5 (.ints .u8 e), .fr 5 (.ints .u8 f)], .v (.int .i64 g), .v (.int .i64 h)]))
 | _ => none
noncomputable def spec : Abs.Spec := fun args K => dn (p9 [.agg [.sl (.ints .u8 []), .sl (.ints .u8 [])], .any] args) K
theorem ok0 : Proved Tryd.prog GLO.gB 50 dn := by
 refine gq (D := D) (fn := Tryd.f50) (c := Tryd.f50.body.getD .skip) [.agg [.fr 5 (.ints .u8 []), .fr 5 (.ints .u8 [])], .any, .any] (by kernel_rfl) (bf (by kernel_rfl)) (by kernel_rfl) (by kernel_rfl) (by kernel_rfl) ⟨lq.ok, om.ok, trivial⟩ trivial ?_ ?_
 · rw [loops]; exact trivial
 · intro args K r h
   unfold dn at h
   split at h
   · rw [P.ahq] at h; exact Eq.trans (by kernel_rfl) h
   · cases h
theorem ok : Proved Tryd.prog GLO.gB 50 spec := jd _ ok0
end dw

namespace iy
noncomputable def D : Ctx := ({ P := Tryd.prog, G := [(28, dh.spec), (50, dw.spec), (62, om.spec), (63, l5.spec)], globs := GLO.gB, hints := [], loops := [], inl := [] } : Ctx)
theorem loops : d9 (Tryd.f52.body.getD .skip) = [] := by kernel_rfl
noncomputable def dn : Abs.Spec := fun args K => match args with
 | [.agg [.sl (.ints .u8 c), .sl (.ints .u8 d)], .agg [.v (.int .u64 a), .v (.int .u64 b)], .v (.int .i64 g), .sl (.ints .u8 h)] => P.iy c d a b g h (fun e f i => K (.tuple [.agg [.fr 5 (.ints .u8 e), .fr 5 (.ints .u8 f)], .v (.int .i64 i)]))
 | _ => none
noncomputable def spec : Abs.Spec := fun args K => dn (p9 [.agg [.sl (.ints .u8 []), .sl (.ints .u8 [])], .any, .any, .sl (.ints .u8 [])] args) K
theorem ok0 : Proved Tryd.prog GLO.gB 52 dn := by
 refine gq (D := D) (fn := Tryd.f52) (c := Tryd.f52.body.getD .skip) [.agg [.fr 5 (.ints .u8 []), .fr 5 (.ints .u8 [])], .any] (by kernel_rfl) (bf (by kernel_rfl)) (by kernel_rfl) (by kernel_rfl) (by kernel_rfl) ⟨dh.ok, dw.ok, om.ok, l5.ok, trivial⟩ trivial ?_ ?_
 · rw [loops]; exact trivial
 · intro args K r h
   unfold dn at h
   split at h
   · rw [P.aip] at h; exact Eq.trans (by kernel_rfl) h
   · cases h
theorem ok : Proved Tryd.prog GLO.gB 52 spec := jd _ ok0
end iy

namespace yj
noncomputable def D6 : Ctx := ({ P := Tryd.prog, G := [(10, ig.spec), (28, dh.spec), (50, dw.spec), (52, iy.spec)], globs := GLO.gB, hints := [], loops := [], inl := [] } : Ctx)
noncomputable def D5 : Ctx := ({ P := Tryd.prog, G := [(10, ig.spec), (28, dh.spec), (50, dw.spec), (52, iy.spec)], globs := GLO.gB, hints := [], loops := [], inl := [] } : Ctx)
noncomputable def D4 : Ctx := ({ P := Tryd.prog, G := [(10, ig.spec), (28, dh.spec), (50, dw.spec), (52, iy.spec)], globs := GLO.gB, hints := [], loops := [], inl := [] } : Ctx)
noncomputable def D3 : Ctx := ({ P := Tryd.prog, G := [(10, ig.spec), (28, dh.spec), (50, dw.spec), (52, iy.spec)], globs := GLO.gB, hints := [], loops := [], inl := [(49, aah D5 Tryd.f49), (40, aah D6 Tryd.f40)] } : Ctx)
noncomputable def D2 : Ctx := ({ P := Tryd.prog, G := [(10, ig.spec), (28, dh.spec), (50, dw.spec), (52, iy.spec)], globs := GLO.gB, hints := [], loops := [], inl := [(49, aah D5 Tryd.f49)] } : Ctx)
noncomputable def D1 : Ctx := ({ P := Tryd.prog, G := [(10, ig.spec), (28, dh.spec), (50, dw.spec), (52, iy.spec)], globs := GLO.gB, hints := [], loops := [], inl := [(34, aah D2 Tryd.f34)] } : Ctx)
noncomputable def D : Ctx := ({ P := Tryd.prog, G := [(10, ig.spec), (28, dh.spec), (50, dw.spec), (52, iy.spec)], globs := GLO.gB, hints := [], loops := [], inl := [(37, aah D1 Tryd.f37), (34, aah D2 Tryd.f34), (39, aah D3 Tryd.f39), (38, aah D4 Tryd.f38), (40, aah D6 Tryd.f40)] } : Ctx)
theorem loops : d9 (Tryd.f21.body.getD .skip) = [] := by kernel_rfl
theorem an9 : d9 (Tryd.f37.body.getD .skip) = [] := by kernel_rfl
theorem aqg : d9 (Tryd.f34.body.getD .skip) = [] := by kernel_rfl
theorem ayg : d9 (Tryd.f39.body.getD .skip) = [] := by kernel_rfl
theorem bfq : d9 (Tryd.f38.body.getD .skip) = [] := by kernel_rfl
theorem auh : d9 (Tryd.f49.body.getD .skip) = [] := by kernel_rfl
theorem baj : d9 (Tryd.f40.body.getD .skip) = [] := by kernel_rfl
noncomputable def dn : Abs.Spec := fun args K => match args with
 | [.agg [.sl (.ints .u8 a), .sl (.ints .u8 b), .v (.int .u64 e), .v (.int .u64 g), .v (.int .u64 k), .v (.int .u64 h), .v (.bool p)], .agg [.v (.int .i64 l), .v (.int .i64 m), .sl (.ints .u8 n)]] => P.yj a b e g k h p l m n (fun c d f i o j q r s => K (.tuple [.agg [.sl (.ints .u8 c), .sl (.ints .u8 d), .v (.int .u64 f), .v (.int .u64 i), .v (.int .u64 o), .v (.int .u64 j), .v (.bool q)], .fr 25 (.ints .u64 r), .v (.int .i64 s)]))
 | _ => none
noncomputable def spec : Abs.Spec := fun args K => dn (p9 [.agg [.sl (.ints .u8 []), .sl (.ints .u8 []), .any, .any, .any, .any, .any], .agg [.any, .any, .sl (.ints .u8 [])]] args) K
theorem ok0 : Proved Tryd.prog GLO.gB 21 dn := by
 refine gq (D := D) (fn := Tryd.f21) (c := Tryd.f21.body.getD .skip) [.agg [.sl (.ints .u8 []), .sl (.ints .u8 []), .any, .any, .any, .any, .any], .fr 25 (.ints .u64 []), .any] (by kernel_rfl) (bf (by kernel_rfl)) (by kernel_rfl) (by kernel_rfl) (by kernel_rfl) ⟨ig.ok, dh.ok, dw.ok, iy.ok, trivial⟩ ⟨adw (D := D1) (D' := D) (fn := Tryd.f37) (c := Tryd.f37.body.getD .skip) rfl rfl (by kernel_rfl) (bf (by kernel_rfl)) (by kernel_rfl) (by kernel_rfl) (by kernel_rfl) ⟨ig.ok, dh.ok, dw.ok, iy.ok, trivial⟩ ⟨adw (D := D2) (D' := D1) (fn := Tryd.f34) (c := Tryd.f34.body.getD .skip) rfl rfl (by kernel_rfl) (bf (by kernel_rfl)) (by kernel_rfl) (by kernel_rfl) (by kernel_rfl) ⟨ig.ok, dh.ok, dw.ok, iy.ok, trivial⟩ ⟨adw (D := D5) (D' := D2) (fn := Tryd.f49) (c := Tryd.f49.body.getD .skip) rfl rfl (by kernel_rfl) (bf (by kernel_rfl)) (by kernel_rfl) (by kernel_rfl) (by kernel_rfl) ⟨ig.ok, dh.ok, dw.ok, iy.ok, trivial⟩ trivial (by rw [auh]; exact trivial) (fun _ _ _ _ _ h => h), trivial⟩ (by rw [aqg]; exact trivial) (fun _ _ _ _ _ h => h), trivial⟩ (by rw [an9]; exact trivial) (fun _ _ _ _ _ h => h), adw (D := D2) (D' := D) (fn := Tryd.f34) (c := Tryd.f34.body.getD .skip) rfl rfl (by kernel_rfl) (bf (by kernel_rfl)) (by kernel_rfl) (by kernel_rfl) (by kernel_rfl) ⟨ig.ok, dh.ok, dw.ok, iy.ok, trivial⟩ ⟨adw (D := D5) (D' := D2) (fn := Tryd.f49) (c := Tryd.f49.body.getD .skip) rfl rfl (by kernel_rfl) (bf (by kernel_rfl)) (by kernel_rfl) (by kernel_rfl) (by kernel_rfl) ⟨ig.ok, dh.ok, dw.ok, iy.ok, trivial⟩ trivial (by rw [auh]; exact trivial) (fun _ _ _ _ _ h => h), trivial⟩ (by rw [aqg]; exact trivial) (fun _ _ _ _ _ h => h), adw (D := D3) (D' := D) (fn := Tryd.f39) (c := Tryd.f39.body.getD .skip) rfl rfl (by kernel_rfl) (bf (by kernel_rfl)) (by kernel_rfl) (by kernel_rfl) (by kernel_rfl) ⟨ig.ok, dh.ok, dw.ok, iy.ok, trivial⟩ ⟨adw (D := D5) (D' := D3) (fn := Tryd.f49) (c := Tryd.f49.body.getD .skip) rfl rfl (by kernel_rfl) (bf (by kernel_rfl)) (by kernel_rfl) (by kernel_rfl) (by kernel_rfl) ⟨ig.ok, dh.ok, dw.ok, iy.ok, trivial⟩ trivial (by rw [auh]; exact trivial) (fun _ _ _ _ _ h => h), adw (D := D6) (D' := D3) (fn := Tryd.f40) (c := Tryd.f40.body.getD .skip) rfl rfl (by kernel_rfl) (bf (by kernel_rfl)) (by kernel_rfl) (by kernel_rfl) (by kernel_rfl) ⟨ig.ok, dh.ok, dw.ok, iy.ok, trivial⟩ trivial (by rw [baj]; exact trivial) (fun _ _ _ _ _ h => h), trivial⟩ (by rw [ayg]; exact trivial) (fun _ _ _ _ _ h => h), adw (D := D4) (D' := D) (fn := Tryd.f38) (c := Tryd.f38.body.getD .skip) rfl rfl (by kernel_rfl) (bf (by kernel_rfl)) (by kernel_rfl) (by kernel_rfl) (by kernel_rfl) ⟨ig.ok, dh.ok, dw.ok, iy.ok, trivial⟩ trivial (by rw [bfq]; exact trivial) (fun _ _ _ _ _ h => h), adw (D := D6) (D' := D) (fn := Tryd.f40) (c := Tryd.f40.body.getD .skip) rfl rfl (by kernel_rfl) (bf (by kernel_rfl)) (by kernel_rfl) (by kernel_rfl) (by kernel_rfl) ⟨ig.ok, dh.ok, dw.ok, iy.ok, trivial⟩ trivial (by rw [baj]; exact trivial) (fun _ _ _ _ _ h => h), trivial⟩ ?_ ?_
 · rw [loops]; exact trivial
 · intro args K r h
   unfold dn at h
   split at h
   · rw [P.aoy] at h; exact Eq.trans (by kernel_rfl) h
   · cases h
theorem ok : Proved Tryd.prog GLO.gB 21 spec := jd _ ok0
end yj

namespace qg
abbrev X3 := P.bkr
def S3 : X3 → ASt := fun (a, b, c, d, q, r, s, e, f, g, h, i, j, k, l, m, n, o, p) => ⟨[(6, .own 2), (2, .ptr 0 0), (4, .ptr 1 0), (12, .sl (.cols a [.ints .i64 b, .ints .i64 c, .rows .u8 d])), (13, .v (.int .i64 q)), (14, .v (.int .i64 r))], [(2, some ⟨.row 25 (.ints .u64 s), false⟩), (0, some ⟨.box 27 [.sl (.ints .u8 e), .sl (.ints .u8 f), .v (.int .u64 g), .v (.int .u64 h), .v (.int .u64 i), .v (.int .u64 j), .v (.bool k)], false⟩), (1, some ⟨.box 27 [.v (.slice none 0 0), .v (.slice none 0 0), .v (.int .u64 l), .v (.int .u64 m), .v (.int .u64 n), .v (.int .u64 o), .v (.bool p)], false⟩)], 3, 32⟩
def V3 : ASt → Option X3
 | ⟨[(6, .own 2), (2, .ptr 0 0), (4, .ptr 1 0), (12, .sl (.cols a [.ints .i64 b, .ints .i64 c, .rows .u8 d])), (13, .v (.int .i64 q)), (14, .v (.int .i64 r))], [(2, some ⟨.row 25 (.ints .u64 s), false⟩), (0, some ⟨.box 27 [.sl (.ints .u8 e), .sl (.ints .u8 f), .v (.int .u64 g), .v (.int .u64 h), .v (.int .u64 i), .v (.int .u64 j), .v (.bool k)], false⟩), (1, some ⟨.box 27 [.v (.slice none 0 0), .v (.slice none 0 0), .v (.int .u64 l), .v (.int .u64 m), .v (.int .u64 n), .v (.int .u64 o), .v (.bool p)], false⟩)], 3, 32⟩ => some (a, b, c, d, q, r, s, e, f, g, h, i, j, k, l, m, n, o, p)
 | _ => none
theorem al3 (st) (x) (h : V3 st = some x) : st = S3 x := by
 unfold V3 at h
 split at h
 · cases h; rfl
 · cases h
abbrev Y3 := P.bpr
def E3 (K : AExit → ASt → Option R) : Y3 → Option R := (fun x => K (.exit 0) (S3 x))
noncomputable def L3 : yc := fun st K => agy (V3 st) fun x => P.boh x (E3 K)
noncomputable def D : Ctx := ({ P := Tryd.prog, G := [(21, yj.spec)], globs := GLO.gB, hints := [(3, ⟨[2, 4, 12, 13, 14], [(6, 25, .ints .u64 [])], [4, 5], [], none, [], [], []⟩)], loops := [(3, L3)], inl := [] } : Ctx)
theorem afw (K) (next) (x) : oq D (jc Tryd.f24 3) K next (S3 x) = P.bjh x (fun x => next (S3 x)) (E3 K) := by kernel_rfl
theorem ak4 : nk D (jc Tryd.f24 3) := jo S3 al3 (by kernel_rfl) P.bqu afw
theorem loops : d9 (Tryd.f24.body.getD .skip) = [jc Tryd.f24 3] := by kernel_rfl
noncomputable def dn : Abs.Spec := fun args K => match args with
 | [.agg [.sl (.ints .u8 a), .sl (.ints .u8 b), .v (.int .u64 e), .v (.int .u64 g), .v (.int .u64 k), .v (.int .u64 h), .v (.bool m)], .sl (.cols o [.ints .i64 p, .ints .i64 q, .rows .u8 r])] => P.qg a b e g k h m o p q r (fun c d f i l j n s => K (.tuple [.agg [.sl (.ints .u8 c), .sl (.ints .u8 d), .v (.int .u64 f), .v (.int .u64 i), .v (.int .u64 l), .v (.int .u64 j), .v (.bool n)], .fr 25 (.ints .u64 s)]))
 | _ => none
noncomputable def spec : Abs.Spec := fun args K => dn (p9 [.agg [.sl (.ints .u8 []), .sl (.ints .u8 []), .any, .any, .any, .any, .any], .sl (.cols 0 [.ints .i64 [], .ints .i64 [], .rows .u8 []])] args) K
theorem ok0 : Proved Tryd.prog GLO.gB 24 dn := by
 refine gq (D := D) (fn := Tryd.f24) (c := Tryd.f24.body.getD .skip) [.agg [.sl (.ints .u8 []), .sl (.ints .u8 []), .any, .any, .any, .any, .any], .fr 25 (.ints .u64 [])] (by kernel_rfl) (bf (by kernel_rfl)) (by kernel_rfl) (by kernel_rfl) (by kernel_rfl) ⟨yj.ok, trivial⟩ trivial ?_ ?_
 · rw [loops]; exact ⟨ak4, trivial⟩
 · intro args K r h
   unfold dn at h
   split at h
   · rw [P.ake] at h; exact Eq.trans (by kernel_rfl) h
   · cases h
theorem ok : Proved Tryd.prog GLO.gB 24 spec := jd _ ok0
end qg

end
