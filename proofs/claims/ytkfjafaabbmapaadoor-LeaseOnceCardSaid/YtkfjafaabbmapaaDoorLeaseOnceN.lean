/-
  LeaseOnce, part 14: an interpreter of my own over abstract values, the pure functions, the walks and the plain law.
-/

import Derived.Test.YtkfjafaabbmapaaDoorLeaseOnceK
import Derived.Test.YtkfjafaabbmapaaDoorLeaseOnceH
import Derived.Test.YtkfjafaabbmapaaDoorProg
import Derived.Test.YtkfjafaabbmapaaDoorLeaseOnceJ
import Derived.Test.YtkfjafaabbmapaaDoorLeaseOnceM
import Derived.KernelRfl
import Derived.Test.YtkfjafaabbmapaaDoorLeaseOnceL

section
open Go Go.Abs Go.Proofs
set_option maxRecDepth 100000
set_option maxHeartbeats 0
set_option linter.unusedVariables false

namespace aa9
noncomputable def D : Ctx := ({ P := Tryd.prog, G := [(69, aea.spec), (70, adz.spec), (71, abd.spec)], globs := GLO.gB, hints := [], loops := [], inl := [] } : Ctx)
theorem loops : dn (Tryd.f58.body.getD .skip) = [] := by kernel_rfl
noncomputable def bg : Abs.Spec := fun args K => match args with
 | [.v (.int .i64 a), .sl (.ints .u8 b)] => P.aa9 a b (fun c d => K (.tuple [.fr 5 (.ints .u8 c), .v (.int .i64 d)]))
 | _ => none
noncomputable def spec : Abs.Spec := fun args K => bg (p9 [.any, .sl (.ints .u8 [])] args) K
theorem ok0 : Proved Tryd.prog GLO.gB 58 bg := by
 refine d9 (D := D) (fn := Tryd.f58) (c := Tryd.f58.body.getD .skip) [.fr 5 (.ints .u8 []), .any] (by kernel_rfl) (ak (by kernel_rfl)) (by kernel_rfl) (by kernel_rfl) (by kernel_rfl) ⟨aea.ok, adz.ok, abd.ok, trivial⟩ trivial ?_ ?_
 · rw [loops]; exact trivial
 · intro args K r h
   unfold bg at h
   split at h
   · rw [P.aq2] at h; exact Eq.trans (by kernel_rfl) h
   · cases h
theorem ok : Proved Tryd.prog GLO.gB 58 spec := iw _ ok0
end aa9

namespace lg
noncomputable def D : Ctx := ({ P := Tryd.prog, G := [(58, aa9.spec), (64, zo.spec), (65, pq.spec)], globs := GLO.gB, hints := [], loops := [], inl := [] } : Ctx)
theorem loops : dn (Tryd.f55.body.getD .skip) = [] := by kernel_rfl
noncomputable def bg : Abs.Spec := fun args K => match args with
 | [.sl (.ints .u8 c)] => P.lg c (fun a b d => K (.tuple [.agg [.v (.int .u64 a), .v (.int .u64 b)], .v (.bool d)]))
 | _ => none
noncomputable def spec : Abs.Spec := fun args K => bg (p9 [.sl (.ints .u8 [])] args) K
theorem ok0 : Proved Tryd.prog GLO.gB 55 bg := by
 refine d9 (D := D) (fn := Tryd.f55) (c := Tryd.f55.body.getD .skip) [.any, .any] (by kernel_rfl) (ak (by kernel_rfl)) (by kernel_rfl) (by kernel_rfl) (by kernel_rfl) ⟨aa9.ok, zo.ok, pq.ok, trivial⟩ trivial ?_ ?_
 · rw [loops]; exact trivial
 · intro args K r h
   unfold bg at h
   split at h
   · rw [P.ah3] at h; exact Eq.trans (by kernel_rfl) h
   · cases h
theorem ok : Proved Tryd.prog GLO.gB 55 spec := iw _ ok0
end lg

namespace bf
abbrev bpr := P.bjj
def bkf : bpr → ASt := fun (a, b, i, c, d, e, f, g, h) => ⟨[(0, .yld 6 [2, 5, 6, 7] [.ptr 1 0, .ptr 2 0, .ptr 3 0, .ptr 4 0]), (7, .agg [.sl (.ints .u8 a), .sl (.ints .u8 b)]), (8, .v (.int .i64 i))], [(1, some ⟨.box 61 [.v (.int .u64 c), .v (.int .u64 d)], false⟩), (2, some ⟨.box 61 [.v (.int .u64 e), .v (.int .u64 f)], false⟩), (3, some ⟨.box 3 [.v (.int .i64 g)], false⟩), (4, some ⟨.box 33 [.v (.int .i64 h)], false⟩)], 840, 26⟩
def bmb : ASt → Option bpr
 | ⟨[(0, .yld 6 [2, 5, 6, 7] [.ptr 1 0, .ptr 2 0, .ptr 3 0, .ptr 4 0]), (7, .agg [.sl (.ints .u8 a), .sl (.ints .u8 b)]), (8, .v (.int .i64 i))], [(1, some ⟨.box 61 [.v (.int .u64 c), .v (.int .u64 d)], false⟩), (2, some ⟨.box 61 [.v (.int .u64 e), .v (.int .u64 f)], false⟩), (3, some ⟨.box 3 [.v (.int .i64 g)], false⟩), (4, some ⟨.box 33 [.v (.int .i64 h)], false⟩)], 840, 26⟩ => some (a, b, i, c, d, e, f, g, h)
 | _ => none
theorem bf6 (st) (x) (h : bmb st = some x) : st = bkf x := by
 unfold bmb at h
 split at h
 · cases h; rfl
 · cases h
abbrev Y2_1 := P.bos
def bqc (K : AExit → ASt → Option R) : Y2_1 → Option R := (fun x => K (.exit 0) (bkf x))
noncomputable def L2_1 : w9 := fun st K => agn (bmb st) fun x => P.bly x (bqc K)
noncomputable def D3 : Ctx := ({ P := Tryd.prog, G := [(55, lg.spec)], globs := GLO.gB, hints := [], loops := [], inl := [], y := some (beb (anh Tryd.f28 5) 29 false) } : Ctx)
noncomputable def D2 : Ctx := ({ P := Tryd.prog, G := [(55, lg.spec)], globs := GLO.gB, hints := [(1, ⟨[0, 7, 8], [], [], [], some (840, [1, 2, 3, 4]), [1, 2, 3, 4], [], []⟩)], loops := [(1, L2_1)], inl := [], y := some (beb (anh Tryd.f28 5) 29 true), ys := some (auh D3 (beb (anh Tryd.f28 5) 29 true)) } : Ctx)
noncomputable def D1 : Ctx := ({ P := Tryd.prog, G := [(55, lg.spec)], globs := GLO.gB, hints := [], loops := [], inl := [] } : Ctx)
noncomputable def D : Ctx := ({ P := Tryd.prog, G := [(55, lg.spec)], globs := GLO.gB, hints := [], loops := [], inl := [(44, zx D1 Tryd.f44)], top := true, rng := [(5, ⟨54, 29, [2, 5, 6, 7], zx D2 Tryd.f54⟩)] } : Ctx)
theorem beg (K) (next) (x) : ny D2 (gu Tryd.f54 1) K next (bkf x) = P.bi0 x (fun x => next (bkf x)) (bqc K) := by kernel_rfl
theorem bfo : mo D2 (gu Tryd.f54 1) := jk bkf bf6 (by kernel_rfl) P.bp3 beg
theorem loops : dn (Tryd.f28.body.getD .skip) = [] := by kernel_rfl
theorem an2 : dn (Tryd.f44.body.getD .skip) = [] := by kernel_rfl
theorem aps : dn (Tryd.f54.body.getD .skip) = [gu Tryd.f54 1] := by kernel_rfl
theorem aye : dn (blg (anh Tryd.f28 5)) = [] := by kernel_rfl
theorem ranges : pz (Tryd.f28.body.getD .skip) = [anh Tryd.f28 5] := by kernel_rfl
theorem bdb : ak8 D2 (auh D3 (beb (anh Tryd.f28 5) 29 true)) := az5 (Y := beb (anh Tryd.f28 5) 29 true) (as0 (D := D3) ⟨lg.ok, trivial⟩) (ak (by kernel_rfl)) (au1 (D := D3) trivial (am3 rfl)) (by kernel_rfl) rfl rfl (by kernel_rfl) (by kernel_rfl) rfl rfl rfl (ahr _ (by rw [show dn (beb (anh Tryd.f28 5) 29 true).assign = [] from by kernel_rfl]; exact trivial)) (ahr _ (by rw [show dn (beb (anh Tryd.f28 5) 29 true).body = dn (blg (anh Tryd.f28 5)) from by kernel_rfl, aye]; exact trivial))
noncomputable def bg : Abs.Spec := fun args K => match args with
 | [.agg [.sl (.ints .u8 c), .sl (.ints .u8 d)]] => P.bf c d (fun a b e f => K (.tuple [.agg [.v (.int .u64 a), .v (.int .u64 b)], .v (.int .i64 e), .v (.int .i64 f)]))
 | _ => none
noncomputable def spec : Abs.Spec := fun args K => bg (p9 [.agg [.sl (.ints .u8 []), .sl (.ints .u8 [])]] args) K
theorem ok0 : Proved Tryd.prog GLO.gB 28 bg := by
 refine d9 (D := D) (fn := Tryd.f28) (c := Tryd.f28.body.getD .skip) [.any, .any, .any] (by kernel_rfl) (ak (by kernel_rfl)) (by kernel_rfl) (by kernel_rfl) (by kernel_rfl) ⟨lg.ok, trivial⟩ ⟨ado (D := D1) (D' := D) (fn := Tryd.f44) (c := Tryd.f44.body.getD .skip) rfl rfl (by kernel_rfl) (ak (by kernel_rfl)) (by kernel_rfl) (by kernel_rfl) (by kernel_rfl) ⟨lg.ok, trivial⟩ trivial (by rw [an2]; exact trivial) (fun _ _ _ _ _ h => h), trivial⟩ ?_ ?_ (hRg := by rw [ranges]; exact ⟨ayv (D := D) (Di := D2) (e := ⟨54, 29, [2, 5, 6, 7], zx D2 Tryd.f54⟩) (by kernel_rfl) rfl rfl (by kernel_rfl) (ado (D := D2) (D' := D2) (fn := Tryd.f54) (c := Tryd.f54.body.getD .skip) rfl rfl (by kernel_rfl) (ak (by kernel_rfl)) (by kernel_rfl) (by kernel_rfl) (by kernel_rfl) ⟨lg.ok, trivial⟩ trivial (by rw [aps]; exact ⟨bfo, trivial⟩) (fun _ _ _ _ _ h => h) rfl rfl (am1 rfl _) (fun s hs => by have hs : some (auh D3 (beb (anh Tryd.f28 5) 29 true)) = some s := hs; cases hs; exact bdb)), trivial⟩)
 · rw [loops]; exact trivial
 · intro args K r h
   unfold bg at h
   split at h
   · rw [P.ah8] at h; exact Eq.trans (by kernel_rfl) h
   · cases h
theorem ok : Proved Tryd.prog GLO.gB 28 spec := iw _ ok0
end bf

namespace gy
noncomputable def D : Ctx := ({ P := Tryd.prog, G := [(28, bf.spec), (29, fq.spec)], globs := GLO.gB, hints := [], loops := [], inl := [] } : Ctx)
theorem loops : dn (Tryd.f10.body.getD .skip) = [] := by kernel_rfl
noncomputable def bg : Abs.Spec := fun args K => match args with
 | [.agg [.sl (.ints .u8 h), .sl (.ints .u8 i)], .v (.int .u64 j), .v (.int .u64 k)] => P.gy h i j k (fun a b c d f e g l => K (.tuple [.agg [.fr 5 (.ints .u8 a), .fr 5 (.ints .u8 b), .v (.int .u64 c), .v (.int .u64 d), .v (.int .u64 f), .v (.int .u64 e), .v (.bool g)], .v (.int .i64 l)]))
 | _ => none
noncomputable def spec : Abs.Spec := fun args K => bg (p9 [.agg [.sl (.ints .u8 []), .sl (.ints .u8 [])], .any, .any] args) K
theorem ok0 : Proved Tryd.prog GLO.gB 10 bg := by
 refine d9 (D := D) (fn := Tryd.f10) (c := Tryd.f10.body.getD .skip) [.agg [.fr 5 (.ints .u8 []), .fr 5 (.ints .u8 []), .any, .any, .any, .any, .any], .any] (by kernel_rfl) (ak (by kernel_rfl)) (by kernel_rfl) (by kernel_rfl) (by kernel_rfl) ⟨bf.ok, fq.ok, trivial⟩ trivial ?_ ?_
 · rw [loops]; exact trivial
 · intro args K r h
   unfold bg at h
   split at h
   · rw [P.aje] at h; exact Eq.trans (by kernel_rfl) h
   · cases h
theorem ok : Proved Tryd.prog GLO.gB 10 spec := iw _ ok0
end gy

namespace aac
noncomputable def D : Ctx := ({ P := Tryd.prog, G := [(66, jc.spec)], globs := GLO.gB, hints := [], loops := [], inl := [] } : Ctx)
theorem loops : dn (Tryd.f56.body.getD .skip) = [] := by kernel_rfl
noncomputable def bg : Abs.Spec := fun args K => match args with
 | [.sl (.rows .u8 a)] => P.aac a (fun b => K (.fr 5 (.ints .u8 b)))
 | _ => none
noncomputable def spec : Abs.Spec := fun args K => bg (p9 [.sl (.rows .u8 [])] args) K
theorem ok0 : Proved Tryd.prog GLO.gB 56 bg := by
 refine d9 (D := D) (fn := Tryd.f56) (c := Tryd.f56.body.getD .skip) [.fr 5 (.ints .u8 [])] (by kernel_rfl) (ak (by kernel_rfl)) (by kernel_rfl) (by kernel_rfl) (by kernel_rfl) ⟨jc.ok, trivial⟩ trivial ?_ ?_
 · rw [loops]; exact trivial
 · intro args K r h
   unfold bg at h
   split at h
   · rw [P.al6] at h; exact Eq.trans (by kernel_rfl) h
   · cases h
theorem ok : Proved Tryd.prog GLO.gB 56 spec := iw _ ok0
end aac

namespace ko
noncomputable def D : Ctx := ({ P := Tryd.prog, G := [(56, aac.spec), (57, xk.spec), (58, aa9.spec)], globs := GLO.gB, hints := [], loops := [], inl := [] } : Ctx)
theorem loops : dn (Tryd.f45.body.getD .skip) = [] := by kernel_rfl
noncomputable def bg : Abs.Spec := fun args K => match args with
 | [.agg [.v (.int .u64 a), .v (.int .u64 b)]] => P.ko a b (fun c => K (.fr 5 (.ints .u8 c)))
 | _ => none
noncomputable def spec : Abs.Spec := bg
theorem ok0 : Proved Tryd.prog GLO.gB 45 bg := by
 refine d9 (D := D) (fn := Tryd.f45) (c := Tryd.f45.body.getD .skip) [.fr 5 (.ints .u8 [])] (by kernel_rfl) (ak (by kernel_rfl)) (by kernel_rfl) (by kernel_rfl) (by kernel_rfl) ⟨aac.ok, xk.ok, aa9.ok, trivial⟩ trivial ?_ ?_
 · rw [loops]; exact trivial
 · intro args K r h
   unfold bg at h
   split at h
   · rw [P.ahl] at h; exact Eq.trans (by kernel_rfl) h
   · cases h
theorem ok : Proved Tryd.prog GLO.gB 45 spec := ok0
end ko

namespace vk
noncomputable def D : Ctx := ({ P := Tryd.prog, G := [(45, ko.spec)], globs := GLO.gB, hints := [], loops := [], inl := [] } : Ctx)
theorem loops : dn (Tryd.f30.body.getD .skip) = [] := by kernel_rfl
noncomputable def bg : Abs.Spec := fun args K => match args with
 | [] => P.vk (fun a b => K (.agg [.fr 5 (.ints .u8 a), .fr 5 (.ints .u8 b)]))
 | _ => none
noncomputable def spec : Abs.Spec := bg
theorem ok0 : Proved Tryd.prog GLO.gB 30 bg := by
 refine d9 (D := D) (fn := Tryd.f30) (c := Tryd.f30.body.getD .skip) [.agg [.fr 5 (.ints .u8 []), .fr 5 (.ints .u8 [])]] (by kernel_rfl) (ak (by kernel_rfl)) (by kernel_rfl) (by kernel_rfl) (by kernel_rfl) ⟨ko.ok, trivial⟩ trivial ?_ ?_
 · rw [loops]; exact trivial
 · intro args K r h
   unfold bg at h
   split at h
   · rw [P.ajm] at h; exact Eq.trans (by kernel_rfl) h
   · cases h
theorem ok : Proved Tryd.prog GLO.gB 30 spec := ok0
end vk

namespace tq
noncomputable def D : Ctx := ({ P := Tryd.prog, G := [(10, gy.spec), (30, vk.spec)], globs := GLO.gB, hints := [], loops := [], inl := [] } : Ctx)
theorem loops : dn (Tryd.f12.body.getD .skip) = [] := by kernel_rfl
noncomputable def bg : Abs.Spec := fun args K => match args with
 | [.v (.int .u64 h), .v (.int .u64 i)] => P.tq h i (fun a b c d f e g j => K (.tuple [.agg [.fr 5 (.ints .u8 a), .fr 5 (.ints .u8 b), .v (.int .u64 c), .v (.int .u64 d), .v (.int .u64 f), .v (.int .u64 e), .v (.bool g)], .v (.int .i64 j)]))
 | _ => none
noncomputable def spec : Abs.Spec := bg
theorem ok0 : Proved Tryd.prog GLO.gB 12 bg := by
 refine d9 (D := D) (fn := Tryd.f12) (c := Tryd.f12.body.getD .skip) [.agg [.fr 5 (.ints .u8 []), .fr 5 (.ints .u8 []), .any, .any, .any, .any, .any], .any] (by kernel_rfl) (ak (by kernel_rfl)) (by kernel_rfl) (by kernel_rfl) (by kernel_rfl) ⟨gy.ok, vk.ok, trivial⟩ trivial ?_ ?_
 · rw [loops]; exact trivial
 · intro args K r h
   unfold bg at h
   split at h
   · rw [P.alu] at h; exact Eq.trans (by kernel_rfl) h
   · cases h
theorem ok : Proved Tryd.prog GLO.gB 12 spec := ok0
end tq

namespace ku
noncomputable def D : Ctx := ({ P := Tryd.prog, G := [(29, fq.spec)], globs := GLO.gB, hints := [], loops := [], inl := [] } : Ctx)
theorem loops : dn (Tryd.f63.body.getD .skip) = [] := by kernel_rfl
noncomputable def bg : Abs.Spec := fun args K => match args with
 | [.agg [.sl (.ints .u8 a), .sl (.ints .u8 b)]] => P.ku a b (fun c d => K (.agg [.fr 5 (.ints .u8 c), .fr 5 (.ints .u8 d)]))
 | _ => none
noncomputable def spec : Abs.Spec := fun args K => bg (p9 [.agg [.sl (.ints .u8 []), .sl (.ints .u8 [])]] args) K
theorem ok0 : Proved Tryd.prog GLO.gB 63 bg := by
 refine d9 (D := D) (fn := Tryd.f63) (c := Tryd.f63.body.getD .skip) [.agg [.fr 5 (.ints .u8 []), .fr 5 (.ints .u8 [])]] (by kernel_rfl) (ak (by kernel_rfl)) (by kernel_rfl) (by kernel_rfl) (by kernel_rfl) ⟨fq.ok, trivial⟩ trivial ?_ ?_
 · rw [loops]; exact trivial
 · intro args K r h
   unfold bg at h
   split at h
   · rw [P.aga] at h; exact Eq.trans (by kernel_rfl) h
   · cases h
theorem ok : Proved Tryd.prog GLO.gB 63 spec := iw _ ok0
end ku

namespace nu
noncomputable def D : Ctx := ({ P := Tryd.prog, G := [(28, bf.spec), (29, fq.spec), (63, ku.spec)], globs := GLO.gB, hints := [], loops := [], inl := [] } : Ctx)
theorem loops : dn (Tryd.f62.body.getD .skip) = [] := by kernel_rfl
noncomputable def bg : Abs.Spec := fun args K => match args with
 | [.agg [.sl (.ints .u8 a), .sl (.ints .u8 b)], .sl (.ints .u8 e)] => P.nu a b e (fun c d f g => K (.tuple [.agg [.fr 5 (.ints .u8 c), .fr 5 (.ints .u8 d)], .v (.int .i64 f), .v (.int .i64 g)]))
 | _ => none
noncomputable def spec : Abs.Spec := fun args K => bg (p9 [.agg [.sl (.ints .u8 []), .sl (.ints .u8 [])], .sl (.ints .u8 [])] args) K
theorem ok0 : Proved Tryd.prog GLO.gB 62 bg := by
 refine d9 (D := D) (fn := Tryd.f62) (c := Tryd.f62.body.getD .skip) [.agg [.fr 5 (.ints .u8 []), .fr 5 (.ints .u8 [])], .any, .any] (by kernel_rfl) (ak (by kernel_rfl)) (by kernel_rfl) (by kernel_rfl) (by kernel_rfl) ⟨bf.ok, fq.ok, ku.ok, trivial⟩ trivial ?_ ?_
 · rw [loops]; exact trivial
 · intro args K r h
   unfold bg at h
   split at h
   · rw [P.aia] at h; exact Eq.trans (by kernel_rfl) h
   · cases h
theorem ok : Proved Tryd.prog GLO.gB 62 spec := iw _ ok0
end nu

namespace bn
noncomputable def D : Ctx := ({ P := Tryd.prog, G := [(45, ko.spec), (62, nu.spec)], globs := GLO.gB, hints := [], loops := [], inl := [] } : Ctx)
theorem loops : dn (Tryd.f50.body.getD .skip) = [] := by kernel_rfl
noncomputable def bg : Abs.Spec := fun args K => match args with
 | [.agg [.sl (.ints .u8 c), .sl (.ints .u8 d)], .agg [.v (.int .u64 a), .v (.int .u64 b)]] => P.bn c d a b (fun e f g h => K (.tuple [.agg [.fr 5 (.ints .u8 e), .fr 5 (.ints .u8 f)], .v (.int .i64 g), .v (.int .i64 h)]))
 | _ => none
noncomputable def spec : Abs.Spec := fun args K => bg (p9 [.agg [.sl (.ints .u8 []), .sl (.ints .u8 [])], .any] args) K
theorem ok0 : Proved Tryd.prog GLO.gB 50 bg := by
 refine d9 (D := D) (fn := Tryd.f50) (c := Tryd.f50.body.getD .skip) [.agg [.fr 5 (.ints .u8 []), .fr 5 (.ints .u8 [])], .any, .any] (by kernel_rfl) (ak (by kernel_rfl)) (by kernel_rfl) (by kernel_rfl) (by kernel_rfl) ⟨ko.ok, nu.ok, trivial⟩ trivial ?_ ?_
 · rw [loops]; exact trivial
 · intro args K r h
   unfold bg at h
   split at h
   · rw [P.ahd] at h; exact Eq.trans (by kernel_rfl) h
   · cases h
theorem ok : Proved Tryd.prog GLO.gB 50 spec := iw _ ok0
end bn

namespace gq
noncomputable def D : Ctx := ({ P := Tryd.prog, G := [(28, bf.spec), (50, bn.spec), (62, nu.spec), (63, ku.spec)], globs := GLO.gB, hints := [], loops := [], inl := [] } : Ctx)
theorem loops : dn (Tryd.f52.body.getD .skip) = [] := by kernel_rfl
noncomputable def bg : Abs.Spec := fun args K => match args with
 | [.agg [.sl (.ints .u8 c), .sl (.ints .u8 d)], .agg [.v (.int .u64 a), .v (.int .u64 b)], .v (.int .i64 g), .sl (.ints .u8 h)] => P.gq c d a b g h (fun e f i => K (.tuple [.agg [.fr 5 (.ints .u8 e), .fr 5 (.ints .u8 f)], .v (.int .i64 i)]))
 | _ => none
noncomputable def spec : Abs.Spec := fun args K => bg (p9 [.agg [.sl (.ints .u8 []), .sl (.ints .u8 [])], .any, .any, .sl (.ints .u8 [])] args) K
theorem ok0 : Proved Tryd.prog GLO.gB 52 bg := by
 refine d9 (D := D) (fn := Tryd.f52) (c := Tryd.f52.body.getD .skip) [.agg [.fr 5 (.ints .u8 []), .fr 5 (.ints .u8 [])], .any] (by kernel_rfl) (ak (by kernel_rfl)) (by kernel_rfl) (by kernel_rfl) (by kernel_rfl) ⟨bf.ok, bn.ok, nu.ok, ku.ok, trivial⟩ trivial ?_ ?_
 · rw [loops]; exact trivial
 · intro args K r h
   unfold bg at h
   split at h
   · rw [P.ah9] at h; exact Eq.trans (by kernel_rfl) h
   · cases h
theorem ok : Proved Tryd.prog GLO.gB 52 spec := iw _ ok0
end gq

namespace abm
noncomputable def D6 : Ctx := ({ P := Tryd.prog, G := [(10, gy.spec), (28, bf.spec), (50, bn.spec), (52, gq.spec)], globs := GLO.gB, hints := [], loops := [], inl := [] } : Ctx)
noncomputable def D5 : Ctx := ({ P := Tryd.prog, G := [(10, gy.spec), (28, bf.spec), (50, bn.spec), (52, gq.spec)], globs := GLO.gB, hints := [], loops := [], inl := [] } : Ctx)
noncomputable def D4 : Ctx := ({ P := Tryd.prog, G := [(10, gy.spec), (28, bf.spec), (50, bn.spec), (52, gq.spec)], globs := GLO.gB, hints := [], loops := [], inl := [] } : Ctx)
noncomputable def D3 : Ctx := ({ P := Tryd.prog, G := [(10, gy.spec), (28, bf.spec), (50, bn.spec), (52, gq.spec)], globs := GLO.gB, hints := [], loops := [], inl := [(49, zx D5 Tryd.f49), (40, zx D6 Tryd.f40)] } : Ctx)
noncomputable def D2 : Ctx := ({ P := Tryd.prog, G := [(10, gy.spec), (28, bf.spec), (50, bn.spec), (52, gq.spec)], globs := GLO.gB, hints := [], loops := [], inl := [(49, zx D5 Tryd.f49)] } : Ctx)
noncomputable def D1 : Ctx := ({ P := Tryd.prog, G := [(10, gy.spec), (28, bf.spec), (50, bn.spec), (52, gq.spec)], globs := GLO.gB, hints := [], loops := [], inl := [(34, zx D2 Tryd.f34)] } : Ctx)
noncomputable def D : Ctx := ({ P := Tryd.prog, G := [(10, gy.spec), (28, bf.spec), (50, bn.spec), (52, gq.spec)], globs := GLO.gB, hints := [], loops := [], inl := [(37, zx D1 Tryd.f37), (34, zx D2 Tryd.f34), (39, zx D3 Tryd.f39), (38, zx D4 Tryd.f38), (40, zx D6 Tryd.f40)] } : Ctx)
theorem loops : dn (Tryd.f21.body.getD .skip) = [] := by kernel_rfl
theorem an2 : dn (Tryd.f37.body.getD .skip) = [] := by kernel_rfl
theorem aps : dn (Tryd.f34.body.getD .skip) = [] := by kernel_rfl
theorem aye : dn (Tryd.f39.body.getD .skip) = [] := by kernel_rfl
theorem bey : dn (Tryd.f38.body.getD .skip) = [] := by kernel_rfl
theorem avd : dn (Tryd.f49.body.getD .skip) = [] := by kernel_rfl
theorem azr : dn (Tryd.f40.body.getD .skip) = [] := by kernel_rfl
noncomputable def bg : Abs.Spec := fun args K => match args with
 | [.agg [.sl (.ints .u8 a), .sl (.ints .u8 b), .v (.int .u64 e), .v (.int .u64 g), .v (.int .u64 k), .v (.int .u64 h), .v (.bool p)], .agg [.v (.int .i64 l), .v (.int .i64 m), .sl (.ints .u8 n)]] => P.abm a b e g k h p l m n (fun c d f i o j q r s => K (.tuple [.agg [.sl (.ints .u8 c), .sl (.ints .u8 d), .v (.int .u64 f), .v (.int .u64 i), .v (.int .u64 o), .v (.int .u64 j), .v (.bool q)], .fr 25 (.ints .u64 r), .v (.int .i64 s)]))
 | _ => none
noncomputable def spec : Abs.Spec := fun args K => bg (p9 [.agg [.sl (.ints .u8 []), .sl (.ints .u8 []), .any, .any, .any, .any, .any], .agg [.any, .any, .sl (.ints .u8 [])]] args) K
theorem ok0 : Proved Tryd.prog GLO.gB 21 bg := by
 refine d9 (D := D) (fn := Tryd.f21) (c := Tryd.f21.body.getD .skip) [.agg [.sl (.ints .u8 []), .sl (.ints .u8 []), .any, .any, .any, .any, .any], .fr 25 (.ints .u64 []), .any] (by kernel_rfl) (ak (by kernel_rfl)) (by kernel_rfl) (by kernel_rfl) (by kernel_rfl) ⟨gy.ok, bf.ok, bn.ok, gq.ok, trivial⟩ ⟨ado (D := D1) (D' := D) (fn := Tryd.f37) (c := Tryd.f37.body.getD .skip) rfl rfl (by kernel_rfl) (ak (by kernel_rfl)) (by kernel_rfl) (by kernel_rfl) (by kernel_rfl) ⟨gy.ok, bf.ok, bn.ok, gq.ok, trivial⟩ ⟨ado (D := D2) (D' := D1) (fn := Tryd.f34) (c := Tryd.f34.body.getD .skip) rfl rfl (by kernel_rfl) (ak (by kernel_rfl)) (by kernel_rfl) (by kernel_rfl) (by kernel_rfl) ⟨gy.ok, bf.ok, bn.ok, gq.ok, trivial⟩ ⟨ado (D := D5) (D' := D2) (fn := Tryd.f49) (c := Tryd.f49.body.getD .skip) rfl rfl (by kernel_rfl) (ak (by kernel_rfl)) (by kernel_rfl) (by kernel_rfl) (by kernel_rfl) ⟨gy.ok, bf.ok, bn.ok, gq.ok, trivial⟩ trivial (by rw [avd]; exact trivial) (fun _ _ _ _ _ h => h), trivial⟩ (by rw [aps]; exact trivial) (fun _ _ _ _ _ h => h), trivial⟩ (by rw [an2]; exact trivial) (fun _ _ _ _ _ h => h), ado (D := D2) (D' := D) (fn := Tryd.f34) (c := Tryd.f34.body.getD .skip) rfl rfl (by kernel_rfl) (ak (by kernel_rfl)) (by kernel_rfl) (by kernel_rfl) (by kernel_rfl) ⟨gy.ok, bf.ok, bn.ok, gq.ok, trivial⟩ ⟨ado (D := D5) (D' := D2) (fn := Tryd.f49) (c := Tryd.f49.body.getD .skip) rfl rfl (by kernel_rfl) (ak (by kernel_rfl)) (by kernel_rfl) (by kernel_rfl) (by kernel_rfl) ⟨gy.ok, bf.ok, bn.ok, gq.ok, trivial⟩ trivial (by rw [avd]; exact trivial) (fun _ _ _ _ _ h => h), trivial⟩ (by rw [aps]; exact trivial) (fun _ _ _ _ _ h => h), ado (D := D3) (D' := D) (fn := Tryd.f39) (c := Tryd.f39.body.getD .skip) rfl rfl (by kernel_rfl) (ak (by kernel_rfl)) (by kernel_rfl) (by kernel_rfl) (by kernel_rfl) ⟨gy.ok, bf.ok, bn.ok, gq.ok, trivial⟩ ⟨ado (D := D5) (D' := D3) (fn := Tryd.f49) (c := Tryd.f49.body.getD .skip) rfl rfl (by kernel_rfl) (ak (by kernel_rfl)) (by kernel_rfl) (by kernel_rfl) (by kernel_rfl) ⟨gy.ok, bf.ok, bn.ok, gq.ok, trivial⟩ trivial (by rw [avd]; exact trivial) (fun _ _ _ _ _ h => h), ado (D := D6) (D' := D3) (fn := Tryd.f40) (c := Tryd.f40.body.getD .skip) rfl rfl (by kernel_rfl) (ak (by kernel_rfl)) (by kernel_rfl) (by kernel_rfl) (by kernel_rfl) ⟨gy.ok, bf.ok, bn.ok, gq.ok, trivial⟩ trivial (by rw [azr]; exact trivial) (fun _ _ _ _ _ h => h), trivial⟩ (by rw [aye]; exact trivial) (fun _ _ _ _ _ h => h), ado (D := D4) (D' := D) (fn := Tryd.f38) (c := Tryd.f38.body.getD .skip) rfl rfl (by kernel_rfl) (ak (by kernel_rfl)) (by kernel_rfl) (by kernel_rfl) (by kernel_rfl) ⟨gy.ok, bf.ok, bn.ok, gq.ok, trivial⟩ trivial (by rw [bey]; exact trivial) (fun _ _ _ _ _ h => h), ado (D := D6) (D' := D) (fn := Tryd.f40) (c := Tryd.f40.body.getD .skip) rfl rfl (by kernel_rfl) (ak (by kernel_rfl)) (by kernel_rfl) (by kernel_rfl) (by kernel_rfl) ⟨gy.ok, bf.ok, bn.ok, gq.ok, trivial⟩ trivial (by rw [azr]; exact trivial) (fun _ _ _ _ _ h => h), trivial⟩ ?_ ?_
 · rw [loops]; exact trivial
 · intro args K r h
   unfold bg at h
   split at h
   · rw [P.anf] at h; exact Eq.trans (by kernel_rfl) h
   · cases h
theorem ok : Proved Tryd.prog GLO.gB 21 spec := iw _ ok0
end abm

namespace o9
abbrev X3 := P.bjd
def S3 : X3 → ASt := fun (a, b, c, d, q, r, s, e, f, g, h, i, j, k, l, m, n, o, p) => ⟨[(6, .own 2), (2, .ptr 0 0), (4, .ptr 1 0), (12, .sl (.cols a [.ints .i64 b, .ints .i64 c, .rows .u8 d])), (13, .v (.int .i64 q)), (14, .v (.int .i64 r))], [(2, some ⟨.row 25 (.ints .u64 s), false⟩), (0, some ⟨.box 27 [.sl (.ints .u8 e), .sl (.ints .u8 f), .v (.int .u64 g), .v (.int .u64 h), .v (.int .u64 i), .v (.int .u64 j), .v (.bool k)], false⟩), (1, some ⟨.box 27 [.v (.slice none 0 0), .v (.slice none 0 0), .v (.int .u64 l), .v (.int .u64 m), .v (.int .u64 n), .v (.int .u64 o), .v (.bool p)], false⟩)], 3, 32⟩
def V3 : ASt → Option X3
 | ⟨[(6, .own 2), (2, .ptr 0 0), (4, .ptr 1 0), (12, .sl (.cols a [.ints .i64 b, .ints .i64 c, .rows .u8 d])), (13, .v (.int .i64 q)), (14, .v (.int .i64 r))], [(2, some ⟨.row 25 (.ints .u64 s), false⟩), (0, some ⟨.box 27 [.sl (.ints .u8 e), .sl (.ints .u8 f), .v (.int .u64 g), .v (.int .u64 h), .v (.int .u64 i), .v (.int .u64 j), .v (.bool k)], false⟩), (1, some ⟨.box 27 [.v (.slice none 0 0), .v (.slice none 0 0), .v (.int .u64 l), .v (.int .u64 m), .v (.int .u64 n), .v (.int .u64 o), .v (.bool p)], false⟩)], 3, 32⟩ => some (a, b, c, d, q, r, s, e, f, g, h, i, j, k, l, m, n, o, p)
 | _ => none
theorem ald (st) (x) (h : V3 st = some x) : st = S3 x := by
 unfold V3 at h
 split at h
 · cases h; rfl
 · cases h
abbrev Y3 := P.bob
def E3 (K : AExit → ASt → Option R) : Y3 → Option R := (fun x => K (.exit 0) (S3 x))
noncomputable def L3 : w9 := fun st K => agn (V3 st) fun x => P.bl7 x (E3 K)
noncomputable def D : Ctx := ({ P := Tryd.prog, G := [(21, abm.spec)], globs := GLO.gB, hints := [(3, ⟨[2, 4, 12, 13, 14], [(6, 25, .ints .u64 [])], [4, 5], [], none, [], [], []⟩)], loops := [(3, L3)], inl := [] } : Ctx)
theorem afh (K) (next) (x) : ny D (gu Tryd.f24 3) K next (S3 x) = P.bhk x (fun x => next (S3 x)) (E3 K) := by kernel_rfl
theorem alf : mo D (gu Tryd.f24 3) := jk S3 ald (by kernel_rfl) P.bp8 afh
theorem loops : dn (Tryd.f24.body.getD .skip) = [gu Tryd.f24 3] := by kernel_rfl
noncomputable def bg : Abs.Spec := fun args K => match args with
 | [.agg [.sl (.ints .u8 a), .sl (.ints .u8 b), .v (.int .u64 e), .v (.int .u64 g), .v (.int .u64 k), .v (.int .u64 h), .v (.bool m)], .sl (.cols o [.ints .i64 p, .ints .i64 q, .rows .u8 r])] => P.o9 a b e g k h m o p q r (fun c d f i l j n s => K (.tuple [.agg [.sl (.ints .u8 c), .sl (.ints .u8 d), .v (.int .u64 f), .v (.int .u64 i), .v (.int .u64 l), .v (.int .u64 j), .v (.bool n)], .fr 25 (.ints .u64 s)]))
 | _ => none
noncomputable def spec : Abs.Spec := fun args K => bg (p9 [.agg [.sl (.ints .u8 []), .sl (.ints .u8 []), .any, .any, .any, .any, .any], .sl (.cols 0 [.ints .i64 [], .ints .i64 [], .rows .u8 []])] args) K
theorem ok0 : Proved Tryd.prog GLO.gB 24 bg := by
 refine d9 (D := D) (fn := Tryd.f24) (c := Tryd.f24.body.getD .skip) [.agg [.sl (.ints .u8 []), .sl (.ints .u8 []), .any, .any, .any, .any, .any], .fr 25 (.ints .u64 [])] (by kernel_rfl) (ak (by kernel_rfl)) (by kernel_rfl) (by kernel_rfl) (by kernel_rfl) ⟨abm.ok, trivial⟩ trivial ?_ ?_
 · rw [loops]; exact ⟨alf, trivial⟩
 · intro args K r h
   unfold bg at h
   split at h
   · rw [P.ake] at h; exact Eq.trans (by kernel_rfl) h
   · cases h
theorem ok : Proved Tryd.prog GLO.gB 24 spec := iw _ ok0
end o9

end
