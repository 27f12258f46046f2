/-
  LeasePlays, part 15: an interpreter of my own over abstract values, the pure functions, the walks and the plain law.
-/

import Derived.Test.YtkfjafaabbmapaaDoorLeasePlaysK
import Derived.Test.YtkfjafaabbmapaaDoorLeasePlaysH
import Derived.Test.YtkfjafaabbmapaaDoorProg
import Derived.Test.YtkfjafaabbmapaaDoorLeasePlaysJ
import Derived.Test.YtkfjafaabbmapaaDoorLeasePlaysN
import Derived.KernelRfl
import Derived.Test.YtkfjafaabbmapaaDoorLeasePlaysM

section
open Go Go.Abs Go.Proofs
set_option maxRecDepth 100000
set_option maxHeartbeats 0
set_option linter.unusedVariables false

namespace abn
noncomputable def D : Ctx := ({ P := Tryd.prog, G := [(69, aem.spec), (70, aei.spec), (71, abr.spec)], globs := GLO.gB, hints := [], loops := [], inl := [] } : Ctx)
theorem loops : dh (Tryd.f58.body.getD .skip) = [] := by kernel_rfl
noncomputable def bg : Abs.Spec := fun args K => match args with
 | [.v (.int .i64 a), .sl (.ints .u8 b)] => P.abn a b (fun c d => K (.tuple [.fr 5 (.ints .u8 c), .v (.int .i64 d)]))
 | _ => none
noncomputable def spec : Abs.Spec := fun args K => bg (nk [.any, .sl (.ints .u8 [])] args) K
theorem ok0 : Proved Tryd.prog GLO.gB 58 bg := by
 refine fq (D := D) (fn := Tryd.f58) (c := Tryd.f58.body.getD .skip) [.fr 5 (.ints .u8 []), .any] (by kernel_rfl) (au (by kernel_rfl)) (by kernel_rfl) (by kernel_rfl) (by kernel_rfl) ⟨aem.ok, aei.ok, abr.ok, trivial⟩ trivial ?_ ?_
 · rw [loops]; exact trivial
 · intro args K r h
   unfold bg at h
   split at h
   · rw [P.asf] at h; exact Eq.trans (by kernel_rfl) h
   · cases h
theorem ok : Proved Tryd.prog GLO.gB 58 spec := gu _ ok0
end abn

namespace l7
noncomputable def D : Ctx := ({ P := Tryd.prog, G := [(58, abn.spec), (64, aa1.spec), (65, qj.spec)], globs := GLO.gB, hints := [], loops := [], inl := [] } : Ctx)
theorem loops : dh (Tryd.f55.body.getD .skip) = [] := by kernel_rfl
noncomputable def bg : Abs.Spec := fun args K => match args with
 | [.sl (.ints .u8 c)] => P.l7 c (fun a b d => K (.tuple [.agg [.v (.int .u64 a), .v (.int .u64 b)], .v (.bool d)]))
 | _ => none
noncomputable def spec : Abs.Spec := fun args K => bg (nk [.sl (.ints .u8 [])] args) K
theorem ok0 : Proved Tryd.prog GLO.gB 55 bg := by
 refine fq (D := D) (fn := Tryd.f55) (c := Tryd.f55.body.getD .skip) [.any, .any] (by kernel_rfl) (au (by kernel_rfl)) (by kernel_rfl) (by kernel_rfl) (by kernel_rfl) ⟨abn.ok, aa1.ok, qj.ok, trivial⟩ trivial ?_ ?_
 · rw [loops]; exact trivial
 · intro args K r h
   unfold bg at h
   split at h
   · rw [P.ai6] at h; exact Eq.trans (by kernel_rfl) h
   · cases h
theorem ok : Proved Tryd.prog GLO.gB 55 spec := gu _ ok0
end l7

namespace cu
abbrev bqz := P.bjy
def bjg : bqz → ASt := fun (a, b, i, c, d, e, f, g, h) => ⟨[(0, .yld 6 [2, 5, 6, 7] [.ptr 1 0, .ptr 2 0, .ptr 3 0, .ptr 4 0]), (7, .agg [.sl (.ints .u8 a), .sl (.ints .u8 b)]), (8, .v (.int .i64 i))], [(1, some ⟨.box 61 [.v (.int .u64 c), .v (.int .u64 d)], false⟩), (2, some ⟨.box 61 [.v (.int .u64 e), .v (.int .u64 f)], false⟩), (3, some ⟨.box 3 [.v (.int .i64 g)], false⟩), (4, some ⟨.box 33 [.v (.int .i64 h)], false⟩)], 840, 26⟩
def bnp : ASt → Option bqz
 | ⟨[(0, .yld 6 [2, 5, 6, 7] [.ptr 1 0, .ptr 2 0, .ptr 3 0, .ptr 4 0]), (7, .agg [.sl (.ints .u8 a), .sl (.ints .u8 b)]), (8, .v (.int .i64 i))], [(1, some ⟨.box 61 [.v (.int .u64 c), .v (.int .u64 d)], false⟩), (2, some ⟨.box 61 [.v (.int .u64 e), .v (.int .u64 f)], false⟩), (3, some ⟨.box 3 [.v (.int .i64 g)], false⟩), (4, some ⟨.box 33 [.v (.int .i64 h)], false⟩)], 840, 26⟩ => some (a, b, i, c, d, e, f, g, h)
 | _ => none
theorem bhp (st) (x) (h : bnp st = some x) : st = bjg x := by
 unfold bnp at h
 split at h
 · cases h; rfl
 · cases h
abbrev Y2_1 := P.bo4
def brc (K : AExit → ASt → Option R) : Y2_1 → Option R := (fun x => K (.exit 0) (bjg x))
noncomputable def L2_1 : yu := fun st K => ag3 (bnp st) fun x => P.bnz x (brc K)
noncomputable def D3 : Ctx := ({ P := Tryd.prog, G := [(55, l7.spec)], globs := GLO.gB, hints := [], loops := [], inl := [], y := some (bep (ap2 Tryd.f28 5) 29 false) } : Ctx)
noncomputable def D2 : Ctx := ({ P := Tryd.prog, G := [(55, l7.spec)], globs := GLO.gB, hints := [(1, ⟨[0, 7, 8], [], [], [], some (840, [1, 2, 3, 4]), [1, 2, 3, 4], [], []⟩)], loops := [(1, L2_1)], inl := [], y := some (bep (ap2 Tryd.f28 5) 29 true), ys := some (avo D3 (bep (ap2 Tryd.f28 5) 29 true)) } : Ctx)
noncomputable def D1 : Ctx := ({ P := Tryd.prog, G := [(55, l7.spec)], globs := GLO.gB, hints := [], loops := [], inl := [] } : Ctx)
noncomputable def D : Ctx := ({ P := Tryd.prog, G := [(55, l7.spec)], globs := GLO.gB, hints := [], loops := [], inl := [(44, aar D1 Tryd.f44)], top := true, rng := [(5, ⟨54, 29, [2, 5, 6, 7], aar D2 Tryd.f54⟩)] } : Ctx)
theorem bd2 (K) (next) (x) : oq D2 (iw Tryd.f54 1) K next (bjg x) = P.bjq x (fun x => next (bjg x)) (brc K) := by kernel_rfl
theorem bh8 : ng D2 (iw Tryd.f54 1) := jl bjg bhp (by kernel_rfl) P.brb bd2
theorem loops : dh (Tryd.f28.body.getD .skip) = [] := by kernel_rfl
theorem aph : dh (Tryd.f44.body.getD .skip) = [] := by kernel_rfl
theorem asr : dh (Tryd.f54.body.getD .skip) = [iw Tryd.f54 1] := by kernel_rfl
theorem ay2 : dh (bl5 (ap2 Tryd.f28 5)) = [] := by kernel_rfl
theorem ranges : qg (Tryd.f28.body.getD .skip) = [ap2 Tryd.f28 5] := by kernel_rfl
theorem bej : al5 D2 (avo D3 (bep (ap2 Tryd.f28 5) 29 true)) := bc7 (Y := bep (ap2 Tryd.f28 5) 29 true) (ave (D := D3) ⟨l7.ok, trivial⟩) (au (by kernel_rfl)) (au4 (D := D3) trivial (aoo rfl)) (by kernel_rfl) rfl rfl (by kernel_rfl) (by kernel_rfl) rfl rfl rfl (aiu _ (by rw [show dh (bep (ap2 Tryd.f28 5) 29 true).assign = [] from by kernel_rfl]; exact trivial)) (aiu _ (by rw [show dh (bep (ap2 Tryd.f28 5) 29 true).body = dh (bl5 (ap2 Tryd.f28 5)) from by kernel_rfl, ay2]; exact trivial))
noncomputable def bg : Abs.Spec := fun args K => match args with
 | [.agg [.sl (.ints .u8 c), .sl (.ints .u8 d)]] => P.cu c d (fun a b e f => K (.tuple [.agg [.v (.int .u64 a), .v (.int .u64 b)], .v (.int .i64 e), .v (.int .i64 f)]))
 | _ => none
noncomputable def spec : Abs.Spec := fun args K => bg (nk [.agg [.sl (.ints .u8 []), .sl (.ints .u8 [])]] args) K
theorem ok0 : Proved Tryd.prog GLO.gB 28 bg := by
 refine fq (D := D) (fn := Tryd.f28) (c := Tryd.f28.body.getD .skip) [.any, .any, .any] (by kernel_rfl) (au (by kernel_rfl)) (by kernel_rfl) (by kernel_rfl) (by kernel_rfl) ⟨l7.ok, trivial⟩ ⟨ad3 (D := D1) (D' := D) (fn := Tryd.f44) (c := Tryd.f44.body.getD .skip) rfl rfl (by kernel_rfl) (au (by kernel_rfl)) (by kernel_rfl) (by kernel_rfl) (by kernel_rfl) ⟨l7.ok, trivial⟩ trivial (by rw [aph]; exact trivial) (fun _ _ _ _ _ h => h), trivial⟩ ?_ ?_ (hRg := by rw [ranges]; exact ⟨bas (D := D) (Di := D2) (e := ⟨54, 29, [2, 5, 6, 7], aar D2 Tryd.f54⟩) (by kernel_rfl) rfl rfl (by kernel_rfl) (ad3 (D := D2) (D' := D2) (fn := Tryd.f54) (c := Tryd.f54.body.getD .skip) rfl rfl (by kernel_rfl) (au (by kernel_rfl)) (by kernel_rfl) (by kernel_rfl) (by kernel_rfl) ⟨l7.ok, trivial⟩ trivial (by rw [asr]; exact ⟨bh8, trivial⟩) (fun _ _ _ _ _ h => h) rfl rfl (an6 rfl _) (fun s hs => by have hs : some (avo D3 (bep (ap2 Tryd.f28 5) 29 true)) = some s := hs; cases hs; exact bej)), trivial⟩)
 · rw [loops]; exact trivial
 · intro args K r h
   unfold bg at h
   split at h
   · rw [P.ai9] at h; exact Eq.trans (by kernel_rfl) h
   · cases h
theorem ok : Proved Tryd.prog GLO.gB 28 spec := gu _ ok0
end cu

namespace iy
noncomputable def D : Ctx := ({ P := Tryd.prog, G := [(28, cu.spec), (29, gy.spec)], globs := GLO.gB, hints := [], loops := [], inl := [] } : Ctx)
theorem loops : dh (Tryd.f10.body.getD .skip) = [] := by kernel_rfl
noncomputable def bg : Abs.Spec := fun args K => match args with
 | [.agg [.sl (.ints .u8 h), .sl (.ints .u8 i)], .v (.int .u64 j), .v (.int .u64 k)] => P.iy h i j k (fun a b c d f e g l => K (.tuple [.agg [.fr 5 (.ints .u8 a), .fr 5 (.ints .u8 b), .v (.int .u64 c), .v (.int .u64 d), .v (.int .u64 f), .v (.int .u64 e), .v (.bool g)], .v (.int .i64 l)]))
 | _ => none
noncomputable def spec : Abs.Spec := fun args K => bg (nk [.agg [.sl (.ints .u8 []), .sl (.ints .u8 [])], .any, .any] args) K
theorem ok0 : Proved Tryd.prog GLO.gB 10 bg := by
 refine fq (D := D) (fn := Tryd.f10) (c := Tryd.f10.body.getD .skip) [.agg [.fr 5 (.ints .u8 []), .fr 5 (.ints .u8 []), .any, .any, .any, .any, .any], .any] (by kernel_rfl) (au (by kernel_rfl)) (by kernel_rfl) (by kernel_rfl) (by kernel_rfl) ⟨cu.ok, gy.ok, trivial⟩ trivial ?_ ?_
 · rw [loops]; exact trivial
 · intro args K r h
   unfold bg at h
   split at h
   · rw [P.akk] at h; exact Eq.trans (by kernel_rfl) h
   · cases h
theorem ok : Proved Tryd.prog GLO.gB 10 spec := gu _ ok0
end iy

namespace aao
noncomputable def D : Ctx := ({ P := Tryd.prog, G := [(66, jd.spec)], globs := GLO.gB, hints := [], loops := [], inl := [] } : Ctx)
theorem loops : dh (Tryd.f56.body.getD .skip) = [] := by kernel_rfl
noncomputable def bg : Abs.Spec := fun args K => match args with
 | [.sl (.rows .u8 a)] => P.aao a (fun b => K (.fr 5 (.ints .u8 b)))
 | _ => none
noncomputable def spec : Abs.Spec := fun args K => bg (nk [.sl (.rows .u8 [])] args) K
theorem ok0 : Proved Tryd.prog GLO.gB 56 bg := by
 refine fq (D := D) (fn := Tryd.f56) (c := Tryd.f56.body.getD .skip) [.fr 5 (.ints .u8 [])] (by kernel_rfl) (au (by kernel_rfl)) (by kernel_rfl) (by kernel_rfl) (by kernel_rfl) ⟨jd.ok, trivial⟩ trivial ?_ ?_
 · rw [loops]; exact trivial
 · intro args K r h
   unfold bg at h
   split at h
   · rw [P.anc] at h; exact Eq.trans (by kernel_rfl) h
   · cases h
theorem ok : Proved Tryd.prog GLO.gB 56 spec := gu _ ok0
end aao

namespace lg
noncomputable def D : Ctx := ({ P := Tryd.prog, G := [(56, aao.spec), (57, za.spec), (58, abn.spec)], globs := GLO.gB, hints := [], loops := [], inl := [] } : Ctx)
theorem loops : dh (Tryd.f45.body.getD .skip) = [] := by kernel_rfl
noncomputable def bg : Abs.Spec := fun args K => match args with
 | [.agg [.v (.int .u64 a), .v (.int .u64 b)]] => P.lg a b (fun c => K (.fr 5 (.ints .u8 c)))
 | _ => none
noncomputable def spec : Abs.Spec := bg
theorem ok0 : Proved Tryd.prog GLO.gB 45 bg := by
 refine fq (D := D) (fn := Tryd.f45) (c := Tryd.f45.body.getD .skip) [.fr 5 (.ints .u8 [])] (by kernel_rfl) (au (by kernel_rfl)) (by kernel_rfl) (by kernel_rfl) (by kernel_rfl) ⟨aao.ok, za.ok, abn.ok, trivial⟩ trivial ?_ ?_
 · rw [loops]; exact trivial
 · intro args K r h
   unfold bg at h
   split at h
   · rw [P.ah2] at h; exact Eq.trans (by kernel_rfl) h
   · cases h
theorem ok : Proved Tryd.prog GLO.gB 45 spec := ok0
end lg

namespace xw
noncomputable def D : Ctx := ({ P := Tryd.prog, G := [(45, lg.spec)], globs := GLO.gB, hints := [], loops := [], inl := [] } : Ctx)
theorem loops : dh (Tryd.f30.body.getD .skip) = [] := by kernel_rfl
noncomputable def bg : Abs.Spec := fun args K => match args with
 | [] => P.xw (fun a b => K (.agg [.fr 5 (.ints .u8 a), .fr 5 (.ints .u8 b)]))
 | _ => none
noncomputable def spec : Abs.Spec := bg
theorem ok0 : Proved Tryd.prog GLO.gB 30 bg := by
 refine fq (D := D) (fn := Tryd.f30) (c := Tryd.f30.body.getD .skip) [.agg [.fr 5 (.ints .u8 []), .fr 5 (.ints .u8 [])]] (by kernel_rfl) (au (by kernel_rfl)) (by kernel_rfl) (by kernel_rfl) (by kernel_rfl) ⟨lg.ok, trivial⟩ trivial ?_ ?_
 · rw [loops]; exact trivial
 · intro args K r h
   unfold bg at h
   split at h
   · rw [P.akr] at h; exact Eq.trans (by kernel_rfl) h
   · cases h
theorem ok : Proved Tryd.prog GLO.gB 30 spec := ok0
end xw

namespace aay
noncomputable def D : Ctx := ({ P := Tryd.prog, G := [(10, iy.spec), (30, xw.spec)], globs := GLO.gB, hints := [], loops := [], inl := [] } : Ctx)
theorem loops : dh (Tryd.f12.body.getD .skip) = [] := by kernel_rfl
noncomputable def bg : Abs.Spec := fun args K => match args with
 | [.v (.int .u64 h), .v (.int .u64 i)] => P.aay h i (fun a b c d f e g j => K (.tuple [.agg [.fr 5 (.ints .u8 a), .fr 5 (.ints .u8 b), .v (.int .u64 c), .v (.int .u64 d), .v (.int .u64 f), .v (.int .u64 e), .v (.bool g)], .v (.int .i64 j)]))
 | _ => none
noncomputable def spec : Abs.Spec := bg
theorem ok0 : Proved Tryd.prog GLO.gB 12 bg := by
 refine fq (D := D) (fn := Tryd.f12) (c := Tryd.f12.body.getD .skip) [.agg [.fr 5 (.ints .u8 []), .fr 5 (.ints .u8 []), .any, .any, .any, .any, .any], .any] (by kernel_rfl) (au (by kernel_rfl)) (by kernel_rfl) (by kernel_rfl) (by kernel_rfl) ⟨iy.ok, xw.ok, trivial⟩ trivial ?_ ?_
 · rw [loops]; exact trivial
 · intro args K r h
   unfold bg at h
   split at h
   · rw [P.am0] at h; exact Eq.trans (by kernel_rfl) h
   · cases h
theorem ok : Proved Tryd.prog GLO.gB 12 spec := ok0
end aay

namespace lu
noncomputable def D : Ctx := ({ P := Tryd.prog, G := [(29, gy.spec)], globs := GLO.gB, hints := [], loops := [], inl := [] } : Ctx)
theorem loops : dh (Tryd.f63.body.getD .skip) = [] := by kernel_rfl
noncomputable def bg : Abs.Spec := fun args K => match args with
 | [.agg [.sl (.ints .u8 a), .sl (.ints .u8 b)]] => P.lu a b (fun c d => K (.agg [.fr 5 (.ints .u8 c), .fr 5 (.ints .u8 d)]))
 | _ => none
noncomputable def spec : Abs.Spec := fun args K => bg (nk [.agg [.sl (.ints .u8 []), .sl (.ints .u8 [])]] args) K
theorem ok0 : Proved Tryd.prog GLO.gB 63 bg := by
 refine fq (D := D) (fn := Tryd.f63) (c := Tryd.f63.body.getD .skip) [.agg [.fr 5 (.ints .u8 []), .fr 5 (.ints .u8 [])]] (by kernel_rfl) (au (by kernel_rfl)) (by kernel_rfl) (by kernel_rfl) (by kernel_rfl) ⟨gy.ok, trivial⟩ trivial ?_ ?_
 · rw [loops]; exact trivial
 · intro args K r h
   unfold bg at h
   split at h
   · rw [P.ag1] at h; exact Eq.trans (by kernel_rfl) h
   · cases h
theorem ok : Proved Tryd.prog GLO.gB 63 spec := gu _ ok0
end lu

namespace om
noncomputable def D : Ctx := ({ P := Tryd.prog, G := [(28, cu.spec), (29, gy.spec), (63, lu.spec)], globs := GLO.gB, hints := [], loops := [], inl := [] } : Ctx)
theorem loops : dh (Tryd.f62.body.getD .skip) = [] := by kernel_rfl
noncomputable def bg : Abs.Spec := fun args K => match args with
 | [.agg [.sl (.ints .u8 a), .sl (.ints .u8 b)], .sl (.ints .u8 e)] => P.om a b e (fun c d f g => K (.tuple [.agg [.fr 5 (.ints .u8 c), .fr 5 (.ints .u8 d)], .v (.int .i64 f), .v (.int .i64 g)]))
 | _ => none
noncomputable def spec : Abs.Spec := fun args K => bg (nk [.agg [.sl (.ints .u8 []), .sl (.ints .u8 [])], .sl (.ints .u8 [])] args) K
theorem ok0 : Proved Tryd.prog GLO.gB 62 bg := by
 refine fq (D := D) (fn := Tryd.f62) (c := Tryd.f62.body.getD .skip) [.agg [.fr 5 (.ints .u8 []), .fr 5 (.ints .u8 [])], .any, .any] (by kernel_rfl) (au (by kernel_rfl)) (by kernel_rfl) (by kernel_rfl) (by kernel_rfl) ⟨cu.ok, gy.ok, lu.ok, trivial⟩ trivial ?_ ?_
 · rw [loops]; exact trivial
 · intro args K r h
   unfold bg at h
   split at h
   · rw [P.ai5] at h; exact Eq.trans (by kernel_rfl) h
   · cases h
theorem ok : Proved Tryd.prog GLO.gB 62 spec := gu _ ok0
end om

namespace dx
noncomputable def D : Ctx := ({ P := Tryd.prog, G := [(45, lg.spec), (62, om.spec)], globs := GLO.gB, hints := [], loops := [], inl := [] } : Ctx)
theorem loops : dh (Tryd.f50.body.getD .skip) = [] := by kernel_rfl
noncomputable def bg : Abs.Spec := fun args K => match args with
 | [.agg [.sl (.ints .u8 c), .sl (.ints .u8 d)], .agg [.v (.int .u64 a), .v (.int .u64 b)]] => P.dx c d a b (fun e f g h => K (.tuple [.agg [.fr 5 (.ints .u8 e), .fr 5 (.ints .u8 f)], .v (.int .i64 g), .v (.int .i64 h)]))
 | _ => none
noncomputable def spec : Abs.Spec := fun args K => bg (nk [.agg [.sl (.ints .u8 []), .sl (.ints .u8 [])], .any] args) K
theorem ok0 : Proved Tryd.prog GLO.gB 50 bg := by
 refine fq (D := D) (fn := Tryd.f50) (c := Tryd.f50.body.getD .skip) [.agg [.fr 5 (.ints .u8 []), .fr 5 (.ints .u8 [])], .any, .any] (by kernel_rfl) (au (by kernel_rfl)) (by kernel_rfl) (by kernel_rfl) (by kernel_rfl) ⟨lg.ok, om.ok, trivial⟩ trivial ?_ ?_
 · rw [loops]; exact trivial
 · intro args K r h
   unfold bg at h
   split at h
   · rw [P.ah1] at h; exact Eq.trans (by kernel_rfl) h
   · cases h
theorem ok : Proved Tryd.prog GLO.gB 50 spec := gu _ ok0
end dx

namespace iq
noncomputable def D : Ctx := ({ P := Tryd.prog, G := [(28, cu.spec), (50, dx.spec), (62, om.spec), (63, lu.spec)], globs := GLO.gB, hints := [], loops := [], inl := [] } : Ctx)
theorem loops : dh (Tryd.f52.body.getD .skip) = [] := by kernel_rfl
noncomputable def bg : Abs.Spec := fun args K => match args with
 | [.agg [.sl (.ints .u8 c), .sl (.ints .u8 d)], .agg [.v (.int .u64 a), .v (.int .u64 b)], .v (.int .i64 g), .sl (.ints .u8 h)] => P.iq c d a b g h (fun e f i => K (.tuple [.agg [.fr 5 (.ints .u8 e), .fr 5 (.ints .u8 f)], .v (.int .i64 i)]))
 | _ => none
noncomputable def spec : Abs.Spec := fun args K => bg (nk [.agg [.sl (.ints .u8 []), .sl (.ints .u8 [])], .any, .any, .sl (.ints .u8 [])] args) K
theorem ok0 : Proved Tryd.prog GLO.gB 52 bg := by
 refine fq (D := D) (fn := Tryd.f52) (c := Tryd.f52.body.getD .skip) [.agg [.fr 5 (.ints .u8 []), .fr 5 (.ints .u8 [])], .any] (by kernel_rfl) (au (by kernel_rfl)) (by kernel_rfl) (by kernel_rfl) (by kernel_rfl) ⟨cu.ok, dx.ok, om.ok, lu.ok, trivial⟩ trivial ?_ ?_
 · rw [loops]; exact trivial
 · intro args K r h
   unfold bg at h
   split at h
   · rw [P.ajc] at h; exact Eq.trans (by kernel_rfl) h
   · cases h
theorem ok : Proved Tryd.prog GLO.gB 52 spec := gu _ ok0
end iq

namespace aco
noncomputable def D6 : Ctx := ({ P := Tryd.prog, G := [(10, iy.spec), (28, cu.spec), (50, dx.spec), (52, iq.spec)], globs := GLO.gB, hints := [], loops := [], inl := [] } : Ctx)
noncomputable def D5 : Ctx := ({ P := Tryd.prog, G := [(10, iy.spec), (28, cu.spec), (50, dx.spec), (52, iq.spec)], globs := GLO.gB, hints := [], loops := [], inl := [] } : Ctx)
noncomputable def D4 : Ctx := ({ P := Tryd.prog, G := [(10, iy.spec), (28, cu.spec), (50, dx.spec), (52, iq.spec)], globs := GLO.gB, hints := [], loops := [], inl := [] } : Ctx)
noncomputable def D3 : Ctx := ({ P := Tryd.prog, G := [(10, iy.spec), (28, cu.spec), (50, dx.spec), (52, iq.spec)], globs := GLO.gB, hints := [], loops := [], inl := [(49, aar D5 Tryd.f49), (40, aar D6 Tryd.f40)] } : Ctx)
noncomputable def D2 : Ctx := ({ P := Tryd.prog, G := [(10, iy.spec), (28, cu.spec), (50, dx.spec), (52, iq.spec)], globs := GLO.gB, hints := [], loops := [], inl := [(49, aar D5 Tryd.f49)] } : Ctx)
noncomputable def D1 : Ctx := ({ P := Tryd.prog, G := [(10, iy.spec), (28, cu.spec), (50, dx.spec), (52, iq.spec)], globs := GLO.gB, hints := [], loops := [], inl := [(34, aar D2 Tryd.f34)] } : Ctx)
noncomputable def D : Ctx := ({ P := Tryd.prog, G := [(10, iy.spec), (28, cu.spec), (50, dx.spec), (52, iq.spec)], globs := GLO.gB, hints := [], loops := [], inl := [(37, aar D1 Tryd.f37), (34, aar D2 Tryd.f34), (39, aar D3 Tryd.f39), (38, aar D4 Tryd.f38), (40, aar D6 Tryd.f40)] } : Ctx)
theorem loops : dh (Tryd.f21.body.getD .skip) = [] := by kernel_rfl
theorem aph : dh (Tryd.f37.body.getD .skip) = [] := by kernel_rfl
theorem asr : dh (Tryd.f34.body.getD .skip) = [] := by kernel_rfl
theorem ay2 : dh (Tryd.f39.body.getD .skip) = [] := by kernel_rfl
theorem bge : dh (Tryd.f38.body.getD .skip) = [] := by kernel_rfl
theorem av0 : dh (Tryd.f49.body.getD .skip) = [] := by kernel_rfl
theorem bby : dh (Tryd.f40.body.getD .skip) = [] := by kernel_rfl
noncomputable def bg : Abs.Spec := fun args K => match args with
 | [.agg [.sl (.ints .u8 a), .sl (.ints .u8 b), .v (.int .u64 e), .v (.int .u64 g), .v (.int .u64 k), .v (.int .u64 h), .v (.bool p)], .agg [.v (.int .i64 l), .v (.int .i64 m), .sl (.ints .u8 n)]] => P.aco a b e g k h p l m n (fun c d f i o j q r s => K (.tuple [.agg [.sl (.ints .u8 c), .sl (.ints .u8 d), .v (.int .u64 f), .v (.int .u64 i), .v (.int .u64 o), .v (.int .u64 j), .v (.bool q)], .fr 25 (.ints .u64 r), .v (.int .i64 s)]))
 | _ => none
noncomputable def spec : Abs.Spec := fun args K => bg (nk [.agg [.sl (.ints .u8 []), .sl (.ints .u8 []), .any, .any, .any, .any, .any], .agg [.any, .any, .sl (.ints .u8 [])]] args) K
theorem ok0 : Proved Tryd.prog GLO.gB 21 bg := by
 refine fq (D := D) (fn := Tryd.f21) (c := Tryd.f21.body.getD .skip) [.agg [.sl (.ints .u8 []), .sl (.ints .u8 []), .any, .any, .any, .any, .any], .fr 25 (.ints .u64 []), .any] (by kernel_rfl) (au (by kernel_rfl)) (by kernel_rfl) (by kernel_rfl) (by kernel_rfl) ⟨iy.ok, cu.ok, dx.ok, iq.ok, trivial⟩ ⟨ad3 (D := D1) (D' := D) (fn := Tryd.f37) (c := Tryd.f37.body.getD .skip) rfl rfl (by kernel_rfl) (au (by kernel_rfl)) (by kernel_rfl) (by kernel_rfl) (by kernel_rfl) ⟨iy.ok, cu.ok, dx.ok, iq.ok, trivial⟩ ⟨ad3 (D := D2) (D' := D1) (fn := Tryd.f34) (c := Tryd.f34.body.getD .skip) rfl rfl (by kernel_rfl) (au (by kernel_rfl)) (by kernel_rfl) (by kernel_rfl) (by kernel_rfl) ⟨iy.ok, cu.ok, dx.ok, iq.ok, trivial⟩ ⟨ad3 (D := D5) (D' := D2) (fn := Tryd.f49) (c := Tryd.f49.body.getD .skip) rfl rfl (by kernel_rfl) (au (by kernel_rfl)) (by kernel_rfl) (by kernel_rfl) (by kernel_rfl) ⟨iy.ok, cu.ok, dx.ok, iq.ok, trivial⟩ trivial (by rw [av0]; exact trivial) (fun _ _ _ _ _ h => h), trivial⟩ (by rw [asr]; exact trivial) (fun _ _ _ _ _ h => h), trivial⟩ (by rw [aph]; exact trivial) (fun _ _ _ _ _ h => h), ad3 (D := D2) (D' := D) (fn := Tryd.f34) (c := Tryd.f34.body.getD .skip) rfl rfl (by kernel_rfl) (au (by kernel_rfl)) (by kernel_rfl) (by kernel_rfl) (by kernel_rfl) ⟨iy.ok, cu.ok, dx.ok, iq.ok, trivial⟩ ⟨ad3 (D := D5) (D' := D2) (fn := Tryd.f49) (c := Tryd.f49.body.getD .skip) rfl rfl (by kernel_rfl) (au (by kernel_rfl)) (by kernel_rfl) (by kernel_rfl) (by kernel_rfl) ⟨iy.ok, cu.ok, dx.ok, iq.ok, trivial⟩ trivial (by rw [av0]; exact trivial) (fun _ _ _ _ _ h => h), trivial⟩ (by rw [asr]; exact trivial) (fun _ _ _ _ _ h => h), ad3 (D := D3) (D' := D) (fn := Tryd.f39) (c := Tryd.f39.body.getD .skip) rfl rfl (by kernel_rfl) (au (by kernel_rfl)) (by kernel_rfl) (by kernel_rfl) (by kernel_rfl) ⟨iy.ok, cu.ok, dx.ok, iq.ok, trivial⟩ ⟨ad3 (D := D5) (D' := D3) (fn := Tryd.f49) (c := Tryd.f49.body.getD .skip) rfl rfl (by kernel_rfl) (au (by kernel_rfl)) (by kernel_rfl) (by kernel_rfl) (by kernel_rfl) ⟨iy.ok, cu.ok, dx.ok, iq.ok, trivial⟩ trivial (by rw [av0]; exact trivial) (fun _ _ _ _ _ h => h), ad3 (D := D6) (D' := D3) (fn := Tryd.f40) (c := Tryd.f40.body.getD .skip) rfl rfl (by kernel_rfl) (au (by kernel_rfl)) (by kernel_rfl) (by kernel_rfl) (by kernel_rfl) ⟨iy.ok, cu.ok, dx.ok, iq.ok, trivial⟩ trivial (by rw [bby]; exact trivial) (fun _ _ _ _ _ h => h), trivial⟩ (by rw [ay2]; exact trivial) (fun _ _ _ _ _ h => h), ad3 (D := D4) (D' := D) (fn := Tryd.f38) (c := Tryd.f38.body.getD .skip) rfl rfl (by kernel_rfl) (au (by kernel_rfl)) (by kernel_rfl) (by kernel_rfl) (by kernel_rfl) ⟨iy.ok, cu.ok, dx.ok, iq.ok, trivial⟩ trivial (by rw [bge]; exact trivial) (fun _ _ _ _ _ h => h), ad3 (D := D6) (D' := D) (fn := Tryd.f40) (c := Tryd.f40.body.getD .skip) rfl rfl (by kernel_rfl) (au (by kernel_rfl)) (by kernel_rfl) (by kernel_rfl) (by kernel_rfl) ⟨iy.ok, cu.ok, dx.ok, iq.ok, trivial⟩ trivial (by rw [bby]; exact trivial) (fun _ _ _ _ _ h => h), trivial⟩ ?_ ?_
 · rw [loops]; exact trivial
 · intro args K r h
   unfold bg at h
   split at h
   · rw [P.ao6] at h; exact Eq.trans (by kernel_rfl) h
   · cases h
theorem ok : Proved Tryd.prog GLO.gB 21 spec := gu _ ok0
end aco

namespace qd
abbrev X3 := P.bkx
def S3 : X3 → ASt := fun (a, b, c, d, q, r, s, e, f, g, h, i, j, k, l, m, n, o, p) => ⟨[(6, .own 2), (2, .ptr 0 0), (4, .ptr 1 0), (12, .sl (.cols a [.ints .i64 b, .ints .i64 c, .rows .u8 d])), (13, .v (.int .i64 q)), (14, .v (.int .i64 r))], [(2, some ⟨.row 25 (.ints .u64 s), false⟩), (0, some ⟨.box 27 [.sl (.ints .u8 e), .sl (.ints .u8 f), .v (.int .u64 g), .v (.int .u64 h), .v (.int .u64 i), .v (.int .u64 j), .v (.bool k)], false⟩), (1, some ⟨.box 27 [.v (.slice none 0 0), .v (.slice none 0 0), .v (.int .u64 l), .v (.int .u64 m), .v (.int .u64 n), .v (.int .u64 o), .v (.bool p)], false⟩)], 3, 32⟩
def V3 : ASt → Option X3
 | ⟨[(6, .own 2), (2, .ptr 0 0), (4, .ptr 1 0), (12, .sl (.cols a [.ints .i64 b, .ints .i64 c, .rows .u8 d])), (13, .v (.int .i64 q)), (14, .v (.int .i64 r))], [(2, some ⟨.row 25 (.ints .u64 s), false⟩), (0, some ⟨.box 27 [.sl (.ints .u8 e), .sl (.ints .u8 f), .v (.int .u64 g), .v (.int .u64 h), .v (.int .u64 i), .v (.int .u64 j), .v (.bool k)], false⟩), (1, some ⟨.box 27 [.v (.slice none 0 0), .v (.slice none 0 0), .v (.int .u64 l), .v (.int .u64 m), .v (.int .u64 n), .v (.int .u64 o), .v (.bool p)], false⟩)], 3, 32⟩ => some (a, b, c, d, q, r, s, e, f, g, h, i, j, k, l, m, n, o, p)
 | _ => none
theorem aj9 (st) (x) (h : V3 st = some x) : st = S3 x := by
 unfold V3 at h
 split at h
 · cases h; rfl
 · cases h
abbrev Y3 := P.bp0
def E3 (K : AExit → ASt → Option R) : Y3 → Option R := (fun x => K (.exit 0) (S3 x))
noncomputable def L3 : yu := fun st K => ag3 (V3 st) fun x => P.bp6 x (E3 K)
noncomputable def D : Ctx := ({ P := Tryd.prog, G := [(21, aco.spec)], globs := GLO.gB, hints := [(3, ⟨[2, 4, 12, 13, 14], [(6, 25, .ints .u64 [])], [4, 5], [], none, [], [], []⟩)], loops := [(3, L3)], inl := [] } : Ctx)
theorem ae7 (K) (next) (x) : oq D (iw Tryd.f24 3) K next (S3 x) = P.bkg x (fun x => next (S3 x)) (E3 K) := by kernel_rfl
theorem ajs : ng D (iw Tryd.f24 3) := jl S3 aj9 (by kernel_rfl) P.bqx ae7
theorem loops : dh (Tryd.f24.body.getD .skip) = [iw Tryd.f24 3] := by kernel_rfl
noncomputable def bg : Abs.Spec := fun args K => match args with
 | [.agg [.sl (.ints .u8 a), .sl (.ints .u8 b), .v (.int .u64 e), .v (.int .u64 g), .v (.int .u64 k), .v (.int .u64 h), .v (.bool m)], .sl (.cols o [.ints .i64 p, .ints .i64 q, .rows .u8 r])] => P.qd a b e g k h m o p q r (fun c d f i l j n s => K (.tuple [.agg [.sl (.ints .u8 c), .sl (.ints .u8 d), .v (.int .u64 f), .v (.int .u64 i), .v (.int .u64 l), .v (.int .u64 j), .v (.bool n)], .fr 25 (.ints .u64 s)]))
 | _ => none
noncomputable def spec : Abs.Spec := fun args K => bg (nk [.agg [.sl (.ints .u8 []), .sl (.ints .u8 []), .any, .any, .any, .any, .any], .sl (.cols 0 [.ints .i64 [], .ints .i64 [], .rows .u8 []])] args) K
theorem ok0 : Proved Tryd.prog GLO.gB 24 bg := by
 refine fq (D := D) (fn := Tryd.f24) (c := Tryd.f24.body.getD .skip) [.agg [.sl (.ints .u8 []), .sl (.ints .u8 []), .any, .any, .any, .any, .any], .fr 25 (.ints .u64 [])] (by kernel_rfl) (au (by kernel_rfl)) (by kernel_rfl) (by kernel_rfl) (by kernel_rfl) ⟨aco.ok, trivial⟩ trivial ?_ ?_
 · rw [loops]; exact ⟨ajs, trivial⟩
 · intro args K r h
   unfold bg at h
   split at h
   · rw [P.ala] at h; exact Eq.trans (by kernel_rfl) h
   · cases h
theorem ok : Proved Tryd.prog GLO.gB 24 spec := gu _ ok0
end qd

end
