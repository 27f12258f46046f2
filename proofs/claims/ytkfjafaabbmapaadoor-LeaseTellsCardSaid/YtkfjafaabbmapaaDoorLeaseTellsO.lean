/-
  LeaseTells, part 15: an interpreter of my own over abstract values, the pure functions, the walks and the plain law.
-/

import Derived.Test.YtkfjafaabbmapaaDoorLeaseTellsK
import Derived.Test.YtkfjafaabbmapaaDoorLeaseTellsH
import Derived.Test.YtkfjafaabbmapaaDoorProg
import Derived.Test.YtkfjafaabbmapaaDoorLeaseTellsJ
import Derived.Test.YtkfjafaabbmapaaDoorLeaseTellsN
import Derived.KernelRfl
import Derived.Test.YtkfjafaabbmapaaDoorLeaseTellsM

section
open Go Go.Abs Go.Proofs
set_option maxRecDepth 100000
set_option maxHeartbeats 0
set_option linter.unusedVariables false

namespace acf
noncomputable def D : Ctx := ({ P := Tryd.prog, G := [(69, aex.spec), (70, ae6.spec), (71, ab9.spec)], globs := GLO.gB, hints := [], loops := [], inl := [] } : Ctx)
theorem loops : fq (Tryd.f58.body.getD .skip) = [] := by kernel_rfl
noncomputable def dx : Abs.Spec := fun args K => match args with
 | [.v (.int .i64 a), .sl (.ints .u8 b)] => P.acf a b (fun c d => K (.tuple [.fr 5 (.ints .u8 c), .v (.int .i64 d)]))
 | _ => none
noncomputable def spec : Abs.Spec := fun args K => dx (ow [.any, .sl (.ints .u8 [])] args) K
theorem ok0 : Proved Tryd.prog GLO.gB 58 dx := by
 refine gu (D := D) (fn := Tryd.f58) (c := Tryd.f58.body.getD .skip) [.fr 5 (.ints .u8 []), .any] (by kernel_rfl) (cu (by kernel_rfl)) (by kernel_rfl) (by kernel_rfl) (by kernel_rfl) ⟨aex.ok, ae6.ok, ab9.ok, trivial⟩ trivial ?_ ?_
 · rw [loops]; exact trivial
 · intro args K r h
   unfold dx at h
   split at h
   · rw [P.asb] at h; exact Eq.trans (by kernel_rfl) h
   · cases h
theorem ok : Proved Tryd.prog GLO.gB 58 spec := jc _ ok0
end acf

namespace mh
noncomputable def D : Ctx := ({ P := Tryd.prog, G := [(58, acf.spec), (64, aa3.spec), (65, rz.spec)], globs := GLO.gB, hints := [], loops := [], inl := [] } : Ctx)
theorem loops : fq (Tryd.f55.body.getD .skip) = [] := by kernel_rfl
noncomputable def dx : Abs.Spec := fun args K => match args with
 | [.sl (.ints .u8 c)] => P.mh c (fun a b d => K (.tuple [.agg [.v (.int .u64 a), .v (.int .u64 b)], .v (.bool d)]))
 | _ => none
noncomputable def spec : Abs.Spec := fun args K => dx (ow [.sl (.ints .u8 [])] args) K
theorem ok0 : Proved Tryd.prog GLO.gB 55 dx := by
 refine gu (D := D) (fn := Tryd.f55) (c := Tryd.f55.body.getD .skip) [.any, .any] (by kernel_rfl) (cu (by kernel_rfl)) (by kernel_rfl) (by kernel_rfl) (by kernel_rfl) ⟨acf.ok, aa3.ok, rz.ok, trivial⟩ trivial ?_ ?_
 · rw [loops]; exact trivial
 · intro args K r h
   unfold dx at h
   split at h
   · rw [P.ajr] at h; exact Eq.trans (by kernel_rfl) h
   · cases h
theorem ok : Proved Tryd.prog GLO.gB 55 spec := jc _ ok0
end mh

namespace dz
abbrev bry := P.blf
def bj5 : bry → ASt := fun (a, b, i, c, d, e, f, g, h) => ⟨[(0, .yld 6 [2, 5, 6, 7] [.ptr 1 0, .ptr 2 0, .ptr 3 0, .ptr 4 0]), (7, .agg [.sl (.ints .u8 a), .sl (.ints .u8 b)]), (8, .v (.int .i64 i))], [(1, some ⟨.box 61 [.v (.int .u64 c), .v (.int .u64 d)], false⟩), (2, some ⟨.box 61 [.v (.int .u64 e), .v (.int .u64 f)], false⟩), (3, some ⟨.box 3 [.v (.int .i64 g)], false⟩), (4, some ⟨.box 33 [.v (.int .i64 h)], false⟩)], 840, 26⟩
def bng : ASt → Option bry
 | ⟨[(0, .yld 6 [2, 5, 6, 7] [.ptr 1 0, .ptr 2 0, .ptr 3 0, .ptr 4 0]), (7, .agg [.sl (.ints .u8 a), .sl (.ints .u8 b)]), (8, .v (.int .i64 i))], [(1, some ⟨.box 61 [.v (.int .u64 c), .v (.int .u64 d)], false⟩), (2, some ⟨.box 61 [.v (.int .u64 e), .v (.int .u64 f)], false⟩), (3, some ⟨.box 3 [.v (.int .i64 g)], false⟩), (4, some ⟨.box 33 [.v (.int .i64 h)], false⟩)], 840, 26⟩ => some (a, b, i, c, d, e, f, g, h)
 | _ => none
theorem bhu (st) (x) (h : bng st = some x) : st = bj5 x := by
 unfold bng at h
 split at h
 · cases h; rfl
 · cases h
abbrev Y2_1 := P.bom
def brx (K : AExit → ASt → Option R) : Y2_1 → Option R := (fun x => K (.exit 0) (bj5 x))
noncomputable def L2_1 : zn := fun st K => ahn (bng st) fun x => P.boz x (brx K)
noncomputable def D3 : Ctx := ({ P := Tryd.prog, G := [(55, mh.spec)], globs := GLO.gB, hints := [], loops := [], inl := [], y := some (bf9 (aqu Tryd.f28 5) 29 false) } : Ctx)
noncomputable def D2 : Ctx := ({ P := Tryd.prog, G := [(55, mh.spec)], globs := GLO.gB, hints := [(1, ⟨[0, 7, 8], [], [], [], some (840, [1, 2, 3, 4]), [1, 2, 3, 4], [], []⟩)], loops := [(1, L2_1)], inl := [], y := some (bf9 (aqu Tryd.f28 5) 29 true), ys := some (awt D3 (bf9 (aqu Tryd.f28 5) 29 true)) } : Ctx)
noncomputable def D1 : Ctx := ({ P := Tryd.prog, G := [(55, mh.spec)], globs := GLO.gB, hints := [], loops := [], inl := [] } : Ctx)
noncomputable def D : Ctx := ({ P := Tryd.prog, G := [(55, mh.spec)], globs := GLO.gB, hints := [], loops := [], inl := [(44, yw D1 Tryd.f44)], top := true, rng := [(5, ⟨54, 29, [2, 5, 6, 7], yw D2 Tryd.f54⟩)] } : Ctx)
theorem ben (K) (next) (x) : qb D2 (jh Tryd.f54 1) K next (bj5 x) = P.bkx x (fun x => next (bj5 x)) (brx K) := by kernel_rfl
theorem bid : ou D2 (jh Tryd.f54 1) := j5 bj5 bhu (by kernel_rfl) P.bru ben
theorem loops : fq (Tryd.f28.body.getD .skip) = [] := by kernel_rfl
theorem anx : fq (Tryd.f44.body.getD .skip) = [] := by kernel_rfl
theorem an6 : fq (Tryd.f54.body.getD .skip) = [jh Tryd.f54 1] := by kernel_rfl
theorem awz : fq (bml (aqu Tryd.f28 5)) = [] := by kernel_rfl
theorem ranges : sw (Tryd.f28.body.getD .skip) = [aqu Tryd.f28 5] := by kernel_rfl
theorem bey : amx D2 (awt D3 (bf9 (aqu Tryd.f28 5) 29 true)) := bc7 (Y := bf9 (aqu Tryd.f28 5) 29 true) (awy (D := D3) ⟨mh.ok, trivial⟩) (cu (by kernel_rfl)) (awi (D := D3) trivial (aqm rfl)) (by kernel_rfl) rfl rfl (by kernel_rfl) (by kernel_rfl) rfl rfl rfl (aji _ (by rw [show fq (bf9 (aqu Tryd.f28 5) 29 true).assign = [] from by kernel_rfl]; exact trivial)) (aji _ (by rw [show fq (bf9 (aqu Tryd.f28 5) 29 true).body = fq (bml (aqu Tryd.f28 5)) from by kernel_rfl, awz]; exact trivial))
noncomputable def dx : Abs.Spec := fun args K => match args with
 | [.agg [.sl (.ints .u8 c), .sl (.ints .u8 d)]] => P.dz c d (fun a b e f => K (.tuple [.agg [.v (.int .u64 a), .v (.int .u64 b)], .v (.int .i64 e), .v (.int .i64 f)]))
 | _ => none
noncomputable def spec : Abs.Spec := fun args K => dx (ow [.agg [.sl (.ints .u8 []), .sl (.ints .u8 [])]] args) K
theorem ok0 : Proved Tryd.prog GLO.gB 28 dx := by
 refine gu (D := D) (fn := Tryd.f28) (c := Tryd.f28.body.getD .skip) [.any, .any, .any] (by kernel_rfl) (cu (by kernel_rfl)) (by kernel_rfl) (by kernel_rfl) (by kernel_rfl) ⟨mh.ok, trivial⟩ ⟨ac7 (D := D1) (D' := D) (fn := Tryd.f44) (c := Tryd.f44.body.getD .skip) rfl rfl (by kernel_rfl) (cu (by kernel_rfl)) (by kernel_rfl) (by kernel_rfl) (by kernel_rfl) ⟨mh.ok, trivial⟩ trivial (by rw [anx]; exact trivial) (fun _ _ _ _ _ h => h), trivial⟩ ?_ ?_ (hRg := by rw [ranges]; exact ⟨bao (D := D) (Di := D2) (e := ⟨54, 29, [2, 5, 6, 7], yw D2 Tryd.f54⟩) (by kernel_rfl) rfl rfl (by kernel_rfl) (ac7 (D := D2) (D' := D2) (fn := Tryd.f54) (c := Tryd.f54.body.getD .skip) rfl rfl (by kernel_rfl) (cu (by kernel_rfl)) (by kernel_rfl) (by kernel_rfl) (by kernel_rfl) ⟨mh.ok, trivial⟩ trivial (by rw [an6]; exact ⟨bid, trivial⟩) (fun _ _ _ _ _ h => h) rfl rfl (aow rfl _) (fun s hs => by have hs : some (awt D3 (bf9 (aqu Tryd.f28 5) 29 true)) = some s := hs; cases hs; exact bey)), trivial⟩)
 · rw [loops]; exact trivial
 · intro args K r h
   unfold dx at h
   split at h
   · rw [P.aju] at h; exact Eq.trans (by kernel_rfl) h
   · cases h
theorem ok : Proved Tryd.prog GLO.gB 28 spec := jc _ ok0
end dz

namespace je
noncomputable def D : Ctx := ({ P := Tryd.prog, G := [(28, dz.spec), (29, jf.spec)], globs := GLO.gB, hints := [], loops := [], inl := [] } : Ctx)
theorem loops : fq (Tryd.f10.body.getD .skip) = [] := by kernel_rfl
noncomputable def dx : Abs.Spec := fun args K => match args with
 | [.agg [.sl (.ints .u8 h), .sl (.ints .u8 i)], .v (.int .u64 j), .v (.int .u64 k)] => P.je h i j k (fun a b c d f e g l => K (.tuple [.agg [.fr 5 (.ints .u8 a), .fr 5 (.ints .u8 b), .v (.int .u64 c), .v (.int .u64 d), .v (.int .u64 f), .v (.int .u64 e), .v (.bool g)], .v (.int .i64 l)]))
 | _ => none
noncomputable def spec : Abs.Spec := fun args K => dx (ow [.agg [.sl (.ints .u8 []), .sl (.ints .u8 [])], .any, .any] args) K
theorem ok0 : Proved Tryd.prog GLO.gB 10 dx := by
 refine gu (D := D) (fn := Tryd.f10) (c := Tryd.f10.body.getD .skip) [.agg [.fr 5 (.ints .u8 []), .fr 5 (.ints .u8 []), .any, .any, .any, .any, .any], .any] (by kernel_rfl) (cu (by kernel_rfl)) (by kernel_rfl) (by kernel_rfl) (by kernel_rfl) ⟨dz.ok, jf.ok, trivial⟩ trivial ?_ ?_
 · rw [loops]; exact trivial
 · intro args K r h
   unfold dx at h
   split at h
   · rw [P.amf] at h; exact Eq.trans (by kernel_rfl) h
   · cases h
theorem ok : Proved Tryd.prog GLO.gB 10 spec := jc _ ok0
end je

namespace abd
noncomputable def D : Ctx := ({ P := Tryd.prog, G := [(66, jk.spec)], globs := GLO.gB, hints := [], loops := [], inl := [] } : Ctx)
theorem loops : fq (Tryd.f56.body.getD .skip) = [] := by kernel_rfl
noncomputable def dx : Abs.Spec := fun args K => match args with
 | [.sl (.rows .u8 a)] => P.abd a (fun b => K (.fr 5 (.ints .u8 b)))
 | _ => none
noncomputable def spec : Abs.Spec := fun args K => dx (ow [.sl (.rows .u8 [])] args) K
theorem ok0 : Proved Tryd.prog GLO.gB 56 dx := by
 refine gu (D := D) (fn := Tryd.f56) (c := Tryd.f56.body.getD .skip) [.fr 5 (.ints .u8 [])] (by kernel_rfl) (cu (by kernel_rfl)) (by kernel_rfl) (by kernel_rfl) (by kernel_rfl) ⟨jk.ok, trivial⟩ trivial ?_ ?_
 · rw [loops]; exact trivial
 · intro args K r h
   unfold dx at h
   split at h
   · rw [P.anj] at h; exact Eq.trans (by kernel_rfl) h
   · cases h
theorem ok : Proved Tryd.prog GLO.gB 56 spec := jc _ ok0
end abd

namespace l9
noncomputable def D : Ctx := ({ P := Tryd.prog, G := [(56, abd.spec), (57, aad.spec), (58, acf.spec)], globs := GLO.gB, hints := [], loops := [], inl := [] } : Ctx)
theorem loops : fq (Tryd.f45.body.getD .skip) = [] := by kernel_rfl
noncomputable def dx : Abs.Spec := fun args K => match args with
 | [.agg [.v (.int .u64 a), .v (.int .u64 b)]] => P.l9 a b (fun c => K (.fr 5 (.ints .u8 c)))
 | _ => none
noncomputable def spec : Abs.Spec := dx
theorem ok0 : Proved Tryd.prog GLO.gB 45 dx := by
 refine gu (D := D) (fn := Tryd.f45) (c := Tryd.f45.body.getD .skip) [.fr 5 (.ints .u8 [])] (by kernel_rfl) (cu (by kernel_rfl)) (by kernel_rfl) (by kernel_rfl) (by kernel_rfl) ⟨abd.ok, aad.ok, acf.ok, trivial⟩ trivial ?_ ?_
 · rw [loops]; exact trivial
 · intro args K r h
   unfold dx at h
   split at h
   · rw [P.ai4] at h; exact Eq.trans (by kernel_rfl) h
   · cases h
theorem ok : Proved Tryd.prog GLO.gB 45 spec := ok0
end l9

namespace zl
noncomputable def D : Ctx := ({ P := Tryd.prog, G := [(45, l9.spec)], globs := GLO.gB, hints := [], loops := [], inl := [] } : Ctx)
theorem loops : fq (Tryd.f30.body.getD .skip) = [] := by kernel_rfl
noncomputable def dx : Abs.Spec := fun args K => match args with
 | [] => P.zl (fun a b => K (.agg [.fr 5 (.ints .u8 a), .fr 5 (.ints .u8 b)]))
 | _ => none
noncomputable def spec : Abs.Spec := dx
theorem ok0 : Proved Tryd.prog GLO.gB 30 dx := by
 refine gu (D := D) (fn := Tryd.f30) (c := Tryd.f30.body.getD .skip) [.agg [.fr 5 (.ints .u8 []), .fr 5 (.ints .u8 [])]] (by kernel_rfl) (cu (by kernel_rfl)) (by kernel_rfl) (by kernel_rfl) (by kernel_rfl) ⟨l9.ok, trivial⟩ trivial ?_ ?_
 · rw [loops]; exact trivial
 · intro args K r h
   unfold dx at h
   split at h
   · rw [P.alc] at h; exact Eq.trans (by kernel_rfl) h
   · cases h
theorem ok : Proved Tryd.prog GLO.gB 30 spec := ok0
end zl

namespace xq
noncomputable def D : Ctx := ({ P := Tryd.prog, G := [(10, je.spec), (30, zl.spec)], globs := GLO.gB, hints := [], loops := [], inl := [] } : Ctx)
theorem loops : fq (Tryd.f12.body.getD .skip) = [] := by kernel_rfl
noncomputable def dx : Abs.Spec := fun args K => match args with
 | [.v (.int .u64 h), .v (.int .u64 i)] => P.xq h i (fun a b c d f e g j => K (.tuple [.agg [.fr 5 (.ints .u8 a), .fr 5 (.ints .u8 b), .v (.int .u64 c), .v (.int .u64 d), .v (.int .u64 f), .v (.int .u64 e), .v (.bool g)], .v (.int .i64 j)]))
 | _ => none
noncomputable def spec : Abs.Spec := dx
theorem ok0 : Proved Tryd.prog GLO.gB 12 dx := by
 refine gu (D := D) (fn := Tryd.f12) (c := Tryd.f12.body.getD .skip) [.agg [.fr 5 (.ints .u8 []), .fr 5 (.ints .u8 []), .any, .any, .any, .any, .any], .any] (by kernel_rfl) (cu (by kernel_rfl)) (by kernel_rfl) (by kernel_rfl) (by kernel_rfl) ⟨je.ok, zl.ok, trivial⟩ trivial ?_ ?_
 · rw [loops]; exact trivial
 · intro args K r h
   unfold dx at h
   split at h
   · rw [P.anp] at h; exact Eq.trans (by kernel_rfl) h
   · cases h
theorem ok : Proved Tryd.prog GLO.gB 12 spec := ok0
end xq

namespace ng
noncomputable def D : Ctx := ({ P := Tryd.prog, G := [(29, jf.spec)], globs := GLO.gB, hints := [], loops := [], inl := [] } : Ctx)
theorem loops : fq (Tryd.f63.body.getD .skip) = [] := by kernel_rfl
noncomputable def dx : Abs.Spec := fun args K => match args with
 | [.agg [.sl (.ints .u8 a), .sl (.ints .u8 b)]] => P.ng a b (fun c d => K (.agg [.fr 5 (.ints .u8 c), .fr 5 (.ints .u8 d)]))
 | _ => none
noncomputable def spec : Abs.Spec := fun args K => dx (ow [.agg [.sl (.ints .u8 []), .sl (.ints .u8 [])]] args) K
theorem ok0 : Proved Tryd.prog GLO.gB 63 dx := by
 refine gu (D := D) (fn := Tryd.f63) (c := Tryd.f63.body.getD .skip) [.agg [.fr 5 (.ints .u8 []), .fr 5 (.ints .u8 [])]] (by kernel_rfl) (cu (by kernel_rfl)) (by kernel_rfl) (by kernel_rfl) (by kernel_rfl) ⟨jf.ok, trivial⟩ trivial ?_ ?_
 · rw [loops]; exact trivial
 · intro args K r h
   unfold dx at h
   split at h
   · rw [P.aho] at h; exact Eq.trans (by kernel_rfl) h
   · cases h
theorem ok : Proved Tryd.prog GLO.gB 63 spec := jc _ ok0
end ng

namespace pz
noncomputable def D : Ctx := ({ P := Tryd.prog, G := [(28, dz.spec), (29, jf.spec), (63, ng.spec)], globs := GLO.gB, hints := [], loops := [], inl := [] } : Ctx)
theorem loops : fq (Tryd.f62.body.getD .skip) = [] := by kernel_rfl
noncomputable def dx : Abs.Spec := fun args K => match args with
 | [.agg [.sl (.ints .u8 a), .sl (.ints .u8 b)], .sl (.ints .u8 e)] => P.pz a b e (fun c d f g => K (.tuple [.agg [.fr 5 (.ints .u8 c), .fr 5 (.ints .u8 d)], .v (.int .i64 f), .v (.int .i64 g)]))
 | _ => none
noncomputable def spec : Abs.Spec := fun args K => dx (ow [.agg [.sl (.ints .u8 []), .sl (.ints .u8 [])], .sl (.ints .u8 [])] args) K
theorem ok0 : Proved Tryd.prog GLO.gB 62 dx := by
 refine gu (D := D) (fn := Tryd.f62) (c := Tryd.f62.body.getD .skip) [.agg [.fr 5 (.ints .u8 []), .fr 5 (.ints .u8 [])], .any, .any] (by kernel_rfl) (cu (by kernel_rfl)) (by kernel_rfl) (by kernel_rfl) (by kernel_rfl) ⟨dz.ok, jf.ok, ng.ok, trivial⟩ trivial ?_ ?_
 · rw [loops]; exact trivial
 · intro args K r h
   unfold dx at h
   split at h
   · rw [P.ajq] at h; exact Eq.trans (by kernel_rfl) h
   · cases h
theorem ok : Proved Tryd.prog GLO.gB 62 spec := jc _ ok0
end pz

namespace eu
noncomputable def D : Ctx := ({ P := Tryd.prog, G := [(45, l9.spec), (62, pz.spec)], globs := GLO.gB, hints := [], loops := [], inl := [] } : Ctx)
theorem loops : fq (Tryd.f50.body.getD .skip) = [] := by kernel_rfl
noncomputable def dx : Abs.Spec := fun args K => match args with
 | [.agg [.sl (.ints .u8 c), .sl (.ints .u8 d)], .agg [.v (.int .u64 a), .v (.int .u64 b)]] => P.eu c d a b (fun e f g h => K (.tuple [.agg [.fr 5 (.ints .u8 e), .fr 5 (.ints .u8 f)], .v (.int .i64 g), .v (.int .i64 h)]))
 | _ => none
noncomputable def spec : Abs.Spec := fun args K => dx (ow [.agg [.sl (.ints .u8 []), .sl (.ints .u8 [])], .any] args) K
theorem ok0 : Proved Tryd.prog GLO.gB 50 dx := by
 refine gu (D := D) (fn := Tryd.f50) (c := Tryd.f50.body.getD .skip) [.agg [.fr 5 (.ints .u8 []), .fr 5 (.ints .u8 [])], .any, .any] (by kernel_rfl) (cu (by kernel_rfl)) (by kernel_rfl) (by kernel_rfl) (by kernel_rfl) ⟨l9.ok, pz.ok, trivial⟩ trivial ?_ ?_
 · rw [loops]; exact trivial
 · intro args K r h
   unfold dx at h
   split at h
   · rw [P.aix] at h; exact Eq.trans (by kernel_rfl) h
   · cases h
theorem ok : Proved Tryd.prog GLO.gB 50 spec := jc _ ok0
end eu

namespace jd
noncomputable def D : Ctx := ({ P := Tryd.prog, G := [(28, dz.spec), (50, eu.spec), (62, pz.spec), (63, ng.spec)], globs := GLO.gB, hints := [], loops := [], inl := [] } : Ctx)
theorem loops : fq (Tryd.f52.body.getD .skip) = [] := by kernel_rfl
noncomputable def dx : Abs.Spec := fun args K => match args with
 | [.agg [.sl (.ints .u8 c), .sl (.ints .u8 d)], .agg [.v (.int .u64 a), .v (.int .u64 b)], .v (.int .i64 g), .sl (.ints .u8 h)] => P.jd c d a b g h (fun e f i => K (.tuple [.agg [.fr 5 (.ints .u8 e), .fr 5 (.ints .u8 f)], .v (.int .i64 i)]))
 | _ => none
noncomputable def spec : Abs.Spec := fun args K => dx (ow [.agg [.sl (.ints .u8 []), .sl (.ints .u8 [])], .any, .any, .sl (.ints .u8 [])] args) K
theorem ok0 : Proved Tryd.prog GLO.gB 52 dx := by
 refine gu (D := D) (fn := Tryd.f52) (c := Tryd.f52.body.getD .skip) [.agg [.fr 5 (.ints .u8 []), .fr 5 (.ints .u8 [])], .any] (by kernel_rfl) (cu (by kernel_rfl)) (by kernel_rfl) (by kernel_rfl) (by kernel_rfl) ⟨dz.ok, eu.ok, pz.ok, ng.ok, trivial⟩ trivial ?_ ?_
 · rw [loops]; exact trivial
 · intro args K r h
   unfold dx at h
   split at h
   · rw [P.ajw] at h; exact Eq.trans (by kernel_rfl) h
   · cases h
theorem ok : Proved Tryd.prog GLO.gB 52 spec := jc _ ok0
end jd

namespace zq
noncomputable def D6 : Ctx := ({ P := Tryd.prog, G := [(10, je.spec), (28, dz.spec), (50, eu.spec), (52, jd.spec)], globs := GLO.gB, hints := [], loops := [], inl := [] } : Ctx)
noncomputable def D5 : Ctx := ({ P := Tryd.prog, G := [(10, je.spec), (28, dz.spec), (50, eu.spec), (52, jd.spec)], globs := GLO.gB, hints := [], loops := [], inl := [] } : Ctx)
noncomputable def D4 : Ctx := ({ P := Tryd.prog, G := [(10, je.spec), (28, dz.spec), (50, eu.spec), (52, jd.spec)], globs := GLO.gB, hints := [], loops := [], inl := [] } : Ctx)
noncomputable def D3 : Ctx := ({ P := Tryd.prog, G := [(10, je.spec), (28, dz.spec), (50, eu.spec), (52, jd.spec)], globs := GLO.gB, hints := [], loops := [], inl := [(49, yw D5 Tryd.f49), (40, yw D6 Tryd.f40)] } : Ctx)
noncomputable def D2 : Ctx := ({ P := Tryd.prog, G := [(10, je.spec), (28, dz.spec), (50, eu.spec), (52, jd.spec)], globs := GLO.gB, hints := [], loops := [], inl := [(49, yw D5 Tryd.f49)] } : Ctx)
noncomputable def D1 : Ctx := ({ P := Tryd.prog, G := [(10, je.spec), (28, dz.spec), (50, eu.spec), (52, jd.spec)], globs := GLO.gB, hints := [], loops := [], inl := [(34, yw D2 Tryd.f34)] } : Ctx)
noncomputable def D : Ctx := ({ P := Tryd.prog, G := [(10, je.spec), (28, dz.spec), (50, eu.spec), (52, jd.spec)], globs := GLO.gB, hints := [], loops := [], inl := [(37, yw D1 Tryd.f37), (34, yw D2 Tryd.f34), (39, yw D3 Tryd.f39), (38, yw D4 Tryd.f38), (40, yw D6 Tryd.f40)] } : Ctx)
theorem loops : fq (Tryd.f21.body.getD .skip) = [] := by kernel_rfl
theorem anx : fq (Tryd.f37.body.getD .skip) = [] := by kernel_rfl
theorem an6 : fq (Tryd.f34.body.getD .skip) = [] := by kernel_rfl
theorem awz : fq (Tryd.f39.body.getD .skip) = [] := by kernel_rfl
theorem bdi : fq (Tryd.f38.body.getD .skip) = [] := by kernel_rfl
theorem aoz : fq (Tryd.f49.body.getD .skip) = [] := by kernel_rfl
theorem ayx : fq (Tryd.f40.body.getD .skip) = [] := by kernel_rfl
noncomputable def dx : Abs.Spec := fun args K => match args with
 | [.agg [.sl (.ints .u8 a), .sl (.ints .u8 b), .v (.int .u64 e), .v (.int .u64 g), .v (.int .u64 k), .v (.int .u64 h), .v (.bool p)], .agg [.v (.int .i64 l), .v (.int .i64 m), .sl (.ints .u8 n)]] => P.zq a b e g k h p l m n (fun c d f i o j q r s => K (.tuple [.agg [.sl (.ints .u8 c), .sl (.ints .u8 d), .v (.int .u64 f), .v (.int .u64 i), .v (.int .u64 o), .v (.int .u64 j), .v (.bool q)], .fr 25 (.ints .u64 r), .v (.int .i64 s)]))
 | _ => none
noncomputable def spec : Abs.Spec := fun args K => dx (ow [.agg [.sl (.ints .u8 []), .sl (.ints .u8 []), .any, .any, .any, .any, .any], .agg [.any, .any, .sl (.ints .u8 [])]] args) K
theorem ok0 : Proved Tryd.prog GLO.gB 21 dx := by
 refine gu (D := D) (fn := Tryd.f21) (c := Tryd.f21.body.getD .skip) [.agg [.sl (.ints .u8 []), .sl (.ints .u8 []), .any, .any, .any, .any, .any], .fr 25 (.ints .u64 []), .any] (by kernel_rfl) (cu (by kernel_rfl)) (by kernel_rfl) (by kernel_rfl) (by kernel_rfl) ⟨je.ok, dz.ok, eu.ok, jd.ok, trivial⟩ ⟨ac7 (D := D1) (D' := D) (fn := Tryd.f37) (c := Tryd.f37.body.getD .skip) rfl rfl (by kernel_rfl) (cu (by kernel_rfl)) (by kernel_rfl) (by kernel_rfl) (by kernel_rfl) ⟨je.ok, dz.ok, eu.ok, jd.ok, trivial⟩ ⟨ac7 (D := D2) (D' := D1) (fn := Tryd.f34) (c := Tryd.f34.body.getD .skip) rfl rfl (by kernel_rfl) (cu (by kernel_rfl)) (by kernel_rfl) (by kernel_rfl) (by kernel_rfl) ⟨je.ok, dz.ok, eu.ok, jd.ok, trivial⟩ ⟨ac7 (D := D5) (D' := D2) (fn := Tryd.f49) (c := Tryd.f49.body.getD .skip) rfl rfl (by kernel_rfl) (cu (by kernel_rfl)) (by kernel_rfl) (by kernel_rfl) (by kernel_rfl) ⟨je.ok, dz.ok, eu.ok, jd.ok, trivial⟩ trivial (by rw [aoz]; exact trivial) (fun _ _ _ _ _ h => h), trivial⟩ (by rw [an6]; exact trivial) (fun _ _ _ _ _ h => h), trivial⟩ (by rw [anx]; exact trivial) (fun _ _ _ _ _ h => h), ac7 (D := D2) (D' := D) (fn := Tryd.f34) (c := Tryd.f34.body.getD .skip) rfl rfl (by kernel_rfl) (cu (by kernel_rfl)) (by kernel_rfl) (by kernel_rfl) (by kernel_rfl) ⟨je.ok, dz.ok, eu.ok, jd.ok, trivial⟩ ⟨ac7 (D := D5) (D' := D2) (fn := Tryd.f49) (c := Tryd.f49.body.getD .skip) rfl rfl (by kernel_rfl) (cu (by kernel_rfl)) (by kernel_rfl) (by kernel_rfl) (by kernel_rfl) ⟨je.ok, dz.ok, eu.ok, jd.ok, trivial⟩ trivial (by rw [aoz]; exact trivial) (fun _ _ _ _ _ h => h), trivial⟩ (by rw [an6]; exact trivial) (fun _ _ _ _ _ h => h), ac7 (D := D3) (D' := D) (fn := Tryd.f39) (c := Tryd.f39.body.getD .skip) rfl rfl (by kernel_rfl) (cu (by kernel_rfl)) (by kernel_rfl) (by kernel_rfl) (by kernel_rfl) ⟨je.ok, dz.ok, eu.ok, jd.ok, trivial⟩ ⟨ac7 (D := D5) (D' := D3) (fn := Tryd.f49) (c := Tryd.f49.body.getD .skip) rfl rfl (by kernel_rfl) (cu (by kernel_rfl)) (by kernel_rfl) (by kernel_rfl) (by kernel_rfl) ⟨je.ok, dz.ok, eu.ok, jd.ok, trivial⟩ trivial (by rw [aoz]; exact trivial) (fun _ _ _ _ _ h => h), ac7 (D := D6) (D' := D3) (fn := Tryd.f40) (c := Tryd.f40.body.getD .skip) rfl rfl (by kernel_rfl) (cu (by kernel_rfl)) (by kernel_rfl) (by kernel_rfl) (by kernel_rfl) ⟨je.ok, dz.ok, eu.ok, jd.ok, trivial⟩ trivial (by rw [ayx]; exact trivial) (fun _ _ _ _ _ h => h), trivial⟩ (by rw [awz]; exact trivial) (fun _ _ _ _ _ h => h), ac7 (D := D4) (D' := D) (fn := Tryd.f38) (c := Tryd.f38.body.getD .skip) rfl rfl (by kernel_rfl) (cu (by kernel_rfl)) (by kernel_rfl) (by kernel_rfl) (by kernel_rfl) ⟨je.ok, dz.ok, eu.ok, jd.ok, trivial⟩ trivial (by rw [bdi]; exact trivial) (fun _ _ _ _ _ h => h), ac7 (D := D6) (D' := D) (fn := Tryd.f40) (c := Tryd.f40.body.getD .skip) rfl rfl (by kernel_rfl) (cu (by kernel_rfl)) (by kernel_rfl) (by kernel_rfl) (by kernel_rfl) ⟨je.ok, dz.ok, eu.ok, jd.ok, trivial⟩ trivial (by rw [ayx]; exact trivial) (fun _ _ _ _ _ h => h), trivial⟩ ?_ ?_
 · rw [loops]; exact trivial
 · intro args K r h
   unfold dx at h
   split at h
   · rw [P.aq3] at h; exact Eq.trans (by kernel_rfl) h
   · cases h
theorem ok : Proved Tryd.prog GLO.gB 21 spec := jc _ ok0
end zq

namespace zk
abbrev X3 := P.bl0
def S3 : X3 → ASt := fun (a, b, c, d, q, r, s, e, f, g, h, i, j, k, l, m, n, o, p) => ⟨[(6, .own 2), (2, .ptr 0 0), (4, .ptr 1 0), (12, .sl (.cols a [.ints .i64 b, .ints .i64 c, .rows .u8 d])), (13, .v (.int .i64 q)), (14, .v (.int .i64 r))], [(2, some ⟨.row 25 (.ints .u64 s), false⟩), (0, some ⟨.box 27 [.sl (.ints .u8 e), .sl (.ints .u8 f), .v (.int .u64 g), .v (.int .u64 h), .v (.int .u64 i), .v (.int .u64 j), .v (.bool k)], false⟩), (1, some ⟨.box 27 [.v (.slice none 0 0), .v (.slice none 0 0), .v (.int .u64 l), .v (.int .u64 m), .v (.int .u64 n), .v (.int .u64 o), .v (.bool p)], false⟩)], 3, 32⟩
def V3 : ASt → Option X3
 | ⟨[(6, .own 2), (2, .ptr 0 0), (4, .ptr 1 0), (12, .sl (.cols a [.ints .i64 b, .ints .i64 c, .rows .u8 d])), (13, .v (.int .i64 q)), (14, .v (.int .i64 r))], [(2, some ⟨.row 25 (.ints .u64 s), false⟩), (0, some ⟨.box 27 [.sl (.ints .u8 e), .sl (.ints .u8 f), .v (.int .u64 g), .v (.int .u64 h), .v (.int .u64 i), .v (.int .u64 j), .v (.bool k)], false⟩), (1, some ⟨.box 27 [.v (.slice none 0 0), .v (.slice none 0 0), .v (.int .u64 l), .v (.int .u64 m), .v (.int .u64 n), .v (.int .u64 o), .v (.bool p)], false⟩)], 3, 32⟩ => some (a, b, c, d, q, r, s, e, f, g, h, i, j, k, l, m, n, o, p)
 | _ => none
theorem amo (st) (x) (h : V3 st = some x) : st = S3 x := by
 unfold V3 at h
 split at h
 · cases h; rfl
 · cases h
abbrev Y3 := P.bpj
def E3 (K : AExit → ASt → Option R) : Y3 → Option R := (fun x => K (.exit 0) (S3 x))
noncomputable def L3 : zn := fun st K => ahn (V3 st) fun x => P.bnx x (E3 K)
noncomputable def D : Ctx := ({ P := Tryd.prog, G := [(21, zq.spec)], globs := GLO.gB, hints := [(3, ⟨[2, 4, 12, 13, 14], [(6, 25, .ints .u64 [])], [4, 5], [], none, [], [], []⟩)], loops := [(3, L3)], inl := [] } : Ctx)
theorem agu (K) (next) (x) : qb D (jh Tryd.f24 3) K next (S3 x) = P.bk7 x (fun x => next (S3 x)) (E3 K) := by kernel_rfl
theorem amr : ou D (jh Tryd.f24 3) := j5 S3 amo (by kernel_rfl) P.bq4 agu
theorem loops : fq (Tryd.f24.body.getD .skip) = [jh Tryd.f24 3] := by kernel_rfl
noncomputable def dx : Abs.Spec := fun args K => match args with
 | [.agg [.sl (.ints .u8 a), .sl (.ints .u8 b), .v (.int .u64 e), .v (.int .u64 g), .v (.int .u64 k), .v (.int .u64 h), .v (.bool m)], .sl (.cols o [.ints .i64 p, .ints .i64 q, .rows .u8 r])] => P.zk a b e g k h m o p q r (fun c d f i l j n s => K (.tuple [.agg [.sl (.ints .u8 c), .sl (.ints .u8 d), .v (.int .u64 f), .v (.int .u64 i), .v (.int .u64 l), .v (.int .u64 j), .v (.bool n)], .fr 25 (.ints .u64 s)]))
 | _ => none
noncomputable def spec : Abs.Spec := fun args K => dx (ow [.agg [.sl (.ints .u8 []), .sl (.ints .u8 []), .any, .any, .any, .any, .any], .sl (.cols 0 [.ints .i64 [], .ints .i64 [], .rows .u8 []])] args) K
theorem ok0 : Proved Tryd.prog GLO.gB 24 dx := by
 refine gu (D := D) (fn := Tryd.f24) (c := Tryd.f24.body.getD .skip) [.agg [.sl (.ints .u8 []), .sl (.ints .u8 []), .any, .any, .any, .any, .any], .fr 25 (.ints .u64 [])] (by kernel_rfl) (cu (by kernel_rfl)) (by kernel_rfl) (by kernel_rfl) (by kernel_rfl) ⟨zq.ok, trivial⟩ trivial ?_ ?_
 · rw [loops]; exact ⟨amr, trivial⟩
 · intro args K r h
   unfold dx at h
   split at h
   · rw [P.alm] at h; exact Eq.trans (by kernel_rfl) h
   · cases h
theorem ok : Proved Tryd.prog GLO.gB 24 spec := jc _ ok0
end zk

end
