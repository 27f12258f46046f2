/-
  LeaseTells, part 18: an interpreter of my own over abstract values, the pure functions, the walks and the plain law.
-/

import Derived.Test.YtkfjafaabbmapaaDoorLeaseTellsK
import Derived.Test.YtkfjafaabbmapaaDoorLeaseTellsH
import Derived.Test.YtkfjafaabbmapaaDoorProg
import Derived.Test.YtkfjafaabbmapaaDoorLeaseTellsJ
import Derived.Test.YtkfjafaabbmapaaDoorLeaseTellsQ
import Derived.KernelRfl
import Derived.Test.YtkfjafaabbmapaaDoorLeaseTellsO
import Derived.Test.YtkfjafaabbmapaaDoorLeaseTellsP

section
open Go Go.Abs Go.Proofs
set_option maxRecDepth 100000
set_option maxHeartbeats 0
set_option linter.unusedVariables false

namespace su
noncomputable def D : Ctx := ({ P := Tryd.prog, G := [(32, ab6.spec)], globs := GLO.gB, hints := [], loops := [], inl := [] } : Ctx)
theorem loops : fq (Tryd.f14.body.getD .skip) = [] := by kernel_rfl
noncomputable def dx : Abs.Spec := fun args K => match args with
 | [.agg [.sl (.ints .u8 a), .sl (.ints .u8 b), .v (.int .u64 e), .v (.int .u64 g), .v (.int .u64 k), .v (.int .u64 h), .v (.bool m)], .agg [.sl (.ints .u8 c), .sl (.ints .u8 d), .v (.int .u64 f), .v (.int .u64 i), .v (.int .u64 l), .v (.int .u64 j), .v (.bool n)]] => P.su a b e g k h m c d f i l j n (fun o => K (.v (.bool o)))
 | _ => none
noncomputable def spec : Abs.Spec := fun args K => dx (ow [.agg [.sl (.ints .u8 []), .sl (.ints .u8 []), .any, .any, .any, .any, .any], .agg [.sl (.ints .u8 []), .sl (.ints .u8 []), .any, .any, .any, .any, .any]] args) K
theorem ok0 : Proved Tryd.prog GLO.gB 14 dx := by
 refine gu (D := D) (fn := Tryd.f14) (c := Tryd.f14.body.getD .skip) [.any] (by kernel_rfl) (cu (by kernel_rfl)) (by kernel_rfl) (by kernel_rfl) (by kernel_rfl) ⟨ab6.ok, trivial⟩ trivial ?_ ?_
 · rw [loops]; exact trivial
 · intro args K r h
   unfold dx at h
   split at h
   · rw [P.aj1] at h; exact Eq.trans (by kernel_rfl) h
   · cases h
theorem ok : Proved Tryd.prog GLO.gB 14 spec := jc _ ok0
end su

namespace tu
abbrev X4 := P.bm5
def S4 : X4 → ASt := fun (a, b, c) => ⟨[(0, .sl (.ints .u64 a)), (1, .sl (.ints .u64 b)), (5, .v (.int .i64 c))], [], 0, 26⟩
def V4 : ASt → Option X4
 | ⟨[(0, .sl (.ints .u64 a)), (1, .sl (.ints .u64 b)), (5, .v (.int .i64 c))], [], 0, 26⟩ => some (a, b, c)
 | _ => none
theorem akk (st) (x) (h : V4 st = some x) : st = S4 x := by
 unfold V4 at h
 split at h
 · cases h; rfl
 · cases h
abbrev Y4 := P.bqb
def E4 (K : AExit → ASt → Option R) : Y4 → Option R := (Sum.elim (fun x => K (.exit 0) (S4 x)) (fun a => K .ret ⟨[(4, .v (.bool a))], [], 0, 26⟩))
noncomputable def L4 : zn := fun st K => ahn (V4 st) fun x => P.bqd x (E4 K)
noncomputable def D : Ctx := ({ P := Tryd.prog, G := [], globs := GLO.gB, hints := [(4, ⟨[0, 1, 5], [], [4], [], none, [], [], []⟩)], loops := [(4, L4)], inl := [] } : Ctx)
theorem afi (K) (next) (x) : qb D (jh Tryd.f23 4) K next (S4 x) = P.bj2 x (fun x => next (S4 x)) (E4 K) := by kernel_rfl
theorem aj9 : ou D (jh Tryd.f23 4) := j5 S4 akk (by kernel_rfl) P.bq8 afi
theorem loops : fq (Tryd.f23.body.getD .skip) = [jh Tryd.f23 4] := by kernel_rfl
noncomputable def dx : Abs.Spec := fun args K => match args with
 | [.sl (.ints .u64 a), .sl (.ints .u64 b)] => P.tu a b (fun c => K (.v (.bool c)))
 | _ => none
noncomputable def spec : Abs.Spec := fun args K => dx (ow [.sl (.ints .u64 []), .sl (.ints .u64 [])] args) K
theorem ok0 : Proved Tryd.prog GLO.gB 23 dx := by
 refine gu (D := D) (fn := Tryd.f23) (c := Tryd.f23.body.getD .skip) [.any] (by kernel_rfl) (cu (by kernel_rfl)) (by kernel_rfl) (by kernel_rfl) (by kernel_rfl) trivial trivial ?_ ?_
 · rw [loops]; exact ⟨aj9, trivial⟩
 · intro args K r h
   unfold dx at h
   split at h
   · rw [P.aif] at h; exact Eq.trans (by kernel_rfl) h
   · cases h
theorem ok : Proved Tryd.prog GLO.gB 23 spec := jc _ ok0
end tu

namespace o9
noncomputable def D6 : Ctx := ({ P := Tryd.prog, G := [(10, je.spec), (28, dz.spec), (50, eu.spec), (52, jd.spec)], globs := GLO.gB, hints := [], loops := [], inl := [] } : Ctx)
noncomputable def D5 : Ctx := ({ P := Tryd.prog, G := [(10, je.spec), (28, dz.spec), (50, eu.spec), (52, jd.spec)], globs := GLO.gB, hints := [], loops := [], inl := [] } : Ctx)
noncomputable def D4 : Ctx := ({ P := Tryd.prog, G := [(10, je.spec), (28, dz.spec), (50, eu.spec), (52, jd.spec)], globs := GLO.gB, hints := [], loops := [], inl := [] } : Ctx)
noncomputable def D3 : Ctx := ({ P := Tryd.prog, G := [(10, je.spec), (28, dz.spec), (50, eu.spec), (52, jd.spec)], globs := GLO.gB, hints := [], loops := [], inl := [(49, yw D5 Tryd.f49), (40, yw D6 Tryd.f40)] } : Ctx)
noncomputable def D2 : Ctx := ({ P := Tryd.prog, G := [(10, je.spec), (28, dz.spec), (50, eu.spec), (52, jd.spec)], globs := GLO.gB, hints := [], loops := [], inl := [(49, yw D5 Tryd.f49)] } : Ctx)
noncomputable def D1 : Ctx := ({ P := Tryd.prog, G := [(10, je.spec), (28, dz.spec), (50, eu.spec), (52, jd.spec)], globs := GLO.gB, hints := [], loops := [], inl := [(34, yw D2 Tryd.f34)] } : Ctx)
noncomputable def D : Ctx := ({ P := Tryd.prog, G := [(10, je.spec), (28, dz.spec), (50, eu.spec), (52, jd.spec)], globs := GLO.gB, hints := [], loops := [], inl := [(34, yw D2 Tryd.f34)] } : Ctx)
theorem loops : fq (Tryd.f17.body.getD .skip) = [] := by kernel_rfl
theorem anx : fq (Tryd.f37.body.getD .skip) = [] := by kernel_rfl
theorem an6 : fq (Tryd.f34.body.getD .skip) = [] := by kernel_rfl
theorem awz : fq (Tryd.f39.body.getD .skip) = [] := by kernel_rfl
theorem bdi : fq (Tryd.f38.body.getD .skip) = [] := by kernel_rfl
theorem aoz : fq (Tryd.f49.body.getD .skip) = [] := by kernel_rfl
theorem ayx : fq (Tryd.f40.body.getD .skip) = [] := by kernel_rfl
noncomputable def dx : Abs.Spec := fun args K => match args with
 | [.agg [.sl (.ints .u8 a), .sl (.ints .u8 b), .v (.int .u64 e), .v (.int .u64 g), .v (.int .u64 k), .v (.int .u64 h), .v (.bool m)]] => P.o9 a b e g k h m (fun c d f i l j n o => K (.tuple [.agg [.sl (.ints .u8 c), .sl (.ints .u8 d), .v (.int .u64 f), .v (.int .u64 i), .v (.int .u64 l), .v (.int .u64 j), .v (.bool n)], .v (.int .i64 o)]))
 | _ => none
noncomputable def spec : Abs.Spec := fun args K => dx (ow [.agg [.sl (.ints .u8 []), .sl (.ints .u8 []), .any, .any, .any, .any, .any]] args) K
theorem ok0 : Proved Tryd.prog GLO.gB 17 dx := by
 refine gu (D := D) (fn := Tryd.f17) (c := Tryd.f17.body.getD .skip) [.agg [.sl (.ints .u8 []), .sl (.ints .u8 []), .any, .any, .any, .any, .any], .any] (by kernel_rfl) (cu (by kernel_rfl)) (by kernel_rfl) (by kernel_rfl) (by kernel_rfl) ⟨je.ok, dz.ok, eu.ok, jd.ok, trivial⟩ ⟨ac7 (D := D2) (D' := D) (fn := Tryd.f34) (c := Tryd.f34.body.getD .skip) rfl rfl (by kernel_rfl) (cu (by kernel_rfl)) (by kernel_rfl) (by kernel_rfl) (by kernel_rfl) ⟨je.ok, dz.ok, eu.ok, jd.ok, trivial⟩ ⟨ac7 (D := D5) (D' := D2) (fn := Tryd.f49) (c := Tryd.f49.body.getD .skip) rfl rfl (by kernel_rfl) (cu (by kernel_rfl)) (by kernel_rfl) (by kernel_rfl) (by kernel_rfl) ⟨je.ok, dz.ok, eu.ok, jd.ok, trivial⟩ trivial (by rw [aoz]; exact trivial) (fun _ _ _ _ _ h => h), trivial⟩ (by rw [an6]; exact trivial) (fun _ _ _ _ _ h => h), trivial⟩ ?_ ?_
 · rw [loops]; exact trivial
 · intro args K r h
   unfold dx at h
   split at h
   · rw [P.aee] at h; exact Eq.trans (by kernel_rfl) h
   · cases h
theorem ok : Proved Tryd.prog GLO.gB 17 spec := jc _ ok0
end o9

namespace lg
abbrev X4 := P.bmg
def S4 : X4 → ASt := fun (c, d, a, b) => ⟨[(0, .sl (.ints .u8 c)), (1, .sl (.ints .u8 d)), (12, .v (.int .i64 a)), (13, .v (.int .i64 b))], [], 0, 26⟩
def V4 : ASt → Option X4
 | ⟨[(0, .sl (.ints .u8 c)), (1, .sl (.ints .u8 d)), (12, .v (.int .i64 a)), (13, .v (.int .i64 b))], [], 0, 26⟩ => some (c, d, a, b)
 | _ => none
theorem akk (st) (x) (h : V4 st = some x) : st = S4 x := by
 unfold V4 at h
 split at h
 · cases h; rfl
 · cases h
abbrev Y4 := P.bn3
def E4 (K : AExit → ASt → Option R) : Y4 → Option R := (Sum.elim (fun x => K (.exit 0) (S4 x)) (fun a => K .ret ⟨[(4, .v (.bool a))], [], 0, 26⟩))
noncomputable def L4 : zn := fun st K => ahn (V4 st) fun x => P.bqu x (E4 K)
noncomputable def D : Ctx := ({ P := Tryd.prog, G := [], globs := GLO.gB, hints := [(4, ⟨[0, 1, 12, 13], [], [4], [], none, [], [], []⟩)], loops := [(4, L4)], inl := [] } : Ctx)
theorem afi (K) (next) (x) : qb D (jh Tryd.f48 4) K next (S4 x) = P.bjd x (fun x => next (S4 x)) (E4 K) := by kernel_rfl
theorem aj9 : ou D (jh Tryd.f48 4) := j5 S4 akk (by kernel_rfl) P.brc afi
theorem loops : fq (Tryd.f48.body.getD .skip) = [jh Tryd.f48 4] := by kernel_rfl
noncomputable def dx : Abs.Spec := fun args K => match args with
 | [.sl (.ints .u8 a), .sl (.ints .u8 b)] => P.lg a b (fun c => K (.v (.bool c)))
 | _ => none
noncomputable def spec : Abs.Spec := fun args K => dx (ow [.sl (.ints .u8 []), .sl (.ints .u8 [])] args) K
theorem ok0 : Proved Tryd.prog GLO.gB 48 dx := by
 refine gu (D := D) (fn := Tryd.f48) (c := Tryd.f48.body.getD .skip) [.any] (by kernel_rfl) (cu (by kernel_rfl)) (by kernel_rfl) (by kernel_rfl) (by kernel_rfl) trivial trivial ?_ ?_
 · rw [loops]; exact ⟨aj9, trivial⟩
 · intro args K r h
   unfold dx at h
   split at h
   · rw [P.aeg] at h; exact Eq.trans (by kernel_rfl) h
   · cases h
theorem ok : Proved Tryd.prog GLO.gB 48 spec := jc _ ok0
end lg

namespace w9
noncomputable def D : Ctx := ({ P := Tryd.prog, G := [(48, lg.spec)], globs := GLO.gB, hints := [], loops := [], inl := [] } : Ctx)
theorem loops : fq (Tryd.f33.body.getD .skip) = [] := by kernel_rfl
noncomputable def dx : Abs.Spec := fun args K => match args with
 | [.agg [.sl (.ints .u8 a), .sl (.ints .u8 b)], .agg [.sl (.ints .u8 c), .sl (.ints .u8 d)]] => P.w9 a b c d (fun e => K (.v (.bool e)))
 | _ => none
noncomputable def spec : Abs.Spec := fun args K => dx (ow [.agg [.sl (.ints .u8 []), .sl (.ints .u8 [])], .agg [.sl (.ints .u8 []), .sl (.ints .u8 [])]] args) K
theorem ok0 : Proved Tryd.prog GLO.gB 33 dx := by
 refine gu (D := D) (fn := Tryd.f33) (c := Tryd.f33.body.getD .skip) [.any] (by kernel_rfl) (cu (by kernel_rfl)) (by kernel_rfl) (by kernel_rfl) (by kernel_rfl) ⟨lg.ok, trivial⟩ trivial ?_ ?_
 · rw [loops]; exact trivial
 · intro args K r h
   unfold dx at h
   split at h
   · rw [P.ajx] at h; exact Eq.trans (by kernel_rfl) h
   · cases h
theorem ok : Proved Tryd.prog GLO.gB 33 spec := jc _ ok0
end w9

namespace zh
noncomputable def D : Ctx := ({ P := Tryd.prog, G := [(33, w9.spec)], globs := GLO.gB, hints := [], loops := [], inl := [] } : Ctx)
theorem loops : fq (Tryd.f15.body.getD .skip) = [] := by kernel_rfl
noncomputable def dx : Abs.Spec := fun args K => match args with
 | [.agg [.sl (.ints .u8 a), .sl (.ints .u8 b), .v (.int .u64 e), .v (.int .u64 g), .v (.int .u64 k), .v (.int .u64 h), .v (.bool m)], .agg [.sl (.ints .u8 c), .sl (.ints .u8 d), .v (.int .u64 f), .v (.int .u64 i), .v (.int .u64 l), .v (.int .u64 j), .v (.bool n)]] => P.zh a b e g k h m c d f i l j n (fun o => K (.v (.bool o)))
 | _ => none
noncomputable def spec : Abs.Spec := fun args K => dx (ow [.agg [.sl (.ints .u8 []), .sl (.ints .u8 []), .any, .any, .any, .any, .any], .agg [.sl (.ints .u8 []), .sl (.ints .u8 []), .any, .any, .any, .any, .any]] args) K
theorem ok0 : Proved Tryd.prog GLO.gB 15 dx := by
 refine gu (D := D) (fn := Tryd.f15) (c := Tryd.f15.body.getD .skip) [.any] (by kernel_rfl) (cu (by kernel_rfl)) (by kernel_rfl) (by kernel_rfl) (by kernel_rfl) ⟨w9.ok, trivial⟩ trivial ?_ ?_
 · rw [loops]; exact trivial
 · intro args K r h
   unfold dx at h
   split at h
   · rw [P.amc] at h; exact Eq.trans (by kernel_rfl) h
   · cases h
theorem ok : Proved Tryd.prog GLO.gB 15 spec := jc _ ok0
end zh

namespace sj
noncomputable def D : Ctx := ({ P := Tryd.prog, G := [(8, agi.spec), (9, uh.spec), (10, je.spec), (11, uz.spec), (12, xq.spec), (13, afp.spec), (14, su.spec), (15, zh.spec), (16, ag9.spec), (17, o9.spec), (18, mq.spec), (19, qy.spec), (20, zw.spec), (21, zq.spec), (22, aip.spec), (23, tu.spec)], globs := GLO.gB, hints := [], loops := [], inl := [] } : Ctx)
theorem loops : fq (Tryd.f3.body.getD .skip) = [] := by kernel_rfl
noncomputable def dx : Abs.Spec := fun args K => match args with
 | [.agg [.sl (.ints .u8 k), .sl (.ints .u8 l)], .v (.int .u64 m), .v (.int .u64 n), .agg [.sl (.ints .u8 a), .sl (.ints .u8 b), .v (.int .u64 c), .v (.int .u64 d), .v (.int .u64 f), .v (.int .u64 e), .v (.bool j)], .agg [.v (.int .i64 g), .v (.int .i64 h), .sl (.ints .u8 i)]] => P.sj k l m n a b c d f e j g h i (fun o => K (.v (.bool o)))
 | _ => none
noncomputable def spec : Abs.Spec := fun args K => dx (ow [.agg [.sl (.ints .u8 []), .sl (.ints .u8 [])], .any, .any, .agg [.sl (.ints .u8 []), .sl (.ints .u8 []), .any, .any, .any, .any, .any], .agg [.any, .any, .sl (.ints .u8 [])]] args) K
theorem ok0 : Proved Tryd.prog GLO.gB 3 dx := by
 refine gu (D := D) (fn := Tryd.f3) (c := Tryd.f3.body.getD .skip) [.any] (by kernel_rfl) (cu (by kernel_rfl)) (by kernel_rfl) (by kernel_rfl) (by kernel_rfl) ⟨agi.ok, uh.ok, je.ok, uz.ok, xq.ok, afp.ok, su.ok, zh.ok, ag9.ok, o9.ok, mq.ok, qy.ok, zw.ok, zq.ok, aip.ok, tu.ok, trivial⟩ trivial ?_ ?_
 · rw [loops]; exact trivial
 · intro args K r h
   unfold dx at h
   split at h
   · rw [P.agl] at h; exact Eq.trans (by kernel_rfl) h
   · cases h
theorem ok : Proved Tryd.prog GLO.gB 3 spec := jc _ ok0
end sj

end
