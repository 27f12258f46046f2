/-
  LeaseTells, part 16: an interpreter of my own over abstract values, the pure functions, the walks and the plain law.
-/

import Derived.Test.YtkfjafaabbmapaaDoorLeaseTellsK
import Derived.Test.YtkfjafaabbmapaaDoorLeaseTellsH
import Derived.Test.YtkfjafaabbmapaaDoorProg
import Derived.Test.YtkfjafaabbmapaaDoorLeaseTellsJ
import Derived.Test.YtkfjafaabbmapaaDoorLeaseTellsO
import Derived.KernelRfl
import Derived.Test.YtkfjafaabbmapaaDoorLeaseTellsI

section
open Go Go.Abs Go.Proofs
set_option maxRecDepth 100000
set_option maxHeartbeats 0
set_option linter.unusedVariables false

namespace qy
noncomputable def D6 : Ctx := ({ P := Tryd.prog, G := [(10, je.spec), (28, dz.spec), (50, eu.spec), (52, jd.spec)], globs := GLO.gB, hints := [], loops := [], inl := [] } : Ctx)
noncomputable def D5 : Ctx := ({ P := Tryd.prog, G := [(10, je.spec), (28, dz.spec), (50, eu.spec), (52, jd.spec)], globs := GLO.gB, hints := [], loops := [], inl := [] } : Ctx)
noncomputable def D4 : Ctx := ({ P := Tryd.prog, G := [(10, je.spec), (28, dz.spec), (50, eu.spec), (52, jd.spec)], globs := GLO.gB, hints := [], loops := [], inl := [] } : Ctx)
noncomputable def D3 : Ctx := ({ P := Tryd.prog, G := [(10, je.spec), (28, dz.spec), (50, eu.spec), (52, jd.spec)], globs := GLO.gB, hints := [], loops := [], inl := [(49, yw D5 Tryd.f49), (40, yw D6 Tryd.f40)] } : Ctx)
noncomputable def D2 : Ctx := ({ P := Tryd.prog, G := [(10, je.spec), (28, dz.spec), (50, eu.spec), (52, jd.spec)], globs := GLO.gB, hints := [], loops := [], inl := [(49, yw D5 Tryd.f49)] } : Ctx)
noncomputable def D1 : Ctx := ({ P := Tryd.prog, G := [(10, je.spec), (28, dz.spec), (50, eu.spec), (52, jd.spec)], globs := GLO.gB, hints := [], loops := [], inl := [(34, yw D2 Tryd.f34)] } : Ctx)
noncomputable def D : Ctx := ({ P := Tryd.prog, G := [(10, je.spec), (28, dz.spec), (50, eu.spec), (52, jd.spec)], globs := GLO.gB, hints := [], loops := [], inl := [(37, yw D1 Tryd.f37)] } : Ctx)
theorem loops : fq (Tryd.f19.body.getD .skip) = [] := by kernel_rfl
theorem anx : fq (Tryd.f37.body.getD .skip) = [] := by kernel_rfl
theorem an6 : fq (Tryd.f34.body.getD .skip) = [] := by kernel_rfl
theorem awz : fq (Tryd.f39.body.getD .skip) = [] := by kernel_rfl
theorem bdi : fq (Tryd.f38.body.getD .skip) = [] := by kernel_rfl
theorem aoz : fq (Tryd.f49.body.getD .skip) = [] := by kernel_rfl
theorem ayx : fq (Tryd.f40.body.getD .skip) = [] := by kernel_rfl
noncomputable def dx : Abs.Spec := fun args K => match args with
 | [.agg [.sl (.ints .u8 a), .sl (.ints .u8 b), .v (.int .u64 e), .v (.int .u64 g), .v (.int .u64 k), .v (.int .u64 h), .v (.bool m)]] => P.qy a b e g k h m (fun c d f i l j n o p => K (.tuple [.agg [.sl (.ints .u8 c), .sl (.ints .u8 d), .v (.int .u64 f), .v (.int .u64 i), .v (.int .u64 l), .v (.int .u64 j), .v (.bool n)], .v (.int .u64 o), .v (.int .i64 p)]))
 | _ => none
noncomputable def spec : Abs.Spec := fun args K => dx (ow [.agg [.sl (.ints .u8 []), .sl (.ints .u8 []), .any, .any, .any, .any, .any]] args) K
theorem ok0 : Proved Tryd.prog GLO.gB 19 dx := by
 refine gu (D := D) (fn := Tryd.f19) (c := Tryd.f19.body.getD .skip) [.agg [.sl (.ints .u8 []), .sl (.ints .u8 []), .any, .any, .any, .any, .any], .any, .any] (by kernel_rfl) (cu (by kernel_rfl)) (by kernel_rfl) (by kernel_rfl) (by kernel_rfl) ⟨je.ok, dz.ok, eu.ok, jd.ok, trivial⟩ ⟨ac7 (D := D1) (D' := D) (fn := Tryd.f37) (c := Tryd.f37.body.getD .skip) rfl rfl (by kernel_rfl) (cu (by kernel_rfl)) (by kernel_rfl) (by kernel_rfl) (by kernel_rfl) ⟨je.ok, dz.ok, eu.ok, jd.ok, trivial⟩ ⟨ac7 (D := D2) (D' := D1) (fn := Tryd.f34) (c := Tryd.f34.body.getD .skip) rfl rfl (by kernel_rfl) (cu (by kernel_rfl)) (by kernel_rfl) (by kernel_rfl) (by kernel_rfl) ⟨je.ok, dz.ok, eu.ok, jd.ok, trivial⟩ ⟨ac7 (D := D5) (D' := D2) (fn := Tryd.f49) (c := Tryd.f49.body.getD .skip) rfl rfl (by kernel_rfl) (cu (by kernel_rfl)) (by kernel_rfl) (by kernel_rfl) (by kernel_rfl) ⟨je.ok, dz.ok, eu.ok, jd.ok, trivial⟩ trivial (by rw [aoz]; exact trivial) (fun _ _ _ _ _ h => h), trivial⟩ (by rw [an6]; exact trivial) (fun _ _ _ _ _ h => h), trivial⟩ (by rw [anx]; exact trivial) (fun _ _ _ _ _ h => h), trivial⟩ ?_ ?_
 · rw [loops]; exact trivial
 · intro args K r h
   unfold dx at h
   split at h
   · rw [P.alu] at h; exact Eq.trans (by kernel_rfl) h
   · cases h
theorem ok : Proved Tryd.prog GLO.gB 19 spec := jc _ ok0
end qy

namespace uh
noncomputable def D : Ctx := ({ P := Tryd.prog, G := [(12, xq.spec), (19, qy.spec), (24, zk.spec)], globs := GLO.gB, hints := [], loops := [], inl := [] } : Ctx)
theorem loops : fq (Tryd.f9.body.getD .skip) = [] := by kernel_rfl
noncomputable def dx : Abs.Spec := fun args K => match args with
 | [] => P.uh (fun a => K (.v (.bool a)))
 | _ => none
noncomputable def spec : Abs.Spec := dx
theorem ok0 : Proved Tryd.prog GLO.gB 9 dx := by
 refine gu (D := D) (fn := Tryd.f9) (c := Tryd.f9.body.getD .skip) [.any] (by kernel_rfl) (cu (by kernel_rfl)) (by kernel_rfl) (by kernel_rfl) (by kernel_rfl) ⟨xq.ok, qy.ok, zk.ok, trivial⟩ trivial ?_ ?_
 · rw [loops]; exact trivial
 · intro args K r h
   unfold dx at h
   split at h
   · rw [P.an3] at h; exact Eq.trans (by kernel_rfl) h
   · cases h
theorem ok : Proved Tryd.prog GLO.gB 9 spec := ok0
end uh

namespace agi
abbrev X4 := P.zt1
def S4 : X4 → ASt := fun (a, b, c, d, e, f) => ⟨[(22, .sl (.cols a [.ints .i64 b, .ints .i64 c, .rows .u8 d])), (23, .v (.int .i64 e)), (24, .v (.int .i64 f))], [], 40, 33⟩
def V4 : ASt → Option X4
 | ⟨[(22, .sl (.cols a [.ints .i64 b, .ints .i64 c, .rows .u8 d])), (23, .v (.int .i64 e)), (24, .v (.int .i64 f))], [], 40, 33⟩ => some (a, b, c, d, e, f)
 | _ => none
theorem akk (st) (x) (h : V4 st = some x) : st = S4 x := by
 unfold V4 at h
 split at h
 · cases h; rfl
 · cases h
abbrev Y4 := P.zy1
def E4 (K : AExit → ASt → Option R) : Y4 → Option R := (Sum.elim (fun x => K (.exit 0) (S4 x)) (fun (f, c, d, e, a, b) => K .ret ⟨[(4, .v (.bool f))], [(40, some ⟨.box 29 [.v (.int .i64 c), .v (.int .i64 d), .sl (.ints .u8 e)], false⟩), (40, some ⟨.box 29 [.v (.int .i64 a), .v (.int .i64 b), .v (.slice none 0 0)], false⟩)], 41, 33⟩))
noncomputable def L4 : zn := fun st K => ahn (V4 st) fun x => P.zm1 x (E4 K)
noncomputable def D : Ctx := ({ P := Tryd.prog, G := [], globs := GLO.gB, hints := [(4, ⟨[22, 23, 24], [], [4], [], some (40, []), [], [], []⟩)], loops := [(4, L4)], inl := [] } : Ctx)
theorem afi (K) (next) (x) : qb D (jh Tryd.f8 4) K next (S4 x) = P.zs1 x (fun x => next (S4 x)) (E4 K) := by kernel_rfl
theorem aj9 : ou D (jh Tryd.f8 4) := j5 S4 akk (by kernel_rfl) P.ze1 afi
theorem loops : fq (Tryd.f8.body.getD .skip) = [jh Tryd.f8 4] := by kernel_rfl
noncomputable def dx : Abs.Spec := fun args K => match args with
 | [.agg [.sl (.ints .u8 a), .sl (.ints .u8 b)], .sl (.cols c [.ints .i64 d, .ints .i64 e, .rows .u8 f])] => P.agi a b c d e f (fun g => K (.v (.bool g)))
 | _ => none
noncomputable def spec : Abs.Spec := fun args K => dx (ow [.agg [.sl (.ints .u8 []), .sl (.ints .u8 [])], .sl (.cols 0 [.ints .i64 [], .ints .i64 [], .rows .u8 []])] args) K
theorem ok0 : Proved Tryd.prog GLO.gB 8 dx := by
 refine gu (D := D) (fn := Tryd.f8) (c := Tryd.f8.body.getD .skip) [.any] (by kernel_rfl) (cu (by kernel_rfl)) (by kernel_rfl) (by kernel_rfl) (by kernel_rfl) trivial trivial ?_ ?_
 · rw [loops]; exact ⟨aj9, trivial⟩
 · intro args K r h
   unfold dx at h
   split at h
   · rw [P.aes] at h; exact Eq.trans (by kernel_rfl) h
   · cases h
theorem ok : Proved Tryd.prog GLO.gB 8 spec := jc _ ok0
end agi

namespace aao
abbrev X3 := P.bjz
def S3 : X3 → ASt := fun (a, b, c) => ⟨[(0, .sl (.ints .u8 a)), (3, .v (.int .u64 b)), (4, .v (.int .i64 c))], [], 0, 20⟩
def V3 : ASt → Option X3
 | ⟨[(0, .sl (.ints .u8 a)), (3, .v (.int .u64 b)), (4, .v (.int .i64 c))], [], 0, 20⟩ => some (a, b, c)
 | _ => none
theorem amo (st) (x) (h : V3 st = some x) : st = S3 x := by
 unfold V3 at h
 split at h
 · cases h; rfl
 · cases h
abbrev Y3 := P.bqo
def E3 (K : AExit → ASt → Option R) : Y3 → Option R := (fun x => K (.exit 0) (S3 x))
noncomputable def L3 : zn := fun st K => ahn (V3 st) fun x => P.bqp x (E3 K)
noncomputable def D : Ctx := ({ P := Tryd.prog, G := [], globs := GLO.gB, hints := [(3, ⟨[0, 3, 4], [], [2], [], none, [], [], []⟩)], loops := [(3, L3)], inl := [] } : Ctx)
theorem agu (K) (next) (x) : qb D (jh Tryd.f53 3) K next (S3 x) = P.blo x (fun x => next (S3 x)) (E3 K) := by kernel_rfl
theorem amr : ou D (jh Tryd.f53 3) := j5 S3 amo (by kernel_rfl) P.brz agu
theorem loops : fq (Tryd.f53.body.getD .skip) = [jh Tryd.f53 3] := by kernel_rfl
noncomputable def dx : Abs.Spec := fun args K => match args with
 | [.sl (.ints .u8 a)] => P.aao a (fun b => K (.v (.int .u64 b)))
 | _ => none
noncomputable def spec : Abs.Spec := fun args K => dx (ow [.sl (.ints .u8 [])] args) K
theorem ok0 : Proved Tryd.prog GLO.gB 53 dx := by
 refine gu (D := D) (fn := Tryd.f53) (c := Tryd.f53.body.getD .skip) [.any] (by kernel_rfl) (cu (by kernel_rfl)) (by kernel_rfl) (by kernel_rfl) (by kernel_rfl) trivial trivial ?_ ?_
 · rw [loops]; exact ⟨amr, trivial⟩
 · intro args K r h
   unfold dx at h
   split at h
   · rw [P.atd] at h; exact Eq.trans (by kernel_rfl) h
   · cases h
theorem ok : Proved Tryd.prog GLO.gB 53 spec := jc _ ok0
end aao

namespace yh
abbrev X4 := P.bmp
def S4 : X4 → ASt := fun (a, b, c) => ⟨[(0, .sl (.ints .u8 a)), (1, .sl (.ints .u8 b)), (5, .v (.int .i64 c))], [], 0, 26⟩
def V4 : ASt → Option X4
 | ⟨[(0, .sl (.ints .u8 a)), (1, .sl (.ints .u8 b)), (5, .v (.int .i64 c))], [], 0, 26⟩ => some (a, b, c)
 | _ => none
theorem akk (st) (x) (h : V4 st = some x) : st = S4 x := by
 unfold V4 at h
 split at h
 · cases h; rfl
 · cases h
abbrev Y4 := P.bn5
def E4 (K : AExit → ASt → Option R) : Y4 → Option R := (Sum.elim (fun x => K (.exit 0) (S4 x)) (fun a => K .ret ⟨[(4, .v (.bool a))], [], 0, 26⟩))
noncomputable def L4 : zn := fun st K => ahn (V4 st) fun x => P.boe x (E4 K)
noncomputable def D : Ctx := ({ P := Tryd.prog, G := [], globs := GLO.gB, hints := [(4, ⟨[0, 1, 5], [], [4], [], none, [], [], []⟩)], loops := [(4, L4)], inl := [] } : Ctx)
theorem afi (K) (next) (x) : qb D (jh Tryd.f47 4) K next (S4 x) = P.bkc x (fun x => next (S4 x)) (E4 K) := by kernel_rfl
theorem aj9 : ou D (jh Tryd.f47 4) := j5 S4 akk (by kernel_rfl) P.brl afi
theorem loops : fq (Tryd.f47.body.getD .skip) = [jh Tryd.f47 4] := by kernel_rfl
noncomputable def dx : Abs.Spec := fun args K => match args with
 | [.sl (.ints .u8 a), .sl (.ints .u8 b)] => P.yh a b (fun c => K (.v (.bool c)))
 | _ => none
noncomputable def spec : Abs.Spec := fun args K => dx (ow [.sl (.ints .u8 []), .sl (.ints .u8 [])] args) K
theorem ok0 : Proved Tryd.prog GLO.gB 47 dx := by
 refine gu (D := D) (fn := Tryd.f47) (c := Tryd.f47.body.getD .skip) [.any] (by kernel_rfl) (cu (by kernel_rfl)) (by kernel_rfl) (by kernel_rfl) (by kernel_rfl) trivial trivial ?_ ?_
 · rw [loops]; exact ⟨aj9, trivial⟩
 · intro args K r h
   unfold dx at h
   split at h
   · rw [P.aqy] at h; exact Eq.trans (by kernel_rfl) h
   · cases h
theorem ok : Proved Tryd.prog GLO.gB 47 spec := jc _ ok0
end yh

namespace abm
abbrev X5 := P.blw
def S5 : X5 → ASt := fun (a, b, c) => ⟨[(0, .v (.int .u64 a)), (5, .own 0), (6, .v (.int .i64 b))], [(0, some ⟨.row 5 (.ints .u8 c), false⟩)], 1, 30⟩
def V5 : ASt → Option X5
 | ⟨[(0, .v (.int .u64 a)), (5, .own 0), (6, .v (.int .i64 b))], [(0, some ⟨.row 5 (.ints .u8 c), false⟩)], 1, 30⟩ => some (a, b, c)
 | _ => none
theorem bcx (st) (x) (h : V5 st = some x) : st = S5 x := by
 unfold V5 at h
 split at h
 · cases h; rfl
 · cases h
abbrev Y5 := P.bpn
def E5 (K : AExit → ASt → Option R) : Y5 → Option R := (fun x => K (.exit 0) (S5 x))
noncomputable def L5 : zn := fun st K => ahn (V5 st) fun x => P.bob x (E5 K)
noncomputable def D : Ctx := ({ P := Tryd.prog, G := [], globs := GLO.gB, hints := [(5, ⟨[0, 5, 6], [], [4], [], none, [], [], []⟩)], loops := [(5, L5)], inl := [] } : Ctx)
theorem av7 (K) (next) (x) : qb D (jh Tryd.f60 5) K next (S5 x) = P.bjx x (fun x => next (S5 x)) (E5 K) := by kernel_rfl
theorem bbv : ou D (jh Tryd.f60 5) := j5 S5 bcx (by kernel_rfl) P.brv av7
theorem loops : fq (Tryd.f60.body.getD .skip) = [jh Tryd.f60 5] := by kernel_rfl
noncomputable def dx : Abs.Spec := fun args K => match args with
 | [.v (.int .u64 a), .v (.int .i64 b)] => P.abm a b (fun c => K (.fr 5 (.ints .u8 c)))
 | _ => none
noncomputable def spec : Abs.Spec := dx
theorem ok0 : Proved Tryd.prog GLO.gB 60 dx := by
 refine gu (D := D) (fn := Tryd.f60) (c := Tryd.f60.body.getD .skip) [.fr 5 (.ints .u8 [])] (by kernel_rfl) (cu (by kernel_rfl)) (by kernel_rfl) (by kernel_rfl) (by kernel_rfl) trivial trivial ?_ ?_
 · rw [loops]; exact ⟨bbv, trivial⟩
 · intro args K r h
   unfold dx at h
   split at h
   · rw [P.awl] at h; exact Eq.trans (by kernel_rfl) h
   · cases h
theorem ok : Proved Tryd.prog GLO.gB 60 spec := ok0
end abm

namespace z8
abbrev X3 := P.blb
def S3 : X3 → ASt := fun (a, b, c) => ⟨[(3, .own 0), (0, .sl (.rows .u8 a)), (4, .v (.int .i64 b))], [(0, some ⟨.row 5 (.ints .u8 c), false⟩)], 1, 18⟩
def V3 : ASt → Option X3
 | ⟨[(3, .own 0), (0, .sl (.rows .u8 a)), (4, .v (.int .i64 b))], [(0, some ⟨.row 5 (.ints .u8 c), false⟩)], 1, 18⟩ => some (a, b, c)
 | _ => none
theorem amo (st) (x) (h : V3 st = some x) : st = S3 x := by
 unfold V3 at h
 split at h
 · cases h; rfl
 · cases h
abbrev Y3 := P.bqf
def E3 (K : AExit → ASt → Option R) : Y3 → Option R := (fun x => K (.exit 0) (S3 x))
noncomputable def L3 : zn := fun st K => ahn (V3 st) fun x => P.bp6 x (E3 K)
noncomputable def D : Ctx := ({ P := Tryd.prog, G := [], globs := GLO.gB, hints := [(3, ⟨[0, 4], [(3, 5, .ints .u8 [])], [2], [], none, [], [], []⟩)], loops := [(3, L3)], inl := [] } : Ctx)
theorem agu (K) (next) (x) : qb D (jh Tryd.f59 3) K next (S3 x) = P.blc x (fun x => next (S3 x)) (E3 K) := by kernel_rfl
theorem amr : ou D (jh Tryd.f59 3) := j5 S3 amo (by kernel_rfl) P.bq5 agu
theorem loops : fq (Tryd.f59.body.getD .skip) = [jh Tryd.f59 3] := by kernel_rfl
noncomputable def dx : Abs.Spec := fun args K => match args with
 | [.sl (.rows .u8 a)] => P.z8 a (fun b => K (.fr 5 (.ints .u8 b)))
 | _ => none
noncomputable def spec : Abs.Spec := fun args K => dx (ow [.sl (.rows .u8 [])] args) K
theorem ok0 : Proved Tryd.prog GLO.gB 59 dx := by
 refine gu (D := D) (fn := Tryd.f59) (c := Tryd.f59.body.getD .skip) [.fr 5 (.ints .u8 [])] (by kernel_rfl) (cu (by kernel_rfl)) (by kernel_rfl) (by kernel_rfl) (by kernel_rfl) trivial trivial ?_ ?_
 · rw [loops]; exact ⟨amr, trivial⟩
 · intro args K r h
   unfold dx at h
   split at h
   · rw [P.ap0] at h; exact Eq.trans (by kernel_rfl) h
   · cases h
theorem ok : Proved Tryd.prog GLO.gB 59 spec := jc _ ok0
end z8

namespace vk
noncomputable def D : Ctx := ({ P := Tryd.prog, G := [], globs := GLO.gB, hints := [], loops := [], inl := [] } : Ctx)
theorem loops : fq (Tryd.f82.body.getD .skip) = [] := by kernel_rfl
noncomputable def dx : Abs.Spec := fun args K => match args with
 | [.v (.int .i64 a)] => P.vk a (fun b => K (.v (.int .i64 b)))
 | _ => none
noncomputable def spec : Abs.Spec := dx
theorem ok0 : Proved Tryd.prog GLO.gB 82 dx := by
 refine gu (D := D) (fn := Tryd.f82) (c := Tryd.f82.body.getD .skip) [.any] (by kernel_rfl) (cu (by kernel_rfl)) (by kernel_rfl) (by kernel_rfl) (by kernel_rfl) trivial trivial ?_ ?_
 · rw [loops]; exact trivial
 · intro args K r h
   unfold dx at h
   split at h
   · rw [P.anl] at h; exact Eq.trans (by kernel_rfl) h
   · cases h
theorem ok : Proved Tryd.prog GLO.gB 82 spec := ok0
end vk

namespace wu
noncomputable def D : Ctx := ({ P := Tryd.prog, G := [], globs := GLO.gB, hints := [], loops := [], inl := [] } : Ctx)
theorem loops : fq (Tryd.f96.body.getD .skip) = [] := by kernel_rfl
noncomputable def dx : Abs.Spec := fun args K => match args with
 | [.v (.int .u64 a), .v (.int .i64 b), .v (.bool c)] => P.wu a b c (fun d => K (.v (.int .u64 d)))
 | _ => none
noncomputable def spec : Abs.Spec := dx
theorem ok0 : Proved Tryd.prog GLO.gB 96 dx := by
 refine gu (D := D) (fn := Tryd.f96) (c := Tryd.f96.body.getD .skip) [.any] (by kernel_rfl) (cu (by kernel_rfl)) (by kernel_rfl) (by kernel_rfl) (by kernel_rfl) trivial trivial ?_ ?_
 · rw [loops]; exact trivial
 · intro args K r h
   unfold dx at h
   split at h
   · rw [P.afs] at h; exact Eq.trans (by kernel_rfl) h
   · cases h
theorem ok : Proved Tryd.prog GLO.gB 96 spec := ok0
end wu

namespace wh
noncomputable def D : Ctx := ({ P := Tryd.prog, G := [(96, wu.spec)], globs := GLO.gB, hints := [], loops := [], inl := [] } : Ctx)
theorem loops : fq (Tryd.f91.body.getD .skip) = [] := by kernel_rfl
noncomputable def dx : Abs.Spec := fun args K => match args with
 | [.v (.int .u64 a), .v (.int .i64 b), .v (.int .i64 c), .v (.int .i64 d), .v (.bool e), .v (.bool f)] => P.wh a b c d e f (fun g => K (.v (.int .u64 g)))
 | _ => none
noncomputable def spec : Abs.Spec := dx
theorem ok0 : Proved Tryd.prog GLO.gB 91 dx := by
 refine gu (D := D) (fn := Tryd.f91) (c := Tryd.f91.body.getD .skip) [.any] (by kernel_rfl) (cu (by kernel_rfl)) (by kernel_rfl) (by kernel_rfl) (by kernel_rfl) ⟨wu.ok, trivial⟩ trivial ?_ ?_
 · rw [loops]; exact trivial
 · intro args K r h
   unfold dx at h
   split at h
   · rw [P.adg] at h; exact Eq.trans (by kernel_rfl) h
   · cases h
theorem ok : Proved Tryd.prog GLO.gB 91 spec := ok0
end wh

namespace u7
noncomputable def D : Ctx := ({ P := Tryd.prog, G := [], globs := GLO.gB, hints := [], loops := [], inl := [] } : Ctx)
theorem loops : fq (Tryd.f88.body.getD .skip) = [] := by kernel_rfl
noncomputable def dx : Abs.Spec := fun args K => match args with
 | [] => P.u7 (fun a => K (.arr .u64 64 a))
 | _ => none
noncomputable def spec : Abs.Spec := dx
theorem ok0 : Proved Tryd.prog GLO.gB 88 dx := by
 refine gu (D := D) (fn := Tryd.f88) (c := Tryd.f88.body.getD .skip) [.any] (by kernel_rfl) (cu (by kernel_rfl)) (by kernel_rfl) (by kernel_rfl) (by kernel_rfl) trivial trivial ?_ ?_
 · rw [loops]; exact trivial
 · intro args K r h
   unfold dx at h
   split at h
   · rw [P.ae3] at h; exact Eq.trans (by kernel_rfl) h
   · cases h
theorem ok : Proved Tryd.prog GLO.gB 88 spec := ok0
end u7

namespace vg
noncomputable def D : Ctx := ({ P := Tryd.prog, G := [], globs := GLO.gB, hints := [], loops := [], inl := [] } : Ctx)
theorem loops : fq (Tryd.f89.body.getD .skip) = [] := by kernel_rfl
noncomputable def dx : Abs.Spec := fun args K => match args with
 | [] => P.vg (fun a => K (.arr .u64 80 a))
 | _ => none
noncomputable def spec : Abs.Spec := dx
theorem ok0 : Proved Tryd.prog GLO.gB 89 dx := by
 refine gu (D := D) (fn := Tryd.f89) (c := Tryd.f89.body.getD .skip) [.any] (by kernel_rfl) (cu (by kernel_rfl)) (by kernel_rfl) (by kernel_rfl) (by kernel_rfl) trivial trivial ?_ ?_
 · rw [loops]; exact trivial
 · intro args K r h
   unfold dx at h
   split at h
   · rw [P.ae2] at h; exact Eq.trans (by kernel_rfl) h
   · cases h
theorem ok : Proved Tryd.prog GLO.gB 89 spec := ok0
end vg

namespace aaw
abbrev X6 := P.bjv
def S6 : X6 → ASt := fun (b, c, d, e, f, a, g) => ⟨[(10, .own 0), (0, .sl (.ints .u8 b)), (1, .v (.bool c)), (2, .v (.int .i64 d)), (3, .v (.int .u64 e)), (9, .v (.int .i64 f)), (11, .v (.int .i64 a))], [(0, some ⟨.row 25 (.ints .u64 g), false⟩)], 1, 82⟩
def V6 : ASt → Option X6
 | ⟨[(10, .own 0), (0, .sl (.ints .u8 b)), (1, .v (.bool c)), (2, .v (.int .i64 d)), (3, .v (.int .u64 e)), (9, .v (.int .i64 f)), (11, .v (.int .i64 a))], [(0, some ⟨.row 25 (.ints .u64 g), false⟩)], 1, 82⟩ => some (b, c, d, e, f, a, g)
 | _ => none
theorem bpk (st) (x) (h : V6 st = some x) : st = S6 x := by
 unfold V6 at h
 split at h
 · cases h; rfl
 · cases h
abbrev Y6 := P.bna
def E6 (K : AExit → ASt → Option R) : Y6 → Option R := (fun x => K (.exit 0) (S6 x))
noncomputable def L6 : zn := fun st K => ahn (V6 st) fun x => P.bon x (E6 K)
noncomputable def D : Ctx := ({ P := Tryd.prog, G := [(53, aao.spec), (91, wh.spec)], globs := GLO.gB, hints := [(6, ⟨[0, 1, 2, 3, 9, 11], [(10, 25, .ints .u64 [])], [8], [], none, [], [], []⟩)], loops := [(6, L6)], inl := [] } : Ctx)
theorem bk6 (K) (next) (x) : qb D (jh Tryd.f90 6) K next (S6 x) = P.bi6 x (fun x => next (S6 x)) (E6 K) := by kernel_rfl
theorem bou : ou D (jh Tryd.f90 6) := j5 S6 bpk (by kernel_rfl) P.brg bk6
theorem loops : fq (Tryd.f90.body.getD .skip) = [jh Tryd.f90 6] := by kernel_rfl
noncomputable def dx : Abs.Spec := fun args K => match args with
 | [.sl (.ints .u8 a), .v (.bool b), .v (.int .i64 c), .v (.int .u64 d)] => P.aaw a b c d (fun e => K (.fr 25 (.ints .u64 e)))
 | _ => none
noncomputable def spec : Abs.Spec := fun args K => dx (ow [.sl (.ints .u8 []), .any, .any, .any] args) K
theorem ok0 : Proved Tryd.prog GLO.gB 90 dx := by
 refine gu (D := D) (fn := Tryd.f90) (c := Tryd.f90.body.getD .skip) [.fr 25 (.ints .u64 [])] (by kernel_rfl) (cu (by kernel_rfl)) (by kernel_rfl) (by kernel_rfl) (by kernel_rfl) ⟨aao.ok, wh.ok, trivial⟩ trivial ?_ ?_
 · rw [loops]; exact ⟨bou, trivial⟩
 · intro args K r h
   unfold dx at h
   split at h
   · rw [P.aii] at h; exact Eq.trans (by kernel_rfl) h
   · cases h
theorem ok : Proved Tryd.prog GLO.gB 90 spec := jc _ ok0
end aaw

namespace ab4
abbrev X11 := P.bjg
def S11 : X11 → ASt := fun (g, h, i, f, a, b, c, d, j, e) => ⟨[(2, .v (.bool g)), (3, .ptr 0 0), (6, .ptr 1 0), (7, .v (.int .i64 h)), (8, .v (.int .u64 i)), (9, .ptr 2 0), (10, .ptr 3 0), (11, .own 4), (12, .ptr 5 0), (13, .v (.int .i64 f))], [(0, some ⟨.box 111 [.arr .u64 8 a], false⟩), (1, some ⟨.box 111 [.arr .u64 8 b], false⟩), (2, some ⟨.box 144 [.arr .u64 64 c], false⟩), (3, some ⟨.box 146 [.arr .u64 80 d], false⟩), (4, some ⟨.row 25 (.ints .u64 j), false⟩), (5, some ⟨.box 111 [.arr .u64 8 e], false⟩)], 6, 137⟩
def V11 : ASt → Option X11
 | ⟨[(2, .v (.bool g)), (3, .ptr 0 0), (6, .ptr 1 0), (7, .v (.int .i64 h)), (8, .v (.int .u64 i)), (9, .ptr 2 0), (10, .ptr 3 0), (11, .own 4), (12, .ptr 5 0), (13, .v (.int .i64 f))], [(0, some ⟨.box 111 [.arr .u64 8 a], false⟩), (1, some ⟨.box 111 [.arr .u64 8 b], false⟩), (2, some ⟨.box 144 [.arr .u64 64 c], false⟩), (3, some ⟨.box 146 [.arr .u64 80 d], false⟩), (4, some ⟨.row 25 (.ints .u64 j), false⟩), (5, some ⟨.box 111 [.arr .u64 8 e], false⟩)], 6, 137⟩ => some (g, h, i, f, a, b, c, d, j, e)
 | _ => none
theorem bdv (st) (x) (h : V11 st = some x) : st = S11 x := by
 unfold V11 at h
 split at h
 · cases h; rfl
 · cases h
abbrev Y11 := P.bp8
abbrev X25 := P.bku
def S25 : X25 → ASt := fun (e, d, a, b, c) => ⟨[(3, .ptr 0 0), (6, .ptr 1 0), (8, .v (.int .u64 e)), (12, .ptr 5 0), (19, .v (.int .i64 d))], [(0, some ⟨.box 111 [.arr .u64 8 a], false⟩), (1, some ⟨.box 111 [.arr .u64 8 b], false⟩), (5, some ⟨.box 111 [.arr .u64 8 c], false⟩)], 80, 137⟩
def V25 : ASt → Option X25
 | ⟨[(3, .ptr 0 0), (6, .ptr 1 0), (8, .v (.int .u64 e)), (12, .ptr 5 0), (19, .v (.int .i64 d))], [(0, some ⟨.box 111 [.arr .u64 8 a], false⟩), (1, some ⟨.box 111 [.arr .u64 8 b], false⟩), (5, some ⟨.box 111 [.arr .u64 8 c], false⟩)], 80, 137⟩ => some (e, d, a, b, c)
 | _ => none
theorem bjp (st) (x) (h : V25 st = some x) : st = S25 x := by
 unfold V25 at h
 split at h
 · cases h; rfl
 · cases h
abbrev Y25 := P.bpv
def E11 (K : AExit → ASt → Option R) : Y11 → Option R := (fun x => K (.exit 0) (S11 x))
noncomputable def L11 : zn := fun st K => ahn (V11 st) fun x => P.bov x (E11 K)
def E25 (K : AExit → ASt → Option R) : Y25 → Option R := (fun x => K (.exit 2) (S25 x))
noncomputable def L25 : zn := fun st K => ahn (V25 st) fun x => P.boh x (E25 K)
noncomputable def D : Ctx := ({ P := Tryd.prog, G := [(88, u7.spec), (89, vg.spec), (90, aaw.spec), (91, wh.spec)], globs := GLO.gB, hints := [(25, ⟨[3, 6, 8, 12, 19], [], [6], [], some (80, [0, 1, 5]), [], [], []⟩), (11, ⟨[2, 3, 6, 7, 8, 9, 10, 11, 12, 13], [], [6], [], none, [], [], []⟩)], loops := [(11, L11), (25, L25)], inl := [] } : Ctx)
theorem ayn (K) (next) (x) : qb D (jh Tryd.f83 11) K next (S11 x) = P.bja x (fun x => next (S11 x)) (E11 K) := by kernel_rfl
theorem bec : ou D (jh Tryd.f83 11) := j5 S11 bdv (by kernel_rfl) P.brm ayn
theorem bhg (K) (next) (x) : qb D (jh Tryd.f83 25) K next (S25 x) = P.bi8 x (fun x => next (S25 x)) (E25 K) := by kernel_rfl
theorem bl5 : ou D (jh Tryd.f83 25) := j5 S25 bjp (by kernel_rfl) P.bq1 bhg
theorem loops : fq (Tryd.f83.body.getD .skip) = [jh Tryd.f83 11, jh Tryd.f83 25] := by kernel_rfl
noncomputable def dx : Abs.Spec := fun args K => match args with
 | [.arr .u64 8 a, .sl (.ints .u8 b), .v (.bool c)] => P.ab4 a b c (fun d => K (.arr .u64 8 d))
 | _ => none
noncomputable def spec : Abs.Spec := fun args K => dx (ow [.any, .sl (.ints .u8 []), .any] args) K
theorem ok0 : Proved Tryd.prog GLO.gB 83 dx := by
 refine gu (D := D) (fn := Tryd.f83) (c := Tryd.f83.body.getD .skip) [.any] (by kernel_rfl) (cu (by kernel_rfl)) (by kernel_rfl) (by kernel_rfl) (by kernel_rfl) ⟨u7.ok, vg.ok, aaw.ok, wh.ok, trivial⟩ trivial ?_ ?_
 · rw [loops]; exact ⟨bec, bl5, trivial⟩
 · intro args K r h
   unfold dx at h
   split at h
   · rw [P.air] at h; exact Eq.trans (by kernel_rfl) h
   · cases h
theorem ok : Proved Tryd.prog GLO.gB 83 spec := jc _ ok0
end ab4

namespace abe
abbrev X4 := P.bj1
def S4 : X4 → ASt := fun (h, i, a, b, c, d, e, f, g) => ⟨[(2, .ptr 0 0), (4, .ptr 1 0), (5, .v (.int .i64 h)), (6, .sl (.ints .u8 i))], [(0, some ⟨.box 113 [.v (.int .i64 a), .arr .u64 8 b, .sl (.ints .u8 c), .v (.int .u64 d)], false⟩), (1, some ⟨.box 113 [.v (.int .i64 e), .arr .u64 8 f, .v (.slice none 0 0), .v (.int .u64 g)], false⟩)], 40, 41⟩
def V4 : ASt → Option X4
 | ⟨[(2, .ptr 0 0), (4, .ptr 1 0), (5, .v (.int .i64 h)), (6, .sl (.ints .u8 i))], [(0, some ⟨.box 113 [.v (.int .i64 a), .arr .u64 8 b, .sl (.ints .u8 c), .v (.int .u64 d)], false⟩), (1, some ⟨.box 113 [.v (.int .i64 e), .arr .u64 8 f, .v (.slice none 0 0), .v (.int .u64 g)], false⟩)], 40, 41⟩ => some (h, i, a, b, c, d, e, f, g)
 | _ => none
theorem akk (st) (x) (h : V4 st = some x) : st = S4 x := by
 unfold V4 at h
 split at h
 · cases h; rfl
 · cases h
abbrev Y4 := P.bqa
def E4 (K : AExit → ASt → Option R) : Y4 → Option R := (fun x => K (.exit 0) (S4 x))
noncomputable def L4 : zn := fun st K => ahn (V4 st) fun x => P.bpc x (E4 K)
noncomputable def D : Ctx := ({ P := Tryd.prog, G := [(59, z8.spec), (82, vk.spec), (83, ab4.spec)], globs := GLO.gB, hints := [(4, ⟨[2, 4, 5, 6], [], [4], [(6, .sl (.ints .u8 []))], some (40, [0, 1]), [], [], []⟩)], loops := [(4, L4)], inl := [] } : Ctx)
theorem afi (K) (next) (x) : qb D (jh Tryd.f74 4) K next (S4 x) = P.bjc x (fun x => next (S4 x)) (E4 K) := by kernel_rfl
theorem aj9 : ou D (jh Tryd.f74 4) := j5 S4 akk (by kernel_rfl) P.br1 afi
theorem loops : fq (Tryd.f74.body.getD .skip) = [jh Tryd.f74 4] := by kernel_rfl
noncomputable def dx : Abs.Spec := fun args K => match args with
 | [.agg [.v (.int .i64 c), .arr .u64 8 a, .sl (.ints .u8 d), .v (.int .u64 e)], .sl (.ints .u8 i)] => P.abe c a d e i (fun f b g h => K (.agg [.v (.int .i64 f), .arr .u64 8 b, .sl (.ints .u8 g), .v (.int .u64 h)]))
 | _ => none
noncomputable def spec : Abs.Spec := fun args K => dx (ow [.agg [.any, .any, .sl (.ints .u8 []), .any], .sl (.ints .u8 [])] args) K
theorem ok0 : Proved Tryd.prog GLO.gB 74 dx := by
 refine gu (D := D) (fn := Tryd.f74) (c := Tryd.f74.body.getD .skip) [.agg [.any, .any, .sl (.ints .u8 []), .any]] (by kernel_rfl) (cu (by kernel_rfl)) (by kernel_rfl) (by kernel_rfl) (by kernel_rfl) ⟨z8.ok, vk.ok, ab4.ok, trivial⟩ trivial ?_ ?_
 · rw [loops]; exact ⟨aj9, trivial⟩
 · intro args K r h
   unfold dx at h
   split at h
   · rw [P.ash] at h; exact Eq.trans (by kernel_rfl) h
   · cases h
theorem ok : Proved Tryd.prog GLO.gB 74 spec := jc _ ok0
end abe

end
