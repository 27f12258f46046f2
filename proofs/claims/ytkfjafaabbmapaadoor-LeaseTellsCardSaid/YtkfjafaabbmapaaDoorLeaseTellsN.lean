/-
  LeaseTells, part 14: an interpreter of my own over abstract values, the pure functions, the walks and the plain law.
-/

import Derived.Test.YtkfjafaabbmapaaDoorLeaseTellsK
import Derived.Test.YtkfjafaabbmapaaDoorLeaseTellsH
import Derived.Test.YtkfjafaabbmapaaDoorProg
import Derived.Test.YtkfjafaabbmapaaDoorLeaseTellsJ
import Derived.Test.YtkfjafaabbmapaaDoorLeaseTellsM
import Derived.KernelRfl
import Derived.Test.YtkfjafaabbmapaaDoorLeaseTellsI

section
open Go Go.Abs Go.Proofs
set_option maxRecDepth 100000
set_option maxHeartbeats 0
set_option linter.unusedVariables false

namespace kr
abbrev X4 := P.bkb
def S4 : X4 → ASt := fun (k, l, j, a, b, c, d, e, f, g, h, i) => ⟨[(2, .sl (.ints .u8 k)), (3, .ptr 0 0), (4, .ptr 1 0), (6, .ptr 2 0), (7, .ptr 3 0), (8, .v (.int .i64 l)), (19, .v (.int .i64 j))], [(0, some ⟨.box 138 [.v (.int .i64 a), .v (.int .i64 b), .arr .i64 3 c, .arr .i64 3 d, .arr .i64 3 e, .arr .i64 3 f, .fn (.func 87) [] []], false⟩), (1, some ⟨.box 111 [.arr .u64 8 g], false⟩), (2, some ⟨.box 111 [.arr .u64 8 h], false⟩), (3, some ⟨.box 154 [.arr .u64 16 i], false⟩)], 4, 142⟩
def V4 : ASt → Option X4
 | ⟨[(2, .sl (.ints .u8 k)), (3, .ptr 0 0), (4, .ptr 1 0), (6, .ptr 2 0), (7, .ptr 3 0), (8, .v (.int .i64 l)), (19, .v (.int .i64 j))], [(0, some ⟨.box 138 [.v (.int .i64 a), .v (.int .i64 b), .arr .i64 3 c, .arr .i64 3 d, .arr .i64 3 e, .arr .i64 3 f, .fn (.func 87) [] []], false⟩), (1, some ⟨.box 111 [.arr .u64 8 g], false⟩), (2, some ⟨.box 111 [.arr .u64 8 h], false⟩), (3, some ⟨.box 154 [.arr .u64 16 i], false⟩)], 4, 142⟩ => some (k, l, j, a, b, c, d, e, f, g, h, i)
 | _ => none
theorem akk (st) (x) (h : V4 st = some x) : st = S4 x := by
 unfold V4 at h
 split at h
 · cases h; rfl
 · cases h
abbrev Y4 := P.bqt
abbrev X10 := P.bjs
def S10 : X10 → ASt := fun (k, l, a, b, c, d, e, f, g, h, i, j) => ⟨[(3, .ptr 0 0), (4, .ptr 1 0), (6, .ptr 2 0), (7, .ptr 3 0), (10, .ptr 4 0), (37, .v (.int .i64 k)), (38, .v (.int .i64 l))], [(3, some ⟨.box 154 [.arr .u64 16 a], false⟩), (2, some ⟨.box 111 [.arr .u64 8 b], false⟩), (1, some ⟨.box 111 [.arr .u64 8 c], false⟩), (0, some ⟨.box 138 [.v (.int .i64 d), .v (.int .i64 e), .arr .i64 3 f, .arr .i64 3 g, .arr .i64 3 h, .arr .i64 3 i, .fn (.func 87) [] []], false⟩), (4, some ⟨.box 111 [.arr .u64 8 j], false⟩)], 5, 142⟩
def V10 : ASt → Option X10
 | ⟨[(3, .ptr 0 0), (4, .ptr 1 0), (6, .ptr 2 0), (7, .ptr 3 0), (10, .ptr 4 0), (37, .v (.int .i64 k)), (38, .v (.int .i64 l))], [(3, some ⟨.box 154 [.arr .u64 16 a], false⟩), (2, some ⟨.box 111 [.arr .u64 8 b], false⟩), (1, some ⟨.box 111 [.arr .u64 8 c], false⟩), (0, some ⟨.box 138 [.v (.int .i64 d), .v (.int .i64 e), .arr .i64 3 f, .arr .i64 3 g, .arr .i64 3 h, .arr .i64 3 i, .fn (.func 87) [] []], false⟩), (4, some ⟨.box 111 [.arr .u64 8 j], false⟩)], 5, 142⟩ => some (k, l, a, b, c, d, e, f, g, h, i, j)
 | _ => none
theorem awq (st) (x) (h : V10 st = some x) : st = S10 x := by
 unfold V10 at h
 split at h
 · cases h; rfl
 · cases h
abbrev Y10 := P.bor
abbrev X21 := P.bkf
def S21 : X21 → ASt := fun (a, b, c, d) => ⟨[(4, .ptr 1 0), (6, .ptr 2 0), (10, .ptr 4 0), (129, .v (.int .i64 a))], [(1, some ⟨.box 111 [.arr .u64 8 b], false⟩), (2, some ⟨.box 111 [.arr .u64 8 c], false⟩), (4, some ⟨.box 111 [.arr .u64 8 d], false⟩)], 120, 142⟩
def V21 : ASt → Option X21
 | ⟨[(4, .ptr 1 0), (6, .ptr 2 0), (10, .ptr 4 0), (129, .v (.int .i64 a))], [(1, some ⟨.box 111 [.arr .u64 8 b], false⟩), (2, some ⟨.box 111 [.arr .u64 8 c], false⟩), (4, some ⟨.box 111 [.arr .u64 8 d], false⟩)], 120, 142⟩ => some (a, b, c, d)
 | _ => none
theorem bdd (st) (x) (h : V21 st = some x) : st = S21 x := by
 unfold V21 at h
 split at h
 · cases h; rfl
 · cases h
abbrev Y21 := P.bp3
def E4 (K : AExit → ASt → Option R) : Y4 → Option R := (fun x => K (.exit 0) (S4 x))
noncomputable def L4 : zn := fun st K => ahn (V4 st) fun x => P.bpw x (E4 K)
def E10 (K : AExit → ASt → Option R) : Y10 → Option R := (fun x => K (.exit 2) (S10 x))
noncomputable def L10 : zn := fun st K => ahn (V10 st) fun x => P.bpr x (E10 K)
def E21 (K : AExit → ASt → Option R) : Y21 → Option R := (fun x => K (.exit 4) (S21 x))
noncomputable def L21 : zn := fun st K => ahn (V21 st) fun x => P.bpt x (E21 K)
noncomputable def D : Ctx := ({ P := Tryd.prog, G := [(65, rz.spec), (87, ni.spec), (94, jm.spec), (95, jv.spec)], globs := GLO.gB, hints := [(21, ⟨[4, 6, 10, 129], [], [6], [], some (120, [1, 2, 4]), [], [], []⟩), (10, ⟨[3, 4, 6, 7, 10, 37, 38], [], [6], [], none, [], [], []⟩), (4, ⟨[2, 3, 4, 6, 7, 8, 19], [], [6], [], none, [], [], []⟩)], loops := [(4, L4), (10, L10), (21, L21)], inl := [] } : Ctx)
theorem afi (K) (next) (x) : qb D (jh Tryd.f86 4) K next (S4 x) = P.bj9 x (fun x => next (S4 x)) (E4 K) := by kernel_rfl
theorem aj9 : ou D (jh Tryd.f86 4) := j5 S4 akk (by kernel_rfl) P.brj afi
theorem apy (K) (next) (x) : qb D (jh Tryd.f86 10) K next (S10 x) = P.bli x (fun x => next (S10 x)) (E10 K) := by kernel_rfl
theorem awj : ou D (jh Tryd.f86 10) := j5 S10 awq (by kernel_rfl) P.brq apy
theorem ax1 (K) (next) (x) : qb D (jh Tryd.f86 21) K next (S21 x) = P.blv x (fun x => next (S21 x)) (E21 K) := by kernel_rfl
theorem bdg : ou D (jh Tryd.f86 21) := j5 S21 bdd (by kernel_rfl) P.bre ax1
theorem loops : fq (Tryd.f86.body.getD .skip) = [jh Tryd.f86 4, jh Tryd.f86 10, jh Tryd.f86 21] := by kernel_rfl
noncomputable def dx : Abs.Spec := fun args K => match args with
 | [.agg [.v (.int .i64 f), .v (.int .i64 e), .arr .i64 3 a, .arr .i64 3 b, .arr .i64 3 c, .arr .i64 3 d, .fn (.func 87) [] []], .arr .u64 8 g, .sl (.ints .u8 h)] => P.kr f e a b c d g h (fun i => K (.arr .u64 8 i))
 | _ => none
noncomputable def spec : Abs.Spec := fun args K => dx (ow [.any, .any, .sl (.ints .u8 [])] args) K
theorem ok0 : Proved Tryd.prog GLO.gB 86 dx := by
 refine gu (D := D) (fn := Tryd.f86) (c := Tryd.f86.body.getD .skip) [.any] (by kernel_rfl) (cu (by kernel_rfl)) (by kernel_rfl) (by kernel_rfl) (by kernel_rfl) ⟨rz.ok, ni.ok, jm.ok, jv.ok, trivial⟩ trivial ?_ ?_
 · rw [loops]; exact ⟨aj9, awj, bdg, trivial⟩
 · intro args K r h
   unfold dx at h
   split at h
   · rw [P.aby] at h; exact Eq.trans (by kernel_rfl) h
   · cases h
theorem ok : Proved Tryd.prog GLO.gB 86 spec := jc _ ok0
end kr

namespace ny
abbrev X3 := P.bj6
def S3 : X3 → ASt := fun (l, j, k, a, b, c, d, e, f, g, h, i) => ⟨[(2, .sl (.ints .u8 l)), (3, .ptr 0 0), (4, .ptr 1 0), (6, .ptr 2 0), (8, .ptr 3 0), (14, .arr .u64 8 j), (15, .v (.int .i64 k))], [(0, some ⟨.box 138 [.v (.int .i64 a), .v (.int .i64 b), .arr .i64 3 c, .arr .i64 3 d, .arr .i64 3 e, .arr .i64 3 f, .fn (.func 87) [] []], false⟩), (1, some ⟨.box 111 [.arr .u64 8 g], false⟩), (2, some ⟨.box 111 [.arr .u64 8 h], false⟩), (3, some ⟨.box 111 [.arr .u64 8 i], false⟩)], 4, 50⟩
def V3 : ASt → Option X3
 | ⟨[(2, .sl (.ints .u8 l)), (3, .ptr 0 0), (4, .ptr 1 0), (6, .ptr 2 0), (8, .ptr 3 0), (14, .arr .u64 8 j), (15, .v (.int .i64 k))], [(0, some ⟨.box 138 [.v (.int .i64 a), .v (.int .i64 b), .arr .i64 3 c, .arr .i64 3 d, .arr .i64 3 e, .arr .i64 3 f, .fn (.func 87) [] []], false⟩), (1, some ⟨.box 111 [.arr .u64 8 g], false⟩), (2, some ⟨.box 111 [.arr .u64 8 h], false⟩), (3, some ⟨.box 111 [.arr .u64 8 i], false⟩)], 4, 50⟩ => some (l, j, k, a, b, c, d, e, f, g, h, i)
 | _ => none
theorem amo (st) (x) (h : V3 st = some x) : st = S3 x := by
 unfold V3 at h
 split at h
 · cases h; rfl
 · cases h
abbrev Y3 := P.bpz
abbrev X8 := P.blq
def S8 : X8 → ASt := fun (k, j, a, b, c, d, e, f, g, h, i) => ⟨[(2, .sl (.ints .u8 k)), (3, .ptr 0 0), (4, .ptr 1 0), (6, .ptr 2 0), (8, .ptr 3 0), (11, .v (.int .i64 j))], [(3, some ⟨.box 111 [.arr .u64 8 a], false⟩), (2, some ⟨.box 111 [.arr .u64 8 b], false⟩), (1, some ⟨.box 111 [.arr .u64 8 c], false⟩), (0, some ⟨.box 138 [.v (.int .i64 d), .v (.int .i64 e), .arr .i64 3 f, .arr .i64 3 g, .arr .i64 3 h, .arr .i64 3 i, .fn (.func 87) [] []], false⟩)], 4, 50⟩
def V8 : ASt → Option X8
 | ⟨[(2, .sl (.ints .u8 k)), (3, .ptr 0 0), (4, .ptr 1 0), (6, .ptr 2 0), (8, .ptr 3 0), (11, .v (.int .i64 j))], [(3, some ⟨.box 111 [.arr .u64 8 a], false⟩), (2, some ⟨.box 111 [.arr .u64 8 b], false⟩), (1, some ⟨.box 111 [.arr .u64 8 c], false⟩), (0, some ⟨.box 138 [.v (.int .i64 d), .v (.int .i64 e), .arr .i64 3 f, .arr .i64 3 g, .arr .i64 3 h, .arr .i64 3 i, .fn (.func 87) [] []], false⟩)], 4, 50⟩ => some (k, j, a, b, c, d, e, f, g, h, i)
 | _ => none
theorem bdc (st) (x) (h : V8 st = some x) : st = S8 x := by
 unfold V8 at h
 split at h
 · cases h; rfl
 · cases h
abbrev Y8 := P.bok
abbrev X12 := P.bj0
def S12 : X12 → ASt := fun (e, c, d, a, b) => ⟨[(2, .sl (.ints .u8 e)), (4, .ptr 1 0), (6, .ptr 2 0), (39, .arr .u64 8 c), (40, .v (.int .i64 d))], [(1, some ⟨.box 111 [.arr .u64 8 a], false⟩), (2, some ⟨.box 111 [.arr .u64 8 b], false⟩)], 120, 50⟩
def V12 : ASt → Option X12
 | ⟨[(2, .sl (.ints .u8 e)), (4, .ptr 1 0), (6, .ptr 2 0), (39, .arr .u64 8 c), (40, .v (.int .i64 d))], [(1, some ⟨.box 111 [.arr .u64 8 a], false⟩), (2, some ⟨.box 111 [.arr .u64 8 b], false⟩)], 120, 50⟩ => some (e, c, d, a, b)
 | _ => none
theorem bc4 (st) (x) (h : V12 st = some x) : st = S12 x := by
 unfold V12 at h
 split at h
 · cases h; rfl
 · cases h
abbrev Y12 := P.bnr
def E3 (K : AExit → ASt → Option R) : Y3 → Option R := (fun x => K (.exit 0) (S3 x))
noncomputable def L3 : zn := fun st K => ahn (V3 st) fun x => P.bnh x (E3 K)
def E8 (K : AExit → ASt → Option R) : Y8 → Option R := (fun x => K (.exit 2) (S8 x))
noncomputable def L8 : zn := fun st K => ahn (V8 st) fun x => P.boy x (E8 K)
def E12 (K : AExit → ASt → Option R) : Y12 → Option R := (fun x => K (.exit 4) (S12 x))
noncomputable def L12 : zn := fun st K => ahn (V12 st) fun x => P.bpi x (E12 K)
noncomputable def D : Ctx := ({ P := Tryd.prog, G := [(86, kr.spec), (87, ni.spec)], globs := GLO.gB, hints := [(12, ⟨[2, 4, 6, 39, 40], [], [6, 7], [], some (120, [1, 2]), [], [], []⟩), (8, ⟨[2, 3, 4, 6, 8, 11], [], [6, 7], [(2, .sl (.ints .u8 []))], none, [], [], []⟩), (3, ⟨[2, 3, 4, 6, 8, 14, 15], [], [6, 7], [], none, [], [], []⟩)], loops := [(3, L3), (8, L8), (12, L12)], inl := [] } : Ctx)
theorem agu (K) (next) (x) : qb D (jh Tryd.f80 3) K next (S3 x) = P.bk4 x (fun x => next (S3 x)) (E3 K) := by kernel_rfl
theorem amr : ou D (jh Tryd.f80 3) := j5 S3 amo (by kernel_rfl) P.brf agu
theorem av6 (K) (next) (x) : qb D (jh Tryd.f80 8) K next (S8 x) = P.bjn x (fun x => next (S8 x)) (E8 K) := by kernel_rfl
theorem bb9 : ou D (jh Tryd.f80 8) := j5 S8 bdc (by kernel_rfl) P.brr av6
theorem ayo (K) (next) (x) : qb D (jh Tryd.f80 12) K next (S12 x) = P.blh x (fun x => next (S12 x)) (E12 K) := by kernel_rfl
theorem beb : ou D (jh Tryd.f80 12) := j5 S12 bc4 (by kernel_rfl) P.bq0 ayo
theorem loops : fq (Tryd.f80.body.getD .skip) = [jh Tryd.f80 3, jh Tryd.f80 8, jh Tryd.f80 12] := by kernel_rfl
noncomputable def dx : Abs.Spec := fun args K => match args with
 | [.agg [.v (.int .i64 f), .v (.int .i64 e), .arr .i64 3 a, .arr .i64 3 b, .arr .i64 3 c, .arr .i64 3 d, .fn (.func 87) [] []], .arr .u64 8 g, .sl (.ints .u8 h)] => P.ny f e a b c d g h (fun i j => K (.tuple [.arr .u64 8 i, .sl (.ints .u8 j)]))
 | _ => none
noncomputable def spec : Abs.Spec := fun args K => dx (ow [.any, .any, .sl (.ints .u8 [])] args) K
theorem ok0 : Proved Tryd.prog GLO.gB 80 dx := by
 refine gu (D := D) (fn := Tryd.f80) (c := Tryd.f80.body.getD .skip) [.any, .sl (.ints .u8 [])] (by kernel_rfl) (cu (by kernel_rfl)) (by kernel_rfl) (by kernel_rfl) (by kernel_rfl) ⟨kr.ok, ni.ok, trivial⟩ trivial ?_ ?_
 · rw [loops]; exact ⟨amr, bb9, beb, trivial⟩
 · intro args K r h
   unfold dx at h
   split at h
   · rw [P.adu] at h; exact Eq.trans (by kernel_rfl) h
   · cases h
theorem ok : Proved Tryd.prog GLO.gB 80 spec := jc _ ok0
end ny

namespace jf
noncomputable def D : Ctx := { P := Tryd.prog, G := [], globs := GLO.gB, hints := [], loops := [] }
noncomputable def c : Code := Tryd.f29.body.getD .skip
noncomputable def o0 : Oper := (bab (sq1 c)).getD 0 az5
noncomputable def o1 : Oper := (bab (sq1 (sq1 (sq2 c)))).getD 0 az5
noncomputable def o2 : Oper := (bab (sq1 (sq1 (sq2 c)))).getD 1 az5
noncomputable def X : Code := boa (sq2 (sq1 (sq2 c)))
noncomputable def rest : Code := sq2 (sq2 c)
noncomputable def ox : Oper := (bab (sq1 X)).getD 0 az5
theorem bhb (a : List Int) : acj D rest ⟨[(0, .sl (.ints .u8 a)), (2, .v (.slice none 0 0))], [], 0, Tryd.f29.ntmps⟩ (brw D [.fr 5 (.ints .u8 a)] Tryd.f29) = br (decide ((0 + a.length) * 1 ≤ 140737488355328)) (some (.fr 5 (.ints .u8 a))) none := by kernel_rfl
noncomputable def dx : Abs.Spec := fun args K => match args with
  | [.sl (.ints .u8 a)] => P.jf a (fun a => K (.fr 5 (.ints .u8 a)))
  | _ => none
theorem bg6 : Tryd.f29.body = some (.seq (.region 0 #[o0] false) (.seq (.seq (.region 1 #[o1, o2] false) (.cond (.tmp 4) X .skip)) rest)) := by kernel_rfl
theorem ok0 : Proved Tryd.prog GLO.gB 29 dx := by
  refine ⟨⟨Tryd.f29, by kernel_rfl, by kernel_rfl, by kernel_rfl⟩, fun args K r h => ?_⟩
  unfold dx at h
  split at h
  · rename_i a
    unfold P.jf at h
    obtain ⟨hp, hK⟩ := pre_some h
    refine ⟨_, hK, bf7 (D := D) (fn := Tryd.f29) (t := 22) (e := 5) trivial (cu (by kernel_rfl)) trivial (by kernel_rfl) (by kernel_rfl) bg6 ⟨by kernel_rfl, by kernel_rfl, by kernel_rfl⟩ ⟨by kernel_rfl, by kernel_rfl, by kernel_rfl⟩ ⟨by kernel_rfl, by kernel_rfl, by kernel_rfl⟩ (by kernel_rfl) (by decide +kernel) (by kernel_rfl) (by kernel_rfl) ⟨2, ox, by kernel_rfl, by kernel_rfl, by kernel_rfl, by kernel_rfl⟩ (by kernel_rfl) rfl rfl rfl ?_⟩
    rw [bhb, dh (by omega)]
  · cases h
noncomputable def spec : Abs.Spec := fun args K => dx (ow [.sl (.ints .u8 [])] args) K
theorem ok : Proved Tryd.prog GLO.gB 29 spec := jc _ ok0
end jf

namespace nu
noncomputable def D : Ctx := ({ P := Tryd.prog, G := [], globs := GLO.gB, hints := [], loops := [], inl := [] } : Ctx)
theorem loops : fq (Tryd.f75.body.getD .skip) = [] := by kernel_rfl
noncomputable def dx : Abs.Spec := fun args K => match args with
 | [.v (.slice none 0 0), .v (.int .i64 a)] => P.nu a (fun b => K (.fr 5 (.ints .u8 b)))
 | _ => none
noncomputable def spec : Abs.Spec := dx
theorem ok0 : Proved Tryd.prog GLO.gB 75 dx := by
 refine am5 (D := D) (fn := Tryd.f75) (c := Tryd.f75.body.getD .skip) 5 (.ints .u8 []) (by kernel_rfl) (cu (by kernel_rfl)) (by kernel_rfl) (by kernel_rfl) (by kernel_rfl) trivial trivial ?_ ?_
 · rw [loops]; exact trivial
 · intro args K r h
   unfold dx at h
   split at h
   · rw [P.ae1] at h; exact Eq.trans (by kernel_rfl) h
   · cases h
theorem ok : Proved Tryd.prog GLO.gB 75 spec := ok0
end nu

namespace jk
abbrev X3 := P.zt4
def S3 : X3 → ASt := fun (c, d, e, a, b) => ⟨[(0, .sl (.rows .u8 c)), (3, .v (.int .i64 d)), (9, .sl (.rows .u8 e)), (10, .v (.int .i64 a)), (11, .v (.int .i64 b))], [], 0, 36⟩
def V3 : ASt → Option X3
 | ⟨[(0, .sl (.rows .u8 c)), (3, .v (.int .i64 d)), (9, .sl (.rows .u8 e)), (10, .v (.int .i64 a)), (11, .v (.int .i64 b))], [], 0, 36⟩ => some (c, d, e, a, b)
 | _ => none
theorem amo (st) (x) (h : V3 st = some x) : st = S3 x := by
 unfold V3 at h
 split at h
 · cases h; rfl
 · cases h
abbrev Y3 := P.zy4
abbrev X11 := P.zt5
def S11 : X11 → ASt := fun (a, b, c, d) => ⟨[(6, .own 1), (25, .sl (.rows .u8 a)), (26, .v (.int .i64 b)), (27, .v (.int .i64 c))], [(1, some ⟨.row 5 (.ints .u8 d), false⟩), (0, none)], 2, 36⟩
def V11 : ASt → Option X11
 | ⟨[(6, .own 1), (25, .sl (.rows .u8 a)), (26, .v (.int .i64 b)), (27, .v (.int .i64 c))], [(1, some ⟨.row 5 (.ints .u8 d), false⟩), (0, none)], 2, 36⟩ => some (a, b, c, d)
 | _ => none
theorem bdv (st) (x) (h : V11 st = some x) : st = S11 x := by
 unfold V11 at h
 split at h
 · cases h; rfl
 · cases h
abbrev Y11 := P.zy5
def E3 (K : AExit → ASt → Option R) : Y3 → Option R := (fun x => K (.exit 0) (S3 x))
noncomputable def L3 : zn := fun st K => ahn (V3 st) fun x => P.zm4 x (E3 K)
def E11 (K : AExit → ASt → Option R) : Y11 → Option R := (fun x => K (.exit 2) (S11 x))
noncomputable def L11 : zn := fun st K => ahn (V11 st) fun x => P.zm5 x (E11 K)
noncomputable def D : Ctx := ({ P := Tryd.prog, G := [(75, nu.spec)], globs := GLO.gB, hints := [(11, ⟨[25, 26, 27], [(6, 5, .ints .u8 [])], [2], [], none, [], [], []⟩), (3, ⟨[0, 3, 9, 10, 11], [], [2], [], none, [], [], []⟩)], loops := [(3, L3), (11, L11)], inl := [] } : Ctx)
theorem agu (K) (next) (x) : qb D (jh Tryd.f66 3) K next (S3 x) = P.zs4 x (fun x => next (S3 x)) (E3 K) := by kernel_rfl
theorem amr : ou D (jh Tryd.f66 3) := j5 S3 amo (by kernel_rfl) P.ze4 agu
theorem ayn (K) (next) (x) : qb D (jh Tryd.f66 11) K next (S11 x) = P.zs5 x (fun x => next (S11 x)) (E11 K) := by kernel_rfl
theorem bec : ou D (jh Tryd.f66 11) := j5 S11 bdv (by kernel_rfl) P.ze5 ayn
theorem loops : fq (Tryd.f66.body.getD .skip) = [jh Tryd.f66 3, jh Tryd.f66 11] := by kernel_rfl
noncomputable def dx : Abs.Spec := fun args K => match args with
 | [.sl (.rows .u8 a)] => P.jk a (fun b => K (.fr 5 (.ints .u8 b)))
 | _ => none
noncomputable def spec : Abs.Spec := fun args K => dx (ow [.sl (.rows .u8 [])] args) K
theorem ok0 : Proved Tryd.prog GLO.gB 66 dx := by
 refine gu (D := D) (fn := Tryd.f66) (c := Tryd.f66.body.getD .skip) [.fr 5 (.ints .u8 [])] (by kernel_rfl) (cu (by kernel_rfl)) (by kernel_rfl) (by kernel_rfl) (by kernel_rfl) ⟨nu.ok, trivial⟩ trivial ?_ ?_
 · rw [loops]; exact ⟨amr, bec, trivial⟩
 · intro args K r h
   unfold dx at h
   split at h
   · rw [P.ad6] at h; exact Eq.trans (by kernel_rfl) h
   · cases h
theorem ok : Proved Tryd.prog GLO.gB 66 spec := jc _ ok0
end jk

namespace ab9
noncomputable def D : Ctx := ({ P := Tryd.prog, G := [(29, jf.spec), (66, jk.spec), (78, og.spec), (79, aa0.spec), (80, ny.spec), (81, abn.spec)], globs := GLO.gB, hints := [], loops := [], inl := [] } : Ctx)
theorem loops : fq (Tryd.f71.body.getD .skip) = [] := by kernel_rfl
noncomputable def dx : Abs.Spec := fun args K => match args with
 | [.agg [.v (.int .i64 c), .arr .u64 8 a, .sl (.ints .u8 d), .v (.int .u64 e)], .sl (.ints .u8 i)] => P.ab9 c a d e i (fun f b g h => K (.agg [.v (.int .i64 f), .arr .u64 8 b, .fr 5 (.ints .u8 g), .v (.int .u64 h)]))
 | _ => none
noncomputable def spec : Abs.Spec := fun args K => dx (ow [.agg [.any, .any, .sl (.ints .u8 []), .any], .sl (.ints .u8 [])] args) K
theorem ok0 : Proved Tryd.prog GLO.gB 71 dx := by
 refine gu (D := D) (fn := Tryd.f71) (c := Tryd.f71.body.getD .skip) [.agg [.any, .any, .fr 5 (.ints .u8 []), .any]] (by kernel_rfl) (cu (by kernel_rfl)) (by kernel_rfl) (by kernel_rfl) (by kernel_rfl) ⟨jf.ok, jk.ok, og.ok, aa0.ok, ny.ok, abn.ok, trivial⟩ trivial ?_ ?_
 · rw [loops]; exact trivial
 · intro args K r h
   unfold dx at h
   split at h
   · rw [P.as5] at h; exact Eq.trans (by kernel_rfl) h
   · cases h
theorem ok : Proved Tryd.prog GLO.gB 71 spec := jc _ ok0
end ab9

namespace adb
abbrev X5 := P.zt2
def S5 : X5 → ASt := fun (c, a, b, d) => ⟨[(0, .v (.int .u64 c)), (5, .own 0), (16, .v (.int .i64 a)), (17, .v (.int .i64 b))], [(0, some ⟨.row 5 (.ints .u8 d), false⟩)], 1, 30⟩
def V5 : ASt → Option X5
 | ⟨[(0, .v (.int .u64 c)), (5, .own 0), (16, .v (.int .i64 a)), (17, .v (.int .i64 b))], [(0, some ⟨.row 5 (.ints .u8 d), false⟩)], 1, 30⟩ => some (c, a, b, d)
 | _ => none
theorem bcx (st) (x) (h : V5 st = some x) : st = S5 x := by
 unfold V5 at h
 split at h
 · cases h; rfl
 · cases h
abbrev Y5 := P.zy2
def E5 (K : AExit → ASt → Option R) : Y5 → Option R := (fun x => K (.exit 0) (S5 x))
noncomputable def L5 : zn := fun st K => ahn (V5 st) fun x => P.zm2 x (E5 K)
noncomputable def D : Ctx := ({ P := Tryd.prog, G := [], globs := GLO.gB, hints := [(5, ⟨[0, 5, 16, 17], [], [4], [], none, [], [], []⟩)], loops := [(5, L5)], inl := [] } : Ctx)
theorem av7 (K) (next) (x) : qb D (jh Tryd.f67 5) K next (S5 x) = P.zs2 x (fun x => next (S5 x)) (E5 K) := by kernel_rfl
theorem bbv : ou D (jh Tryd.f67 5) := j5 S5 bcx (by kernel_rfl) P.ze2 av7
theorem loops : fq (Tryd.f67.body.getD .skip) = [jh Tryd.f67 5] := by kernel_rfl
noncomputable def dx : Abs.Spec := fun args K => match args with
 | [.v (.int .u64 a), .v (.int .i64 b)] => P.adb a b (fun c => K (.fr 5 (.ints .u8 c)))
 | _ => none
noncomputable def spec : Abs.Spec := dx
theorem ok0 : Proved Tryd.prog GLO.gB 67 dx := by
 refine gu (D := D) (fn := Tryd.f67) (c := Tryd.f67.body.getD .skip) [.fr 5 (.ints .u8 [])] (by kernel_rfl) (cu (by kernel_rfl)) (by kernel_rfl) (by kernel_rfl) (by kernel_rfl) trivial trivial ?_ ?_
 · rw [loops]; exact ⟨bbv, trivial⟩
 · intro args K r h
   unfold dx at h
   split at h
   · rw [P.atf] at h; exact Eq.trans (by kernel_rfl) h
   · cases h
theorem ok : Proved Tryd.prog GLO.gB 67 spec := ok0
end adb

namespace aad
abbrev bq3 := P.zt3
def bks : bq3 → ASt := fun (a, b, c) => ⟨[(0, .own 0), (2, .v (.int .i64 a)), (3, .v (.int .i64 b))], [(0, some ⟨.row 5 (.ints .u8 c), false⟩)], 1, 28⟩
def bnk : ASt → Option bq3
 | ⟨[(0, .own 0), (2, .v (.int .i64 a)), (3, .v (.int .i64 b))], [(0, some ⟨.row 5 (.ints .u8 c), false⟩)], 1, 28⟩ => some (a, b, c)
 | _ => none
theorem bh3 (st) (x) (h : bnk st = some x) : st = bks x := by
 unfold bnk at h
 split at h
 · cases h; rfl
 · cases h
abbrev Y1_1 := P.zy3
def bqz (K : AExit → ASt → Option R) : Y1_1 → Option R := (fun x => K (.exit 0) (bks x))
noncomputable def L1_1 : zn := fun st K => ahn (bnk st) fun x => P.zm3 x (bqz K)
noncomputable def D1 : Ctx := ({ P := Tryd.prog, G := [(67, adb.spec)], globs := GLO.gB, hints := [(1, ⟨[0, 2, 3], [], [], [], none, [], [], []⟩)], loops := [(1, L1_1)], inl := [] } : Ctx)
noncomputable def D : Ctx := ({ P := Tryd.prog, G := [(67, adb.spec)], globs := GLO.gB, hints := [], loops := [], inl := [(68, yw D1 Tryd.f68)] } : Ctx)
theorem be9 (K) (next) (x) : qb D1 (jh Tryd.f68 1) K next (bks x) = P.zs3 x (fun x => next (bks x)) (bqz K) := by kernel_rfl
theorem bi3 : ou D1 (jh Tryd.f68 1) := j5 bks bh3 (by kernel_rfl) P.ze3 be9
theorem loops : fq (Tryd.f57.body.getD .skip) = [] := by kernel_rfl
theorem anx : fq (Tryd.f68.body.getD .skip) = [jh Tryd.f68 1] := by kernel_rfl
noncomputable def dx : Abs.Spec := fun args K => match args with
 | [.v (.int .u64 a), .v (.int .i64 b)] => P.aad a b (fun c => K (.fr 5 (.ints .u8 c)))
 | _ => none
noncomputable def spec : Abs.Spec := dx
theorem ok0 : Proved Tryd.prog GLO.gB 57 dx := by
 refine gu (D := D) (fn := Tryd.f57) (c := Tryd.f57.body.getD .skip) [.fr 5 (.ints .u8 [])] (by kernel_rfl) (cu (by kernel_rfl)) (by kernel_rfl) (by kernel_rfl) (by kernel_rfl) ⟨adb.ok, trivial⟩ ⟨ac7 (D := D1) (D' := D) (fn := Tryd.f68) (c := Tryd.f68.body.getD .skip) rfl rfl (by kernel_rfl) (cu (by kernel_rfl)) (by kernel_rfl) (by kernel_rfl) (by kernel_rfl) ⟨adb.ok, trivial⟩ trivial (by rw [anx]; exact ⟨bi3, trivial⟩) (fun _ _ _ _ _ h => h), trivial⟩ ?_ ?_
 · rw [loops]; exact trivial
 · intro args K r h
   unfold dx at h
   split at h
   · rw [P.ar2] at h; exact Eq.trans (by kernel_rfl) h
   · cases h
theorem ok : Proved Tryd.prog GLO.gB 57 spec := ok0
end aad

namespace qg
noncomputable def D : Ctx := ({ P := Tryd.prog, G := [], globs := GLO.gB, hints := [], loops := [], inl := [] } : Ctx)
theorem loops : fq (Tryd.f77.body.getD .skip) = [] := by kernel_rfl
noncomputable def dx : Abs.Spec := fun args K => match args with
 | [.v (.int .i64 a)] => P.qg a (fun b => K (.v (.int .i64 b)))
 | _ => none
noncomputable def spec : Abs.Spec := dx
theorem ok0 : Proved Tryd.prog GLO.gB 77 dx := by
 refine gu (D := D) (fn := Tryd.f77) (c := Tryd.f77.body.getD .skip) [.any] (by kernel_rfl) (cu (by kernel_rfl)) (by kernel_rfl) (by kernel_rfl) (by kernel_rfl) trivial trivial ?_ ?_
 · rw [loops]; exact trivial
 · intro args K r h
   unfold dx at h
   split at h
   · rw [P.ahq] at h; exact Eq.trans (by kernel_rfl) h
   · cases h
theorem ok : Proved Tryd.prog GLO.gB 77 spec := ok0
end qg

namespace ae6
abbrev X10 := P.bkq
def S10 : X10 → ASt := fun (g, d, e, f, a, b, c, h) => ⟨[(7, .own 40), (1, .ptr 0 0), (3, .v (.int .i64 g)), (45, .arr .u64 8 d), (46, .v (.int .i64 e))], [(40, some ⟨.row 5 (.ints .u8 f), false⟩), (0, some ⟨.box 113 [.v (.int .i64 a), .arr .u64 8 b, .own 5, .v (.int .u64 c)], false⟩), (5, some ⟨.row 5 (.ints .u8 h), false⟩)], 41, 62⟩
def V10 : ASt → Option X10
 | ⟨[(7, .own 40), (1, .ptr 0 0), (3, .v (.int .i64 g)), (45, .arr .u64 8 d), (46, .v (.int .i64 e))], [(40, some ⟨.row 5 (.ints .u8 f), false⟩), (0, some ⟨.box 113 [.v (.int .i64 a), .arr .u64 8 b, .own 5, .v (.int .u64 c)], false⟩), (5, some ⟨.row 5 (.ints .u8 h), false⟩)], 41, 62⟩ => some (g, d, e, f, a, b, c, h)
 | _ => none
theorem awq (st) (x) (h : V10 st = some x) : st = S10 x := by
 unfold V10 at h
 split at h
 · cases h; rfl
 · cases h
abbrev Y10 := P.bqc
def E10 (K : AExit → ASt → Option R) : Y10 → Option R := (fun x => K (.exit 0) (S10 x))
noncomputable def L10 : zn := fun st K => ahn (V10 st) fun x => P.bpm x (E10 K)
noncomputable def D : Ctx := ({ P := Tryd.prog, G := [(57, aad.spec), (71, ab9.spec), (77, qg.spec)], globs := GLO.gB, hints := [(10, ⟨[1, 3, 45, 46], [(7, 5, .ints .u8 [])], [2], [], some (40, [0, 5]), [], [], []⟩)], loops := [(10, L10)], inl := [] } : Ctx)
theorem apy (K) (next) (x) : qb D (jh Tryd.f70 10) K next (S10 x) = P.blg x (fun x => next (S10 x)) (E10 K) := by kernel_rfl
theorem awj : ou D (jh Tryd.f70 10) := j5 S10 awq (by kernel_rfl) P.brt apy
theorem loops : fq (Tryd.f70.body.getD .skip) = [jh Tryd.f70 10] := by kernel_rfl
noncomputable def dx : Abs.Spec := fun args K => match args with
 | [.agg [.v (.int .i64 b), .arr .u64 8 a, .sl (.ints .u8 c), .v (.int .u64 d)]] => P.ae6 b a c d (fun e => K (.fr 5 (.ints .u8 e)))
 | _ => none
noncomputable def spec : Abs.Spec := fun args K => dx (ow [.agg [.any, .any, .sl (.ints .u8 []), .any]] args) K
theorem ok0 : Proved Tryd.prog GLO.gB 70 dx := by
 refine am5 (D := D) (fn := Tryd.f70) (c := Tryd.f70.body.getD .skip) 5 (.ints .u8 []) (by kernel_rfl) (cu (by kernel_rfl)) (by kernel_rfl) (by kernel_rfl) (by kernel_rfl) ⟨aad.ok, ab9.ok, qg.ok, trivial⟩ trivial ?_ ?_
 · rw [loops]; exact ⟨awj, trivial⟩
 · intro args K r h
   unfold dx at h
   split at h
   · rw [P.as3] at h; exact Eq.trans (by kernel_rfl) h
   · cases h
theorem ok : Proved Tryd.prog GLO.gB 70 spec := jc _ ok0
end ae6

namespace acn
noncomputable def D : Ctx := ({ P := Tryd.prog, G := [], globs := GLO.gB, hints := [], loops := [], inl := [] } : Ctx)
theorem loops : fq (Tryd.f76.body.getD .skip) = [] := by kernel_rfl
noncomputable def dx : Abs.Spec := fun args K => match args with
 | [.v (.int .i64 a)] => P.acn a (fun b c => K (.tuple [.arr .u64 8 b, .v (.bool c)]))
 | _ => none
noncomputable def spec : Abs.Spec := dx
theorem ok0 : Proved Tryd.prog GLO.gB 76 dx := by
 refine gu (D := D) (fn := Tryd.f76) (c := Tryd.f76.body.getD .skip) [.any, .any] (by kernel_rfl) (cu (by kernel_rfl)) (by kernel_rfl) (by kernel_rfl) (by kernel_rfl) trivial trivial ?_ ?_
 · rw [loops]; exact trivial
 · intro args K r h
   unfold dx at h
   split at h
   · rw [P.aoa] at h; exact Eq.trans (by kernel_rfl) h
   · cases h
theorem ok : Proved Tryd.prog GLO.gB 76 spec := ok0
end acn

namespace aex
noncomputable def D : Ctx := ({ P := Tryd.prog, G := [(76, acn.spec)], globs := GLO.gB, hints := [], loops := [], inl := [] } : Ctx)
theorem loops : fq (Tryd.f69.body.getD .skip) = [] := by kernel_rfl
noncomputable def dx : Abs.Spec := fun args K => match args with
 | [.v (.int .i64 e)] => P.aex e (fun b a c d f => K (.tuple [.agg [.v (.int .i64 b), .arr .u64 8 a, .fr 5 (.ints .u8 c), .v (.int .u64 d)], .v (.int .i64 f)]))
 | _ => none
noncomputable def spec : Abs.Spec := dx
theorem ok0 : Proved Tryd.prog GLO.gB 69 dx := by
 refine gu (D := D) (fn := Tryd.f69) (c := Tryd.f69.body.getD .skip) [.agg [.any, .any, .fr 5 (.ints .u8 []), .any], .any] (by kernel_rfl) (cu (by kernel_rfl)) (by kernel_rfl) (by kernel_rfl) (by kernel_rfl) ⟨acn.ok, trivial⟩ trivial ?_ ?_
 · rw [loops]; exact trivial
 · intro args K r h
   unfold dx at h
   split at h
   · rw [P.ata] at h; exact Eq.trans (by kernel_rfl) h
   · cases h
theorem ok : Proved Tryd.prog GLO.gB 69 spec := ok0
end aex

end
