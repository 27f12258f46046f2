/-
  LeaseNear, part 14: an interpreter of my own over abstract values, the pure functions, the walks and the plain law.
-/

import Derived.Test.YtkfjafaabbmapaaDoorLeaseNearK
import Derived.Test.YtkfjafaabbmapaaDoorLeaseNearH
import Derived.Test.YtkfjafaabbmapaaDoorProg
import Derived.Test.YtkfjafaabbmapaaDoorLeaseNearJ
import Derived.Test.YtkfjafaabbmapaaDoorLeaseNearM
import Derived.KernelRfl
import Derived.Test.YtkfjafaabbmapaaDoorLeaseNearI

section
open Go Go.Abs Go.Proofs
set_option maxRecDepth 100000
set_option maxHeartbeats 0
set_option linter.unusedVariables false

namespace jr
abbrev X4 := P.biv
def S4 : X4 → ASt := fun (k, l, j, a, b, c, d, e, f, g, h, i) => ⟨[(2, .sl (.ints .u8 k)), (3, .ptr 0 0), (4, .ptr 1 0), (6, .ptr 2 0), (7, .ptr 3 0), (8, .v (.int .i64 l)), (19, .v (.int .i64 j))], [(0, some ⟨.box 138 [.v (.int .i64 a), .v (.int .i64 b), .arr .i64 3 c, .arr .i64 3 d, .arr .i64 3 e, .arr .i64 3 f, .fn (.func 87) [] []], false⟩), (1, some ⟨.box 111 [.arr .u64 8 g], false⟩), (2, some ⟨.box 111 [.arr .u64 8 h], false⟩), (3, some ⟨.box 154 [.arr .u64 16 i], false⟩)], 4, 142⟩
def V4 : ASt → Option X4
 | ⟨[(2, .sl (.ints .u8 k)), (3, .ptr 0 0), (4, .ptr 1 0), (6, .ptr 2 0), (7, .ptr 3 0), (8, .v (.int .i64 l)), (19, .v (.int .i64 j))], [(0, some ⟨.box 138 [.v (.int .i64 a), .v (.int .i64 b), .arr .i64 3 c, .arr .i64 3 d, .arr .i64 3 e, .arr .i64 3 f, .fn (.func 87) [] []], false⟩), (1, some ⟨.box 111 [.arr .u64 8 g], false⟩), (2, some ⟨.box 111 [.arr .u64 8 h], false⟩), (3, some ⟨.box 154 [.arr .u64 16 i], false⟩)], 4, 142⟩ => some (k, l, j, a, b, c, d, e, f, g, h, i)
 | _ => none
theorem an2 (st) (x) (h : V4 st = some x) : st = S4 x := by
 unfold V4 at h
 split at h
 · cases h; rfl
 · cases h
abbrev Y4 := P.bpq
abbrev X10 := P.bju
def S10 : X10 → ASt := fun (k, l, a, b, c, d, e, f, g, h, i, j) => ⟨[(3, .ptr 0 0), (4, .ptr 1 0), (6, .ptr 2 0), (7, .ptr 3 0), (10, .ptr 4 0), (37, .v (.int .i64 k)), (38, .v (.int .i64 l))], [(3, some ⟨.box 154 [.arr .u64 16 a], false⟩), (2, some ⟨.box 111 [.arr .u64 8 b], false⟩), (1, some ⟨.box 111 [.arr .u64 8 c], false⟩), (0, some ⟨.box 138 [.v (.int .i64 d), .v (.int .i64 e), .arr .i64 3 f, .arr .i64 3 g, .arr .i64 3 h, .arr .i64 3 i, .fn (.func 87) [] []], false⟩), (4, some ⟨.box 111 [.arr .u64 8 j], false⟩)], 5, 142⟩
def V10 : ASt → Option X10
 | ⟨[(3, .ptr 0 0), (4, .ptr 1 0), (6, .ptr 2 0), (7, .ptr 3 0), (10, .ptr 4 0), (37, .v (.int .i64 k)), (38, .v (.int .i64 l))], [(3, some ⟨.box 154 [.arr .u64 16 a], false⟩), (2, some ⟨.box 111 [.arr .u64 8 b], false⟩), (1, some ⟨.box 111 [.arr .u64 8 c], false⟩), (0, some ⟨.box 138 [.v (.int .i64 d), .v (.int .i64 e), .arr .i64 3 f, .arr .i64 3 g, .arr .i64 3 h, .arr .i64 3 i, .fn (.func 87) [] []], false⟩), (4, some ⟨.box 111 [.arr .u64 8 j], false⟩)], 5, 142⟩ => some (k, l, a, b, c, d, e, f, g, h, i, j)
 | _ => none
theorem atv (st) (x) (h : V10 st = some x) : st = S10 x := by
 unfold V10 at h
 split at h
 · cases h; rfl
 · cases h
abbrev Y10 := P.bm7
abbrev X21 := P.bjy
def S21 : X21 → ASt := fun (a, b, c, d) => ⟨[(4, .ptr 1 0), (6, .ptr 2 0), (10, .ptr 4 0), (129, .v (.int .i64 a))], [(1, some ⟨.box 111 [.arr .u64 8 b], false⟩), (2, some ⟨.box 111 [.arr .u64 8 c], false⟩), (4, some ⟨.box 111 [.arr .u64 8 d], false⟩)], 120, 142⟩
def V21 : ASt → Option X21
 | ⟨[(4, .ptr 1 0), (6, .ptr 2 0), (10, .ptr 4 0), (129, .v (.int .i64 a))], [(1, some ⟨.box 111 [.arr .u64 8 b], false⟩), (2, some ⟨.box 111 [.arr .u64 8 c], false⟩), (4, some ⟨.box 111 [.arr .u64 8 d], false⟩)], 120, 142⟩ => some (a, b, c, d)
 | _ => none
theorem bcc (st) (x) (h : V21 st = some x) : st = S21 x := by
 unfold V21 at h
 split at h
 · cases h; rfl
 · cases h
abbrev Y21 := P.bmq
def E4 (K : AExit → ASt → Option R) : Y4 → Option R := (fun x => K (.exit 0) (S4 x))
noncomputable def L4 : wm := fun st K => af4 (V4 st) fun x => P.bpd x (E4 K)
def E10 (K : AExit → ASt → Option R) : Y10 → Option R := (fun x => K (.exit 2) (S10 x))
noncomputable def L10 : wm := fun st K => af4 (V10 st) fun x => P.bl0 x (E10 K)
def E21 (K : AExit → ASt → Option R) : Y21 → Option R := (fun x => K (.exit 4) (S21 x))
noncomputable def L21 : wm := fun st K => af4 (V21 st) fun x => P.bpc x (E21 K)
noncomputable def D : Ctx := ({ P := Tryd.prog, G := [(65, qd.spec), (87, lg.spec), (94, jg.spec), (95, jm.spec)], globs := GLO.gB, hints := [(21, ⟨[4, 6, 10, 129], [], [6], [], some (120, [1, 2, 4]), [], [], []⟩), (10, ⟨[3, 4, 6, 7, 10, 37, 38], [], [6], [], none, [], [], []⟩), (4, ⟨[2, 3, 4, 6, 7, 8, 19], [], [6], [], none, [], [], []⟩)], loops := [(4, L4), (10, L10), (21, L21)], inl := [] } : Ctx)
theorem ahk (K) (next) (x) : og D (gq Tryd.f86 4) K next (S4 x) = P.bjv x (fun x => next (S4 x)) (E4 K) := by kernel_rfl
theorem ao6 : mq D (gq Tryd.f86 4) := jk S4 an2 (by kernel_rfl) P.bqr ahk
theorem anc (K) (next) (x) : og D (gq Tryd.f86 10) K next (S10 x) = P.bkf x (fun x => next (S10 x)) (E10 K) := by kernel_rfl
theorem auv : mq D (gq Tryd.f86 10) := jk S10 atv (by kernel_rfl) P.bqg anc
theorem awr (K) (next) (x) : og D (gq Tryd.f86 21) K next (S21 x) = P.bhy x (fun x => next (S21 x)) (E21 K) := by kernel_rfl
theorem bb9 : mq D (gq Tryd.f86 21) := jk S21 bcc (by kernel_rfl) P.bp8 awr
theorem loops : dw (Tryd.f86.body.getD .skip) = [gq Tryd.f86 4, gq Tryd.f86 10, gq Tryd.f86 21] := by kernel_rfl
noncomputable def bn : Abs.Spec := fun args K => match args with
 | [.agg [.v (.int .i64 f), .v (.int .i64 e), .arr .i64 3 a, .arr .i64 3 b, .arr .i64 3 c, .arr .i64 3 d, .fn (.func 87) [] []], .arr .u64 8 g, .sl (.ints .u8 h)] => P.jr f e a b c d g h (fun i => K (.arr .u64 8 i))
 | _ => none
noncomputable def spec : Abs.Spec := fun args K => bn (qb [.any, .any, .sl (.ints .u8 [])] args) K
theorem ok0 : Proved Tryd.prog GLO.gB 86 bn := by
 refine eu (D := D) (fn := Tryd.f86) (c := Tryd.f86.body.getD .skip) [.any] (by kernel_rfl) (au (by kernel_rfl)) (by kernel_rfl) (by kernel_rfl) (by kernel_rfl) ⟨qd.ok, lg.ok, jg.ok, jm.ok, trivial⟩ trivial ?_ ?_
 · rw [loops]; exact ⟨ao6, auv, bb9, trivial⟩
 · intro args K r h
   unfold bn at h
   split at h
   · rw [P.aa8] at h; exact Eq.trans (by kernel_rfl) h
   · cases h
theorem ok : Proved Tryd.prog GLO.gB 86 spec := iy _ ok0
end jr

namespace mg
abbrev X3 := P.bjb
def S3 : X3 → ASt := fun (l, j, k, a, b, c, d, e, f, g, h, i) => ⟨[(2, .sl (.ints .u8 l)), (3, .ptr 0 0), (4, .ptr 1 0), (6, .ptr 2 0), (8, .ptr 3 0), (14, .arr .u64 8 j), (15, .v (.int .i64 k))], [(0, some ⟨.box 138 [.v (.int .i64 a), .v (.int .i64 b), .arr .i64 3 c, .arr .i64 3 d, .arr .i64 3 e, .arr .i64 3 f, .fn (.func 87) [] []], false⟩), (1, some ⟨.box 111 [.arr .u64 8 g], false⟩), (2, some ⟨.box 111 [.arr .u64 8 h], false⟩), (3, some ⟨.box 111 [.arr .u64 8 i], false⟩)], 4, 50⟩
def V3 : ASt → Option X3
 | ⟨[(2, .sl (.ints .u8 l)), (3, .ptr 0 0), (4, .ptr 1 0), (6, .ptr 2 0), (8, .ptr 3 0), (14, .arr .u64 8 j), (15, .v (.int .i64 k))], [(0, some ⟨.box 138 [.v (.int .i64 a), .v (.int .i64 b), .arr .i64 3 c, .arr .i64 3 d, .arr .i64 3 e, .arr .i64 3 f, .fn (.func 87) [] []], false⟩), (1, some ⟨.box 111 [.arr .u64 8 g], false⟩), (2, some ⟨.box 111 [.arr .u64 8 h], false⟩), (3, some ⟨.box 111 [.arr .u64 8 i], false⟩)], 4, 50⟩ => some (l, j, k, a, b, c, d, e, f, g, h, i)
 | _ => none
theorem alx (st) (x) (h : V3 st = some x) : st = S3 x := by
 unfold V3 at h
 split at h
 · cases h; rfl
 · cases h
abbrev Y3 := P.bmz
abbrev X8 := P.bj8
def S8 : X8 → ASt := fun (k, j, a, b, c, d, e, f, g, h, i) => ⟨[(2, .sl (.ints .u8 k)), (3, .ptr 0 0), (4, .ptr 1 0), (6, .ptr 2 0), (8, .ptr 3 0), (11, .v (.int .i64 j))], [(3, some ⟨.box 111 [.arr .u64 8 a], false⟩), (2, some ⟨.box 111 [.arr .u64 8 b], false⟩), (1, some ⟨.box 111 [.arr .u64 8 c], false⟩), (0, some ⟨.box 138 [.v (.int .i64 d), .v (.int .i64 e), .arr .i64 3 f, .arr .i64 3 g, .arr .i64 3 h, .arr .i64 3 i, .fn (.func 87) [] []], false⟩)], 4, 50⟩
def V8 : ASt → Option X8
 | ⟨[(2, .sl (.ints .u8 k)), (3, .ptr 0 0), (4, .ptr 1 0), (6, .ptr 2 0), (8, .ptr 3 0), (11, .v (.int .i64 j))], [(3, some ⟨.box 111 [.arr .u64 8 a], false⟩), (2, some ⟨.box 111 [.arr .u64 8 b], false⟩), (1, some ⟨.box 111 [.arr .u64 8 c], false⟩), (0, some ⟨.box 138 [.v (.int .i64 d), .v (.int .i64 e), .arr .i64 3 f, .arr .i64 3 g, .arr .i64 3 h, .arr .i64 3 i, .fn (.func 87) [] []], false⟩)], 4, 50⟩ => some (k, j, a, b, c, d, e, f, g, h, i)
 | _ => none
theorem ba0 (st) (x) (h : V8 st = some x) : st = S8 x := by
 unfold V8 at h
 split at h
 · cases h; rfl
 · cases h
abbrev Y8 := P.bmj
abbrev X12 := P.bkm
def S12 : X12 → ASt := fun (e, c, d, a, b) => ⟨[(2, .sl (.ints .u8 e)), (4, .ptr 1 0), (6, .ptr 2 0), (39, .arr .u64 8 c), (40, .v (.int .i64 d))], [(1, some ⟨.box 111 [.arr .u64 8 a], false⟩), (2, some ⟨.box 111 [.arr .u64 8 b], false⟩)], 120, 50⟩
def V12 : ASt → Option X12
 | ⟨[(2, .sl (.ints .u8 e)), (4, .ptr 1 0), (6, .ptr 2 0), (39, .arr .u64 8 c), (40, .v (.int .i64 d))], [(1, some ⟨.box 111 [.arr .u64 8 a], false⟩), (2, some ⟨.box 111 [.arr .u64 8 b], false⟩)], 120, 50⟩ => some (e, c, d, a, b)
 | _ => none
theorem bby (st) (x) (h : V12 st = some x) : st = S12 x := by
 unfold V12 at h
 split at h
 · cases h; rfl
 · cases h
abbrev Y12 := P.bn4
def E3 (K : AExit → ASt → Option R) : Y3 → Option R := (fun x => K (.exit 0) (S3 x))
noncomputable def L3 : wm := fun st K => af4 (V3 st) fun x => P.bnr x (E3 K)
def E8 (K : AExit → ASt → Option R) : Y8 → Option R := (fun x => K (.exit 2) (S8 x))
noncomputable def L8 : wm := fun st K => af4 (V8 st) fun x => P.bmf x (E8 K)
def E12 (K : AExit → ASt → Option R) : Y12 → Option R := (fun x => K (.exit 4) (S12 x))
noncomputable def L12 : wm := fun st K => af4 (V12 st) fun x => P.bl8 x (E12 K)
noncomputable def D : Ctx := ({ P := Tryd.prog, G := [(86, jr.spec), (87, lg.spec)], globs := GLO.gB, hints := [(12, ⟨[2, 4, 6, 39, 40], [], [6, 7], [], some (120, [1, 2]), [], [], []⟩), (8, ⟨[2, 3, 4, 6, 8, 11], [], [6, 7], [(2, .sl (.ints .u8 []))], none, [], [], []⟩), (3, ⟨[2, 3, 4, 6, 8, 14, 15], [], [6, 7], [], none, [], [], []⟩)], loops := [(3, L3), (8, L8), (12, L12)], inl := [] } : Ctx)
theorem afr (K) (next) (x) : og D (gq Tryd.f80 3) K next (S3 x) = P.bi9 x (fun x => next (S3 x)) (E3 K) := by kernel_rfl
theorem alk : mq D (gq Tryd.f80 3) := jk S3 alx (by kernel_rfl) P.bqh afr
theorem ati (K) (next) (x) : og D (gq Tryd.f80 8) K next (S8 x) = P.bkn x (fun x => next (S8 x)) (E8 K) := by kernel_rfl
theorem bbz : mq D (gq Tryd.f80 8) := jk S8 ba0 (by kernel_rfl) P.bpy ati
theorem awe (K) (next) (x) : og D (gq Tryd.f80 12) K next (S12 x) = P.bie x (fun x => next (S12 x)) (E12 K) := by kernel_rfl
theorem ba5 : mq D (gq Tryd.f80 12) := jk S12 bby (by kernel_rfl) P.bpx awe
theorem loops : dw (Tryd.f80.body.getD .skip) = [gq Tryd.f80 3, gq Tryd.f80 8, gq Tryd.f80 12] := by kernel_rfl
noncomputable def bn : Abs.Spec := fun args K => match args with
 | [.agg [.v (.int .i64 f), .v (.int .i64 e), .arr .i64 3 a, .arr .i64 3 b, .arr .i64 3 c, .arr .i64 3 d, .fn (.func 87) [] []], .arr .u64 8 g, .sl (.ints .u8 h)] => P.mg f e a b c d g h (fun i j => K (.tuple [.arr .u64 8 i, .sl (.ints .u8 j)]))
 | _ => none
noncomputable def spec : Abs.Spec := fun args K => bn (qb [.any, .any, .sl (.ints .u8 [])] args) K
theorem ok0 : Proved Tryd.prog GLO.gB 80 bn := by
 refine eu (D := D) (fn := Tryd.f80) (c := Tryd.f80.body.getD .skip) [.any, .sl (.ints .u8 [])] (by kernel_rfl) (au (by kernel_rfl)) (by kernel_rfl) (by kernel_rfl) (by kernel_rfl) ⟨jr.ok, lg.ok, trivial⟩ trivial ?_ ?_
 · rw [loops]; exact ⟨alk, bbz, ba5, trivial⟩
 · intro args K r h
   unfold bn at h
   split at h
   · rw [P.adg] at h; exact Eq.trans (by kernel_rfl) h
   · cases h
theorem ok : Proved Tryd.prog GLO.gB 80 spec := iy _ ok0
end mg

namespace fu
noncomputable def D : Ctx := { P := Tryd.prog, G := [], globs := GLO.gB, hints := [], loops := [] }
noncomputable def c : Code := Tryd.f29.body.getD .skip
noncomputable def o0 : Oper := (axi (sq1 c)).getD 0 aw3
noncomputable def o1 : Oper := (axi (sq1 (sq1 (sq2 c)))).getD 0 aw3
noncomputable def o2 : Oper := (axi (sq1 (sq1 (sq2 c)))).getD 1 aw3
noncomputable def X : Code := bl2 (sq2 (sq1 (sq2 c)))
noncomputable def rest : Code := sq2 (sq2 c)
noncomputable def ox : Oper := (axi (sq1 X)).getD 0 aw3
theorem bgd (a : List Int) : abn D rest ⟨[(0, .sl (.ints .u8 a)), (2, .v (.slice none 0 0))], [], 0, Tryd.f29.ntmps⟩ (bqp D [.fr 5 (.ints .u8 a)] Tryd.f29) = br (decide ((0 + a.length) * 1 ≤ 140737488355328)) (some (.fr 5 (.ints .u8 a))) none := by kernel_rfl
noncomputable def bn : Abs.Spec := fun args K => match args with
  | [.sl (.ints .u8 a)] => P.fu a (fun a => K (.fr 5 (.ints .u8 a)))
  | _ => none
theorem bhe : Tryd.f29.body = some (.seq (.region 0 #[o0] false) (.seq (.seq (.region 1 #[o1, o2] false) (.cond (.tmp 4) X .skip)) rest)) := by kernel_rfl
theorem ok0 : Proved Tryd.prog GLO.gB 29 bn := by
  refine ⟨⟨Tryd.f29, by kernel_rfl, by kernel_rfl, by kernel_rfl⟩, fun args K r h => ?_⟩
  unfold bn at h
  split at h
  · rename_i a
    unfold P.fu at h
    obtain ⟨hp, hK⟩ := pre_some h
    refine ⟨_, hK, bd7 (D := D) (fn := Tryd.f29) (t := 22) (e := 5) trivial (au (by kernel_rfl)) trivial (by kernel_rfl) (by kernel_rfl) bhe ⟨by kernel_rfl, by kernel_rfl, by kernel_rfl⟩ ⟨by kernel_rfl, by kernel_rfl, by kernel_rfl⟩ ⟨by kernel_rfl, by kernel_rfl, by kernel_rfl⟩ (by kernel_rfl) (by decide +kernel) (by kernel_rfl) (by kernel_rfl) ⟨2, ox, by kernel_rfl, by kernel_rfl, by kernel_rfl, by kernel_rfl⟩ (by kernel_rfl) rfl rfl rfl ?_⟩
    rw [bgd, av (by omega)]
  · cases h
noncomputable def spec : Abs.Spec := fun args K => bn (qb [.sl (.ints .u8 [])] args) K
theorem ok : Proved Tryd.prog GLO.gB 29 spec := iy _ ok0
end fu

namespace l7
noncomputable def D : Ctx := ({ P := Tryd.prog, G := [], globs := GLO.gB, hints := [], loops := [], inl := [] } : Ctx)
theorem loops : dw (Tryd.f75.body.getD .skip) = [] := by kernel_rfl
noncomputable def bn : Abs.Spec := fun args K => match args with
 | [.v (.slice none 0 0), .v (.int .i64 a)] => P.l7 a (fun b => K (.fr 5 (.ints .u8 b)))
 | _ => none
noncomputable def spec : Abs.Spec := bn
theorem ok0 : Proved Tryd.prog GLO.gB 75 bn := by
 refine alr (D := D) (fn := Tryd.f75) (c := Tryd.f75.body.getD .skip) 5 (.ints .u8 []) (by kernel_rfl) (au (by kernel_rfl)) (by kernel_rfl) (by kernel_rfl) (by kernel_rfl) trivial trivial ?_ ?_
 · rw [loops]; exact trivial
 · intro args K r h
   unfold bn at h
   split at h
   · rw [P.ad4] at h; exact Eq.trans (by kernel_rfl) h
   · cases h
theorem ok : Proved Tryd.prog GLO.gB 75 spec := ok0
end l7

namespace jd
abbrev X3 := P.zt4
def S3 : X3 → ASt := fun (c, d, e, a, b) => ⟨[(0, .sl (.rows .u8 c)), (3, .v (.int .i64 d)), (9, .sl (.rows .u8 e)), (10, .v (.int .i64 a)), (11, .v (.int .i64 b))], [], 0, 36⟩
def V3 : ASt → Option X3
 | ⟨[(0, .sl (.rows .u8 c)), (3, .v (.int .i64 d)), (9, .sl (.rows .u8 e)), (10, .v (.int .i64 a)), (11, .v (.int .i64 b))], [], 0, 36⟩ => some (c, d, e, a, b)
 | _ => none
theorem alx (st) (x) (h : V3 st = some x) : st = S3 x := by
 unfold V3 at h
 split at h
 · cases h; rfl
 · cases h
abbrev Y3 := P.zy4
abbrev X11 := P.zt5
def S11 : X11 → ASt := fun (a, b, c, d) => ⟨[(6, .own 1), (25, .sl (.rows .u8 a)), (26, .v (.int .i64 b)), (27, .v (.int .i64 c))], [(1, some ⟨.row 5 (.ints .u8 d), false⟩), (0, none)], 2, 36⟩
def V11 : ASt → Option X11
 | ⟨[(6, .own 1), (25, .sl (.rows .u8 a)), (26, .v (.int .i64 b)), (27, .v (.int .i64 c))], [(1, some ⟨.row 5 (.ints .u8 d), false⟩), (0, none)], 2, 36⟩ => some (a, b, c, d)
 | _ => none
theorem atg (st) (x) (h : V11 st = some x) : st = S11 x := by
 unfold V11 at h
 split at h
 · cases h; rfl
 · cases h
abbrev Y11 := P.zy5
def E3 (K : AExit → ASt → Option R) : Y3 → Option R := (fun x => K (.exit 0) (S3 x))
noncomputable def L3 : wm := fun st K => af4 (V3 st) fun x => P.zm4 x (E3 K)
def E11 (K : AExit → ASt → Option R) : Y11 → Option R := (fun x => K (.exit 2) (S11 x))
noncomputable def L11 : wm := fun st K => af4 (V11 st) fun x => P.zm5 x (E11 K)
noncomputable def D : Ctx := ({ P := Tryd.prog, G := [(75, l7.spec)], globs := GLO.gB, hints := [(11, ⟨[25, 26, 27], [(6, 5, .ints .u8 [])], [2], [], none, [], [], []⟩), (3, ⟨[0, 3, 9, 10, 11], [], [2], [], none, [], [], []⟩)], loops := [(3, L3), (11, L11)], inl := [] } : Ctx)
theorem afr (K) (next) (x) : og D (gq Tryd.f66 3) K next (S3 x) = P.zs4 x (fun x => next (S3 x)) (E3 K) := by kernel_rfl
theorem alk : mq D (gq Tryd.f66 3) := jk S3 alx (by kernel_rfl) P.ze4 afr
theorem ao0 (K) (next) (x) : og D (gq Tryd.f66 11) K next (S11 x) = P.zs5 x (fun x => next (S11 x)) (E11 K) := by kernel_rfl
theorem auw : mq D (gq Tryd.f66 11) := jk S11 atg (by kernel_rfl) P.ze5 ao0
theorem loops : dw (Tryd.f66.body.getD .skip) = [gq Tryd.f66 3, gq Tryd.f66 11] := by kernel_rfl
noncomputable def bn : Abs.Spec := fun args K => match args with
 | [.sl (.rows .u8 a)] => P.jd a (fun b => K (.fr 5 (.ints .u8 b)))
 | _ => none
noncomputable def spec : Abs.Spec := fun args K => bn (qb [.sl (.rows .u8 [])] args) K
theorem ok0 : Proved Tryd.prog GLO.gB 66 bn := by
 refine eu (D := D) (fn := Tryd.f66) (c := Tryd.f66.body.getD .skip) [.fr 5 (.ints .u8 [])] (by kernel_rfl) (au (by kernel_rfl)) (by kernel_rfl) (by kernel_rfl) (by kernel_rfl) ⟨l7.ok, trivial⟩ trivial ?_ ?_
 · rw [loops]; exact ⟨alk, auw, trivial⟩
 · intro args K r h
   unfold bn at h
   split at h
   · rw [P.adh] at h; exact Eq.trans (by kernel_rfl) h
   · cases h
theorem ok : Proved Tryd.prog GLO.gB 66 spec := iy _ ok0
end jd

namespace abe
noncomputable def D : Ctx := ({ P := Tryd.prog, G := [(29, fu.spec), (66, jd.spec), (78, l8.spec), (79, aaf.spec), (80, mg.spec), (81, zy.spec)], globs := GLO.gB, hints := [], loops := [], inl := [] } : Ctx)
theorem loops : dw (Tryd.f71.body.getD .skip) = [] := by kernel_rfl
noncomputable def bn : Abs.Spec := fun args K => match args with
 | [.agg [.v (.int .i64 c), .arr .u64 8 a, .sl (.ints .u8 d), .v (.int .u64 e)], .sl (.ints .u8 i)] => P.abe c a d e i (fun f b g h => K (.agg [.v (.int .i64 f), .arr .u64 8 b, .fr 5 (.ints .u8 g), .v (.int .u64 h)]))
 | _ => none
noncomputable def spec : Abs.Spec := fun args K => bn (qb [.agg [.any, .any, .sl (.ints .u8 []), .any], .sl (.ints .u8 [])] args) K
theorem ok0 : Proved Tryd.prog GLO.gB 71 bn := by
 refine eu (D := D) (fn := Tryd.f71) (c := Tryd.f71.body.getD .skip) [.agg [.any, .any, .fr 5 (.ints .u8 []), .any]] (by kernel_rfl) (au (by kernel_rfl)) (by kernel_rfl) (by kernel_rfl) (by kernel_rfl) ⟨fu.ok, jd.ok, l8.ok, aaf.ok, mg.ok, zy.ok, trivial⟩ trivial ?_ ?_
 · rw [loops]; exact trivial
 · intro args K r h
   unfold bn at h
   split at h
   · rw [P.aq8] at h; exact Eq.trans (by kernel_rfl) h
   · cases h
theorem ok : Proved Tryd.prog GLO.gB 71 spec := iy _ ok0
end abe

namespace ab8
abbrev X5 := P.zt2
def S5 : X5 → ASt := fun (c, a, b, d) => ⟨[(0, .v (.int .u64 c)), (5, .own 0), (16, .v (.int .i64 a)), (17, .v (.int .i64 b))], [(0, some ⟨.row 5 (.ints .u8 d), false⟩)], 1, 30⟩
def V5 : ASt → Option X5
 | ⟨[(0, .v (.int .u64 c)), (5, .own 0), (16, .v (.int .i64 a)), (17, .v (.int .i64 b))], [(0, some ⟨.row 5 (.ints .u8 d), false⟩)], 1, 30⟩ => some (c, a, b, d)
 | _ => none
theorem azs (st) (x) (h : V5 st = some x) : st = S5 x := by
 unfold V5 at h
 split at h
 · cases h; rfl
 · cases h
abbrev Y5 := P.zy2
def E5 (K : AExit → ASt → Option R) : Y5 → Option R := (fun x => K (.exit 0) (S5 x))
noncomputable def L5 : wm := fun st K => af4 (V5 st) fun x => P.zm2 x (E5 K)
noncomputable def D : Ctx := ({ P := Tryd.prog, G := [], globs := GLO.gB, hints := [(5, ⟨[0, 5, 16, 17], [], [4], [], none, [], [], []⟩)], loops := [(5, L5)], inl := [] } : Ctx)
theorem aui (K) (next) (x) : og D (gq Tryd.f67 5) K next (S5 x) = P.zs2 x (fun x => next (S5 x)) (E5 K) := by kernel_rfl
theorem bb6 : mq D (gq Tryd.f67 5) := jk S5 azs (by kernel_rfl) P.ze2 aui
theorem loops : dw (Tryd.f67.body.getD .skip) = [gq Tryd.f67 5] := by kernel_rfl
noncomputable def bn : Abs.Spec := fun args K => match args with
 | [.v (.int .u64 a), .v (.int .i64 b)] => P.ab8 a b (fun c => K (.fr 5 (.ints .u8 c)))
 | _ => none
noncomputable def spec : Abs.Spec := bn
theorem ok0 : Proved Tryd.prog GLO.gB 67 bn := by
 refine eu (D := D) (fn := Tryd.f67) (c := Tryd.f67.body.getD .skip) [.fr 5 (.ints .u8 [])] (by kernel_rfl) (au (by kernel_rfl)) (by kernel_rfl) (by kernel_rfl) (by kernel_rfl) trivial trivial ?_ ?_
 · rw [loops]; exact ⟨bb6, trivial⟩
 · intro args K r h
   unfold bn at h
   split at h
   · rw [P.apy] at h; exact Eq.trans (by kernel_rfl) h
   · cases h
theorem ok : Proved Tryd.prog GLO.gB 67 spec := ok0
end ab8

namespace yc
abbrev bpt := P.zt3
def bj3 : bpt → ASt := fun (a, b, c) => ⟨[(0, .own 0), (2, .v (.int .i64 a)), (3, .v (.int .i64 b))], [(0, some ⟨.row 5 (.ints .u8 c), false⟩)], 1, 28⟩
def bof : ASt → Option bpt
 | ⟨[(0, .own 0), (2, .v (.int .i64 a)), (3, .v (.int .i64 b))], [(0, some ⟨.row 5 (.ints .u8 c), false⟩)], 1, 28⟩ => some (a, b, c)
 | _ => none
theorem bfy (st) (x) (h : bof st = some x) : st = bj3 x := by
 unfold bof at h
 split at h
 · cases h; rfl
 · cases h
abbrev Y1_1 := P.zy3
def bqm (K : AExit → ASt → Option R) : Y1_1 → Option R := (fun x => K (.exit 0) (bj3 x))
noncomputable def L1_1 : wm := fun st K => af4 (bof st) fun x => P.zm3 x (bqm K)
noncomputable def D1 : Ctx := ({ P := Tryd.prog, G := [(67, ab8.spec)], globs := GLO.gB, hints := [(1, ⟨[0, 2, 3], [], [], [], none, [], [], []⟩)], loops := [(1, L1_1)], inl := [] } : Ctx)
noncomputable def D : Ctx := ({ P := Tryd.prog, G := [(67, ab8.spec)], globs := GLO.gB, hints := [], loops := [], inl := [(68, aag D1 Tryd.f68)] } : Ctx)
theorem bdk (K) (next) (x) : og D1 (gq Tryd.f68 1) K next (bj3 x) = P.zs3 x (fun x => next (bj3 x)) (bqm K) := by kernel_rfl
theorem bf5 : mq D1 (gq Tryd.f68 1) := jk bj3 bfy (by kernel_rfl) P.ze3 bdk
theorem loops : dw (Tryd.f57.body.getD .skip) = [] := by kernel_rfl
theorem anj : dw (Tryd.f68.body.getD .skip) = [gq Tryd.f68 1] := by kernel_rfl
noncomputable def bn : Abs.Spec := fun args K => match args with
 | [.v (.int .u64 a), .v (.int .i64 b)] => P.yc a b (fun c => K (.fr 5 (.ints .u8 c)))
 | _ => none
noncomputable def spec : Abs.Spec := bn
theorem ok0 : Proved Tryd.prog GLO.gB 57 bn := by
 refine eu (D := D) (fn := Tryd.f57) (c := Tryd.f57.body.getD .skip) [.fr 5 (.ints .u8 [])] (by kernel_rfl) (au (by kernel_rfl)) (by kernel_rfl) (by kernel_rfl) (by kernel_rfl) ⟨ab8.ok, trivial⟩ ⟨ads (D := D1) (D' := D) (fn := Tryd.f68) (c := Tryd.f68.body.getD .skip) rfl rfl (by kernel_rfl) (au (by kernel_rfl)) (by kernel_rfl) (by kernel_rfl) (by kernel_rfl) ⟨ab8.ok, trivial⟩ trivial (by rw [anj]; exact ⟨bf5, trivial⟩) (fun _ _ _ _ _ h => h), trivial⟩ ?_ ?_
 · rw [loops]; exact trivial
 · intro args K r h
   unfold bn at h
   split at h
   · rw [P.aq4] at h; exact Eq.trans (by kernel_rfl) h
   · cases h
theorem ok : Proved Tryd.prog GLO.gB 57 spec := ok0
end yc

namespace om
noncomputable def D : Ctx := ({ P := Tryd.prog, G := [], globs := GLO.gB, hints := [], loops := [], inl := [] } : Ctx)
theorem loops : dw (Tryd.f77.body.getD .skip) = [] := by kernel_rfl
noncomputable def bn : Abs.Spec := fun args K => match args with
 | [.v (.int .i64 a)] => P.om a (fun b => K (.v (.int .i64 b)))
 | _ => none
noncomputable def spec : Abs.Spec := bn
theorem ok0 : Proved Tryd.prog GLO.gB 77 bn := by
 refine eu (D := D) (fn := Tryd.f77) (c := Tryd.f77.body.getD .skip) [.any] (by kernel_rfl) (au (by kernel_rfl)) (by kernel_rfl) (by kernel_rfl) (by kernel_rfl) trivial trivial ?_ ?_
 · rw [loops]; exact trivial
 · intro args K r h
   unfold bn at h
   split at h
   · rw [P.agn] at h; exact Eq.trans (by kernel_rfl) h
   · cases h
theorem ok : Proved Tryd.prog GLO.gB 77 spec := ok0
end om

namespace aeg
abbrev X10 := P.bjg
def S10 : X10 → ASt := fun (g, d, e, f, a, b, c, h) => ⟨[(7, .own 40), (1, .ptr 0 0), (3, .v (.int .i64 g)), (45, .arr .u64 8 d), (46, .v (.int .i64 e))], [(40, some ⟨.row 5 (.ints .u8 f), false⟩), (0, some ⟨.box 113 [.v (.int .i64 a), .arr .u64 8 b, .own 5, .v (.int .u64 c)], false⟩), (5, some ⟨.row 5 (.ints .u8 h), false⟩)], 41, 62⟩
def V10 : ASt → Option X10
 | ⟨[(7, .own 40), (1, .ptr 0 0), (3, .v (.int .i64 g)), (45, .arr .u64 8 d), (46, .v (.int .i64 e))], [(40, some ⟨.row 5 (.ints .u8 f), false⟩), (0, some ⟨.box 113 [.v (.int .i64 a), .arr .u64 8 b, .own 5, .v (.int .u64 c)], false⟩), (5, some ⟨.row 5 (.ints .u8 h), false⟩)], 41, 62⟩ => some (g, d, e, f, a, b, c, h)
 | _ => none
theorem atv (st) (x) (h : V10 st = some x) : st = S10 x := by
 unfold V10 at h
 split at h
 · cases h; rfl
 · cases h
abbrev Y10 := P.bm5
def E10 (K : AExit → ASt → Option R) : Y10 → Option R := (fun x => K (.exit 0) (S10 x))
noncomputable def L10 : wm := fun st K => af4 (V10 st) fun x => P.bn7 x (E10 K)
noncomputable def D : Ctx := ({ P := Tryd.prog, G := [(57, yc.spec), (71, abe.spec), (77, om.spec)], globs := GLO.gB, hints := [(10, ⟨[1, 3, 45, 46], [(7, 5, .ints .u8 [])], [2], [], some (40, [0, 5]), [], [], []⟩)], loops := [(10, L10)], inl := [] } : Ctx)
theorem anc (K) (next) (x) : og D (gq Tryd.f70 10) K next (S10 x) = P.bh7 x (fun x => next (S10 x)) (E10 K) := by kernel_rfl
theorem auv : mq D (gq Tryd.f70 10) := jk S10 atv (by kernel_rfl) P.bqo anc
theorem loops : dw (Tryd.f70.body.getD .skip) = [gq Tryd.f70 10] := by kernel_rfl
noncomputable def bn : Abs.Spec := fun args K => match args with
 | [.agg [.v (.int .i64 b), .arr .u64 8 a, .sl (.ints .u8 c), .v (.int .u64 d)]] => P.aeg b a c d (fun e => K (.fr 5 (.ints .u8 e)))
 | _ => none
noncomputable def spec : Abs.Spec := fun args K => bn (qb [.agg [.any, .any, .sl (.ints .u8 []), .any]] args) K
theorem ok0 : Proved Tryd.prog GLO.gB 70 bn := by
 refine alr (D := D) (fn := Tryd.f70) (c := Tryd.f70.body.getD .skip) 5 (.ints .u8 []) (by kernel_rfl) (au (by kernel_rfl)) (by kernel_rfl) (by kernel_rfl) (by kernel_rfl) ⟨yc.ok, abe.ok, om.ok, trivial⟩ trivial ?_ ?_
 · rw [loops]; exact ⟨auv, trivial⟩
 · intro args K r h
   unfold bn at h
   split at h
   · rw [P.aq3] at h; exact Eq.trans (by kernel_rfl) h
   · cases h
theorem ok : Proved Tryd.prog GLO.gB 70 spec := iy _ ok0
end aeg

namespace abr
noncomputable def D : Ctx := ({ P := Tryd.prog, G := [], globs := GLO.gB, hints := [], loops := [], inl := [] } : Ctx)
theorem loops : dw (Tryd.f76.body.getD .skip) = [] := by kernel_rfl
noncomputable def bn : Abs.Spec := fun args K => match args with
 | [.v (.int .i64 a)] => P.abr a (fun b c => K (.tuple [.arr .u64 8 b, .v (.bool c)]))
 | _ => none
noncomputable def spec : Abs.Spec := bn
theorem ok0 : Proved Tryd.prog GLO.gB 76 bn := by
 refine eu (D := D) (fn := Tryd.f76) (c := Tryd.f76.body.getD .skip) [.any, .any] (by kernel_rfl) (au (by kernel_rfl)) (by kernel_rfl) (by kernel_rfl) (by kernel_rfl) trivial trivial ?_ ?_
 · rw [loops]; exact trivial
 · intro args K r h
   unfold bn at h
   split at h
   · rw [P.al5] at h; exact Eq.trans (by kernel_rfl) h
   · cases h
theorem ok : Proved Tryd.prog GLO.gB 76 spec := ok0
end abr

namespace aei
noncomputable def D : Ctx := ({ P := Tryd.prog, G := [(76, abr.spec)], globs := GLO.gB, hints := [], loops := [], inl := [] } : Ctx)
theorem loops : dw (Tryd.f69.body.getD .skip) = [] := by kernel_rfl
noncomputable def bn : Abs.Spec := fun args K => match args with
 | [.v (.int .i64 e)] => P.aei e (fun b a c d f => K (.tuple [.agg [.v (.int .i64 b), .arr .u64 8 a, .fr 5 (.ints .u8 c), .v (.int .u64 d)], .v (.int .i64 f)]))
 | _ => none
noncomputable def spec : Abs.Spec := bn
theorem ok0 : Proved Tryd.prog GLO.gB 69 bn := by
 refine eu (D := D) (fn := Tryd.f69) (c := Tryd.f69.body.getD .skip) [.agg [.any, .any, .fr 5 (.ints .u8 []), .any], .any] (by kernel_rfl) (au (by kernel_rfl)) (by kernel_rfl) (by kernel_rfl) (by kernel_rfl) ⟨abr.ok, trivial⟩ trivial ?_ ?_
 · rw [loops]; exact trivial
 · intro args K r h
   unfold bn at h
   split at h
   · rw [P.aql] at h; exact Eq.trans (by kernel_rfl) h
   · cases h
theorem ok : Proved Tryd.prog GLO.gB 69 spec := ok0
end aei

end
