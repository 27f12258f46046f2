/-
  LeaseNear, part 16: an interpreter of my own over abstract values, the pure functions, the walks and the plain law.
-/

import Derived.Test.YtkfjafaabbmapaaDoorLeaseNearK
import Derived.Test.YtkfjafaabbmapaaDoorLeaseNearH
import Derived.Test.YtkfjafaabbmapaaDoorProg
import Derived.Test.YtkfjafaabbmapaaDoorLeaseNearJ
import Derived.Test.YtkfjafaabbmapaaDoorLeaseNearO
import Derived.KernelRfl
import Derived.Test.YtkfjafaabbmapaaDoorLeaseNearI

section
open Go Go.Abs Go.Proofs
set_option maxRecDepth 100000
set_option maxHeartbeats 0
set_option linter.unusedVariables false

namespace w9
noncomputable def D6 : Ctx := ({ P := Tryd.prog, G := [(10, iq.spec), (28, bg.spec), (50, cu.spec), (52, gy.spec)], globs := GLO.gB, hints := [], loops := [], inl := [] } : Ctx)
noncomputable def D5 : Ctx := ({ P := Tryd.prog, G := [(10, iq.spec), (28, bg.spec), (50, cu.spec), (52, gy.spec)], globs := GLO.gB, hints := [], loops := [], inl := [] } : Ctx)
noncomputable def D4 : Ctx := ({ P := Tryd.prog, G := [(10, iq.spec), (28, bg.spec), (50, cu.spec), (52, gy.spec)], globs := GLO.gB, hints := [], loops := [], inl := [] } : Ctx)
noncomputable def D3 : Ctx := ({ P := Tryd.prog, G := [(10, iq.spec), (28, bg.spec), (50, cu.spec), (52, gy.spec)], globs := GLO.gB, hints := [], loops := [], inl := [(49, aag D5 Tryd.f49), (40, aag D6 Tryd.f40)] } : Ctx)
noncomputable def D2 : Ctx := ({ P := Tryd.prog, G := [(10, iq.spec), (28, bg.spec), (50, cu.spec), (52, gy.spec)], globs := GLO.gB, hints := [], loops := [], inl := [(49, aag D5 Tryd.f49)] } : Ctx)
noncomputable def D1 : Ctx := ({ P := Tryd.prog, G := [(10, iq.spec), (28, bg.spec), (50, cu.spec), (52, gy.spec)], globs := GLO.gB, hints := [], loops := [], inl := [(34, aag D2 Tryd.f34)] } : Ctx)
noncomputable def D : Ctx := ({ P := Tryd.prog, G := [(10, iq.spec), (28, bg.spec), (50, cu.spec), (52, gy.spec)], globs := GLO.gB, hints := [], loops := [], inl := [(37, aag D1 Tryd.f37)] } : Ctx)
theorem loops : dw (Tryd.f19.body.getD .skip) = [] := by kernel_rfl
theorem anj : dw (Tryd.f37.body.getD .skip) = [] := by kernel_rfl
theorem ap3 : dw (Tryd.f34.body.getD .skip) = [] := by kernel_rfl
theorem aw1 : dw (Tryd.f39.body.getD .skip) = [] := by kernel_rfl
theorem beu : dw (Tryd.f38.body.getD .skip) = [] := by kernel_rfl
theorem aua : dw (Tryd.f49.body.getD .skip) = [] := by kernel_rfl
theorem az2 : dw (Tryd.f40.body.getD .skip) = [] := by kernel_rfl
noncomputable def bn : Abs.Spec := fun args K => match args with
 | [.agg [.sl (.ints .u8 a), .sl (.ints .u8 b), .v (.int .u64 e), .v (.int .u64 g), .v (.int .u64 k), .v (.int .u64 h), .v (.bool m)]] => P.w9 a b e g k h m (fun c d f i l j n o p => K (.tuple [.agg [.sl (.ints .u8 c), .sl (.ints .u8 d), .v (.int .u64 f), .v (.int .u64 i), .v (.int .u64 l), .v (.int .u64 j), .v (.bool n)], .v (.int .u64 o), .v (.int .i64 p)]))
 | _ => none
noncomputable def spec : Abs.Spec := fun args K => bn (qb [.agg [.sl (.ints .u8 []), .sl (.ints .u8 []), .any, .any, .any, .any, .any]] args) K
theorem ok0 : Proved Tryd.prog GLO.gB 19 bn := by
 refine eu (D := D) (fn := Tryd.f19) (c := Tryd.f19.body.getD .skip) [.agg [.sl (.ints .u8 []), .sl (.ints .u8 []), .any, .any, .any, .any, .any], .any, .any] (by kernel_rfl) (au (by kernel_rfl)) (by kernel_rfl) (by kernel_rfl) (by kernel_rfl) ⟨iq.ok, bg.ok, cu.ok, gy.ok, trivial⟩ ⟨ads (D := D1) (D' := D) (fn := Tryd.f37) (c := Tryd.f37.body.getD .skip) rfl rfl (by kernel_rfl) (au (by kernel_rfl)) (by kernel_rfl) (by kernel_rfl) (by kernel_rfl) ⟨iq.ok, bg.ok, cu.ok, gy.ok, trivial⟩ ⟨ads (D := D2) (D' := D1) (fn := Tryd.f34) (c := Tryd.f34.body.getD .skip) rfl rfl (by kernel_rfl) (au (by kernel_rfl)) (by kernel_rfl) (by kernel_rfl) (by kernel_rfl) ⟨iq.ok, bg.ok, cu.ok, gy.ok, trivial⟩ ⟨ads (D := D5) (D' := D2) (fn := Tryd.f49) (c := Tryd.f49.body.getD .skip) rfl rfl (by kernel_rfl) (au (by kernel_rfl)) (by kernel_rfl) (by kernel_rfl) (by kernel_rfl) ⟨iq.ok, bg.ok, cu.ok, gy.ok, trivial⟩ trivial (by rw [aua]; exact trivial) (fun _ _ _ _ _ h => h), trivial⟩ (by rw [ap3]; exact trivial) (fun _ _ _ _ _ h => h), trivial⟩ (by rw [anj]; exact trivial) (fun _ _ _ _ _ h => h), trivial⟩ ?_ ?_
 · rw [loops]; exact trivial
 · intro args K r h
   unfold bn at h
   split at h
   · rw [P.ajs] at h; exact Eq.trans (by kernel_rfl) h
   · cases h
theorem ok : Proved Tryd.prog GLO.gB 19 spec := iy _ ok0
end w9

namespace qj
noncomputable def D : Ctx := ({ P := Tryd.prog, G := [(12, su.spec), (19, w9.spec), (24, vw.spec)], globs := GLO.gB, hints := [], loops := [], inl := [] } : Ctx)
theorem loops : dw (Tryd.f9.body.getD .skip) = [] := by kernel_rfl
noncomputable def bn : Abs.Spec := fun args K => match args with
 | [] => P.qj (fun a => K (.v (.bool a)))
 | _ => none
noncomputable def spec : Abs.Spec := bn
theorem ok0 : Proved Tryd.prog GLO.gB 9 bn := by
 refine eu (D := D) (fn := Tryd.f9) (c := Tryd.f9.body.getD .skip) [.any] (by kernel_rfl) (au (by kernel_rfl)) (by kernel_rfl) (by kernel_rfl) (by kernel_rfl) ⟨su.ok, w9.ok, vw.ok, trivial⟩ trivial ?_ ?_
 · rw [loops]; exact trivial
 · intro args K r h
   unfold bn at h
   split at h
   · rw [P.al4] at h; exact Eq.trans (by kernel_rfl) h
   · cases h
theorem ok : Proved Tryd.prog GLO.gB 9 spec := ok0
end qj

namespace afy
abbrev X4 := P.zt1
def S4 : X4 → ASt := fun (a, b, c, d, e, f) => ⟨[(22, .sl (.cols a [.ints .i64 b, .ints .i64 c, .rows .u8 d])), (23, .v (.int .i64 e)), (24, .v (.int .i64 f))], [], 40, 33⟩
def V4 : ASt → Option X4
 | ⟨[(22, .sl (.cols a [.ints .i64 b, .ints .i64 c, .rows .u8 d])), (23, .v (.int .i64 e)), (24, .v (.int .i64 f))], [], 40, 33⟩ => some (a, b, c, d, e, f)
 | _ => none
theorem an2 (st) (x) (h : V4 st = some x) : st = S4 x := by
 unfold V4 at h
 split at h
 · cases h; rfl
 · cases h
abbrev Y4 := P.zy1
def E4 (K : AExit → ASt → Option R) : Y4 → Option R := (Sum.elim (fun x => K (.exit 0) (S4 x)) (fun (f, c, d, e, a, b) => K .ret ⟨[(4, .v (.bool f))], [(40, some ⟨.box 29 [.v (.int .i64 c), .v (.int .i64 d), .sl (.ints .u8 e)], false⟩), (40, some ⟨.box 29 [.v (.int .i64 a), .v (.int .i64 b), .v (.slice none 0 0)], false⟩)], 41, 33⟩))
noncomputable def L4 : wm := fun st K => af4 (V4 st) fun x => P.zm1 x (E4 K)
noncomputable def D : Ctx := ({ P := Tryd.prog, G := [], globs := GLO.gB, hints := [(4, ⟨[22, 23, 24], [], [4], [], some (40, []), [], [], []⟩)], loops := [(4, L4)], inl := [] } : Ctx)
theorem ahk (K) (next) (x) : og D (gq Tryd.f8 4) K next (S4 x) = P.zs1 x (fun x => next (S4 x)) (E4 K) := by kernel_rfl
theorem ao6 : mq D (gq Tryd.f8 4) := jk S4 an2 (by kernel_rfl) P.ze1 ahk
theorem loops : dw (Tryd.f8.body.getD .skip) = [gq Tryd.f8 4] := by kernel_rfl
noncomputable def bn : Abs.Spec := fun args K => match args with
 | [.agg [.sl (.ints .u8 a), .sl (.ints .u8 b)], .sl (.cols c [.ints .i64 d, .ints .i64 e, .rows .u8 f])] => P.afy a b c d e f (fun g => K (.v (.bool g)))
 | _ => none
noncomputable def spec : Abs.Spec := fun args K => bn (qb [.agg [.sl (.ints .u8 []), .sl (.ints .u8 [])], .sl (.cols 0 [.ints .i64 [], .ints .i64 [], .rows .u8 []])] args) K
theorem ok0 : Proved Tryd.prog GLO.gB 8 bn := by
 refine eu (D := D) (fn := Tryd.f8) (c := Tryd.f8.body.getD .skip) [.any] (by kernel_rfl) (au (by kernel_rfl)) (by kernel_rfl) (by kernel_rfl) (by kernel_rfl) trivial trivial ?_ ?_
 · rw [loops]; exact ⟨ao6, trivial⟩
 · intro args K r h
   unfold bn at h
   split at h
   · rw [P.adz] at h; exact Eq.trans (by kernel_rfl) h
   · cases h
theorem ok : Proved Tryd.prog GLO.gB 8 spec := iy _ ok0
end afy

namespace ze
abbrev X3 := P.bj5
def S3 : X3 → ASt := fun (a, b, c) => ⟨[(0, .sl (.ints .u8 a)), (3, .v (.int .u64 b)), (4, .v (.int .i64 c))], [], 0, 20⟩
def V3 : ASt → Option X3
 | ⟨[(0, .sl (.ints .u8 a)), (3, .v (.int .u64 b)), (4, .v (.int .i64 c))], [], 0, 20⟩ => some (a, b, c)
 | _ => none
theorem alx (st) (x) (h : V3 st = some x) : st = S3 x := by
 unfold V3 at h
 split at h
 · cases h; rfl
 · cases h
abbrev Y3 := P.bpb
def E3 (K : AExit → ASt → Option R) : Y3 → Option R := (fun x => K (.exit 0) (S3 x))
noncomputable def L3 : wm := fun st K => af4 (V3 st) fun x => P.bo7 x (E3 K)
noncomputable def D : Ctx := ({ P := Tryd.prog, G := [], globs := GLO.gB, hints := [(3, ⟨[0, 3, 4], [], [2], [], none, [], [], []⟩)], loops := [(3, L3)], inl := [] } : Ctx)
theorem afr (K) (next) (x) : og D (gq Tryd.f53 3) K next (S3 x) = P.bi1 x (fun x => next (S3 x)) (E3 K) := by kernel_rfl
theorem alk : mq D (gq Tryd.f53 3) := jk S3 alx (by kernel_rfl) P.bqn afr
theorem loops : dw (Tryd.f53.body.getD .skip) = [gq Tryd.f53 3] := by kernel_rfl
noncomputable def bn : Abs.Spec := fun args K => match args with
 | [.sl (.ints .u8 a)] => P.ze a (fun b => K (.v (.int .u64 b)))
 | _ => none
noncomputable def spec : Abs.Spec := fun args K => bn (qb [.sl (.ints .u8 [])] args) K
theorem ok0 : Proved Tryd.prog GLO.gB 53 bn := by
 refine eu (D := D) (fn := Tryd.f53) (c := Tryd.f53.body.getD .skip) [.any] (by kernel_rfl) (au (by kernel_rfl)) (by kernel_rfl) (by kernel_rfl) (by kernel_rfl) trivial trivial ?_ ?_
 · rw [loops]; exact ⟨alk, trivial⟩
 · intro args K r h
   unfold bn at h
   split at h
   · rw [P.aqj] at h; exact Eq.trans (by kernel_rfl) h
   · cases h
theorem ok : Proved Tryd.prog GLO.gB 53 spec := iy _ ok0
end ze

namespace ab1
abbrev X4 := P.blc
def S4 : X4 → ASt := fun (a, b, c) => ⟨[(0, .sl (.ints .u8 a)), (1, .sl (.ints .u8 b)), (5, .v (.int .i64 c))], [], 0, 26⟩
def V4 : ASt → Option X4
 | ⟨[(0, .sl (.ints .u8 a)), (1, .sl (.ints .u8 b)), (5, .v (.int .i64 c))], [], 0, 26⟩ => some (a, b, c)
 | _ => none
theorem an2 (st) (x) (h : V4 st = some x) : st = S4 x := by
 unfold V4 at h
 split at h
 · cases h; rfl
 · cases h
abbrev Y4 := P.bpi
def E4 (K : AExit → ASt → Option R) : Y4 → Option R := (Sum.elim (fun x => K (.exit 0) (S4 x)) (fun a => K .ret ⟨[(4, .v (.bool a))], [], 0, 26⟩))
noncomputable def L4 : wm := fun st K => af4 (V4 st) fun x => P.boj x (E4 K)
noncomputable def D : Ctx := ({ P := Tryd.prog, G := [], globs := GLO.gB, hints := [(4, ⟨[0, 1, 5], [], [4], [], none, [], [], []⟩)], loops := [(4, L4)], inl := [] } : Ctx)
theorem ahk (K) (next) (x) : og D (gq Tryd.f47 4) K next (S4 x) = P.bjr x (fun x => next (S4 x)) (E4 K) := by kernel_rfl
theorem ao6 : mq D (gq Tryd.f47 4) := jk S4 an2 (by kernel_rfl) P.bp5 ahk
theorem loops : dw (Tryd.f47.body.getD .skip) = [gq Tryd.f47 4] := by kernel_rfl
noncomputable def bn : Abs.Spec := fun args K => match args with
 | [.sl (.ints .u8 a), .sl (.ints .u8 b)] => P.ab1 a b (fun c => K (.v (.bool c)))
 | _ => none
noncomputable def spec : Abs.Spec := fun args K => bn (qb [.sl (.ints .u8 []), .sl (.ints .u8 [])] args) K
theorem ok0 : Proved Tryd.prog GLO.gB 47 bn := by
 refine eu (D := D) (fn := Tryd.f47) (c := Tryd.f47.body.getD .skip) [.any] (by kernel_rfl) (au (by kernel_rfl)) (by kernel_rfl) (by kernel_rfl) (by kernel_rfl) trivial trivial ?_ ?_
 · rw [loops]; exact ⟨ao6, trivial⟩
 · intro args K r h
   unfold bn at h
   split at h
   · rw [P.ant] at h; exact Eq.trans (by kernel_rfl) h
   · cases h
theorem ok : Proved Tryd.prog GLO.gB 47 spec := iy _ ok0
end ab1

namespace aaw
abbrev X5 := P.bjj
def S5 : X5 → ASt := fun (a, b, c) => ⟨[(0, .v (.int .u64 a)), (5, .own 0), (6, .v (.int .i64 b))], [(0, some ⟨.row 5 (.ints .u8 c), false⟩)], 1, 30⟩
def V5 : ASt → Option X5
 | ⟨[(0, .v (.int .u64 a)), (5, .own 0), (6, .v (.int .i64 b))], [(0, some ⟨.row 5 (.ints .u8 c), false⟩)], 1, 30⟩ => some (a, b, c)
 | _ => none
theorem azs (st) (x) (h : V5 st = some x) : st = S5 x := by
 unfold V5 at h
 split at h
 · cases h; rfl
 · cases h
abbrev Y5 := P.bnv
def E5 (K : AExit → ASt → Option R) : Y5 → Option R := (fun x => K (.exit 0) (S5 x))
noncomputable def L5 : wm := fun st K => af4 (V5 st) fun x => P.bom x (E5 K)
noncomputable def D : Ctx := ({ P := Tryd.prog, G := [], globs := GLO.gB, hints := [(5, ⟨[0, 5, 6], [], [4], [], none, [], [], []⟩)], loops := [(5, L5)], inl := [] } : Ctx)
theorem aui (K) (next) (x) : og D (gq Tryd.f60 5) K next (S5 x) = P.bj6 x (fun x => next (S5 x)) (E5 K) := by kernel_rfl
theorem bb6 : mq D (gq Tryd.f60 5) := jk S5 azs (by kernel_rfl) P.bqj aui
theorem loops : dw (Tryd.f60.body.getD .skip) = [gq Tryd.f60 5] := by kernel_rfl
noncomputable def bn : Abs.Spec := fun args K => match args with
 | [.v (.int .u64 a), .v (.int .i64 b)] => P.aaw a b (fun c => K (.fr 5 (.ints .u8 c)))
 | _ => none
noncomputable def spec : Abs.Spec := bn
theorem ok0 : Proved Tryd.prog GLO.gB 60 bn := by
 refine eu (D := D) (fn := Tryd.f60) (c := Tryd.f60.body.getD .skip) [.fr 5 (.ints .u8 [])] (by kernel_rfl) (au (by kernel_rfl)) (by kernel_rfl) (by kernel_rfl) (by kernel_rfl) trivial trivial ?_ ?_
 · rw [loops]; exact ⟨bb6, trivial⟩
 · intro args K r h
   unfold bn at h
   split at h
   · rw [P.au5] at h; exact Eq.trans (by kernel_rfl) h
   · cases h
theorem ok : Proved Tryd.prog GLO.gB 60 spec := ok0
end aaw

namespace yt
abbrev X3 := P.bhr
def S3 : X3 → ASt := fun (a, b, c) => ⟨[(3, .own 0), (0, .sl (.rows .u8 a)), (4, .v (.int .i64 b))], [(0, some ⟨.row 5 (.ints .u8 c), false⟩)], 1, 18⟩
def V3 : ASt → Option X3
 | ⟨[(3, .own 0), (0, .sl (.rows .u8 a)), (4, .v (.int .i64 b))], [(0, some ⟨.row 5 (.ints .u8 c), false⟩)], 1, 18⟩ => some (a, b, c)
 | _ => none
theorem alx (st) (x) (h : V3 st = some x) : st = S3 x := by
 unfold V3 at h
 split at h
 · cases h; rfl
 · cases h
abbrev Y3 := P.bmk
def E3 (K : AExit → ASt → Option R) : Y3 → Option R := (fun x => K (.exit 0) (S3 x))
noncomputable def L3 : wm := fun st K => af4 (V3 st) fun x => P.bms x (E3 K)
noncomputable def D : Ctx := ({ P := Tryd.prog, G := [], globs := GLO.gB, hints := [(3, ⟨[0, 4], [(3, 5, .ints .u8 [])], [2], [], none, [], [], []⟩)], loops := [(3, L3)], inl := [] } : Ctx)
theorem afr (K) (next) (x) : og D (gq Tryd.f59 3) K next (S3 x) = P.bi6 x (fun x => next (S3 x)) (E3 K) := by kernel_rfl
theorem alk : mq D (gq Tryd.f59 3) := jk S3 alx (by kernel_rfl) P.bp7 afr
theorem loops : dw (Tryd.f59.body.getD .skip) = [gq Tryd.f59 3] := by kernel_rfl
noncomputable def bn : Abs.Spec := fun args K => match args with
 | [.sl (.rows .u8 a)] => P.yt a (fun b => K (.fr 5 (.ints .u8 b)))
 | _ => none
noncomputable def spec : Abs.Spec := fun args K => bn (qb [.sl (.rows .u8 [])] args) K
theorem ok0 : Proved Tryd.prog GLO.gB 59 bn := by
 refine eu (D := D) (fn := Tryd.f59) (c := Tryd.f59.body.getD .skip) [.fr 5 (.ints .u8 [])] (by kernel_rfl) (au (by kernel_rfl)) (by kernel_rfl) (by kernel_rfl) (by kernel_rfl) trivial trivial ?_ ?_
 · rw [loops]; exact ⟨alk, trivial⟩
 · intro args K r h
   unfold bn at h
   split at h
   · rw [P.ana] at h; exact Eq.trans (by kernel_rfl) h
   · cases h
theorem ok : Proved Tryd.prog GLO.gB 59 spec := iy _ ok0
end yt

namespace qz
noncomputable def D : Ctx := ({ P := Tryd.prog, G := [], globs := GLO.gB, hints := [], loops := [], inl := [] } : Ctx)
theorem loops : dw (Tryd.f82.body.getD .skip) = [] := by kernel_rfl
noncomputable def bn : Abs.Spec := fun args K => match args with
 | [.v (.int .i64 a)] => P.qz a (fun b => K (.v (.int .i64 b)))
 | _ => none
noncomputable def spec : Abs.Spec := bn
theorem ok0 : Proved Tryd.prog GLO.gB 82 bn := by
 refine eu (D := D) (fn := Tryd.f82) (c := Tryd.f82.body.getD .skip) [.any] (by kernel_rfl) (au (by kernel_rfl)) (by kernel_rfl) (by kernel_rfl) (by kernel_rfl) trivial trivial ?_ ?_
 · rw [loops]; exact trivial
 · intro args K r h
   unfold bn at h
   split at h
   · rw [P.al6] at h; exact Eq.trans (by kernel_rfl) h
   · cases h
theorem ok : Proved Tryd.prog GLO.gB 82 spec := ok0
end qz

namespace um
noncomputable def D : Ctx := ({ P := Tryd.prog, G := [], globs := GLO.gB, hints := [], loops := [], inl := [] } : Ctx)
theorem loops : dw (Tryd.f96.body.getD .skip) = [] := by kernel_rfl
noncomputable def bn : Abs.Spec := fun args K => match args with
 | [.v (.int .u64 a), .v (.int .i64 b), .v (.bool c)] => P.um a b c (fun d => K (.v (.int .u64 d)))
 | _ => none
noncomputable def spec : Abs.Spec := bn
theorem ok0 : Proved Tryd.prog GLO.gB 96 bn := by
 refine eu (D := D) (fn := Tryd.f96) (c := Tryd.f96.body.getD .skip) [.any] (by kernel_rfl) (au (by kernel_rfl)) (by kernel_rfl) (by kernel_rfl) (by kernel_rfl) trivial trivial ?_ ?_
 · rw [loops]; exact trivial
 · intro args K r h
   unfold bn at h
   split at h
   · rw [P.ae1] at h; exact Eq.trans (by kernel_rfl) h
   · cases h
theorem ok : Proved Tryd.prog GLO.gB 96 spec := ok0
end um

namespace ug
noncomputable def D : Ctx := ({ P := Tryd.prog, G := [(96, um.spec)], globs := GLO.gB, hints := [], loops := [], inl := [] } : Ctx)
theorem loops : dw (Tryd.f91.body.getD .skip) = [] := by kernel_rfl
noncomputable def bn : Abs.Spec := fun args K => match args with
 | [.v (.int .u64 a), .v (.int .i64 b), .v (.int .i64 c), .v (.int .i64 d), .v (.bool e), .v (.bool f)] => P.ug a b c d e f (fun g => K (.v (.int .u64 g)))
 | _ => none
noncomputable def spec : Abs.Spec := bn
theorem ok0 : Proved Tryd.prog GLO.gB 91 bn := by
 refine eu (D := D) (fn := Tryd.f91) (c := Tryd.f91.body.getD .skip) [.any] (by kernel_rfl) (au (by kernel_rfl)) (by kernel_rfl) (by kernel_rfl) (by kernel_rfl) ⟨um.ok, trivial⟩ trivial ?_ ?_
 · rw [loops]; exact trivial
 · intro args K r h
   unfold bn at h
   split at h
   · rw [P.aci] at h; exact Eq.trans (by kernel_rfl) h
   · cases h
theorem ok : Proved Tryd.prog GLO.gB 91 spec := ok0
end ug

namespace qx
noncomputable def D : Ctx := ({ P := Tryd.prog, G := [], globs := GLO.gB, hints := [], loops := [], inl := [] } : Ctx)
theorem loops : dw (Tryd.f88.body.getD .skip) = [] := by kernel_rfl
noncomputable def bn : Abs.Spec := fun args K => match args with
 | [] => P.qx (fun a => K (.arr .u64 64 a))
 | _ => none
noncomputable def spec : Abs.Spec := bn
theorem ok0 : Proved Tryd.prog GLO.gB 88 bn := by
 refine eu (D := D) (fn := Tryd.f88) (c := Tryd.f88.body.getD .skip) [.any] (by kernel_rfl) (au (by kernel_rfl)) (by kernel_rfl) (by kernel_rfl) (by kernel_rfl) trivial trivial ?_ ?_
 · rw [loops]; exact trivial
 · intro args K r h
   unfold bn at h
   split at h
   · rw [P.ad3] at h; exact Eq.trans (by kernel_rfl) h
   · cases h
theorem ok : Proved Tryd.prog GLO.gB 88 spec := ok0
end qx

namespace qy
noncomputable def D : Ctx := ({ P := Tryd.prog, G := [], globs := GLO.gB, hints := [], loops := [], inl := [] } : Ctx)
theorem loops : dw (Tryd.f89.body.getD .skip) = [] := by kernel_rfl
noncomputable def bn : Abs.Spec := fun args K => match args with
 | [] => P.qy (fun a => K (.arr .u64 80 a))
 | _ => none
noncomputable def spec : Abs.Spec := bn
theorem ok0 : Proved Tryd.prog GLO.gB 89 bn := by
 refine eu (D := D) (fn := Tryd.f89) (c := Tryd.f89.body.getD .skip) [.any] (by kernel_rfl) (au (by kernel_rfl)) (by kernel_rfl) (by kernel_rfl) (by kernel_rfl) trivial trivial ?_ ?_
 · rw [loops]; exact trivial
 · intro args K r h
   unfold bn at h
   split at h
   · rw [P.ad6] at h; exact Eq.trans (by kernel_rfl) h
   · cases h
theorem ok : Proved Tryd.prog GLO.gB 89 spec := ok0
end qy

namespace aac
abbrev X6 := P.bhx
def S6 : X6 → ASt := fun (b, c, d, e, f, a, g) => ⟨[(10, .own 0), (0, .sl (.ints .u8 b)), (1, .v (.bool c)), (2, .v (.int .i64 d)), (3, .v (.int .u64 e)), (9, .v (.int .i64 f)), (11, .v (.int .i64 a))], [(0, some ⟨.row 25 (.ints .u64 g), false⟩)], 1, 82⟩
def V6 : ASt → Option X6
 | ⟨[(10, .own 0), (0, .sl (.ints .u8 b)), (1, .v (.bool c)), (2, .v (.int .i64 d)), (3, .v (.int .u64 e)), (9, .v (.int .i64 f)), (11, .v (.int .i64 a))], [(0, some ⟨.row 25 (.ints .u64 g), false⟩)], 1, 82⟩ => some (b, c, d, e, f, a, g)
 | _ => none
theorem bfq (st) (x) (h : V6 st = some x) : st = S6 x := by
 unfold V6 at h
 split at h
 · cases h; rfl
 · cases h
abbrev Y6 := P.bmw
def E6 (K : AExit → ASt → Option R) : Y6 → Option R := (fun x => K (.exit 0) (S6 x))
noncomputable def L6 : wm := fun st K => af4 (V6 st) fun x => P.bl4 x (E6 K)
noncomputable def D : Ctx := ({ P := Tryd.prog, G := [(53, ze.spec), (91, ug.spec)], globs := GLO.gB, hints := [(6, ⟨[0, 1, 2, 3, 9, 11], [(10, 25, .ints .u64 [])], [8], [], none, [], [], []⟩)], loops := [(6, L6)], inl := [] } : Ctx)
theorem bcf (K) (next) (x) : og D (gq Tryd.f90 6) K next (S6 x) = P.bhk x (fun x => next (S6 x)) (E6 K) := by kernel_rfl
theorem bg5 : mq D (gq Tryd.f90 6) := jk S6 bfq (by kernel_rfl) P.bp2 bcf
theorem loops : dw (Tryd.f90.body.getD .skip) = [gq Tryd.f90 6] := by kernel_rfl
noncomputable def bn : Abs.Spec := fun args K => match args with
 | [.sl (.ints .u8 a), .v (.bool b), .v (.int .i64 c), .v (.int .u64 d)] => P.aac a b c d (fun e => K (.fr 25 (.ints .u64 e)))
 | _ => none
noncomputable def spec : Abs.Spec := fun args K => bn (qb [.sl (.ints .u8 []), .any, .any, .any] args) K
theorem ok0 : Proved Tryd.prog GLO.gB 90 bn := by
 refine eu (D := D) (fn := Tryd.f90) (c := Tryd.f90.body.getD .skip) [.fr 25 (.ints .u64 [])] (by kernel_rfl) (au (by kernel_rfl)) (by kernel_rfl) (by kernel_rfl) (by kernel_rfl) ⟨ze.ok, ug.ok, trivial⟩ trivial ?_ ?_
 · rw [loops]; exact ⟨bg5, trivial⟩
 · intro args K r h
   unfold bn at h
   split at h
   · rw [P.aht] at h; exact Eq.trans (by kernel_rfl) h
   · cases h
theorem ok : Proved Tryd.prog GLO.gB 90 spec := iy _ ok0
end aac

namespace abb
abbrev X11 := P.bko
def S11 : X11 → ASt := fun (g, h, i, f, a, b, c, d, j, e) => ⟨[(2, .v (.bool g)), (3, .ptr 0 0), (6, .ptr 1 0), (7, .v (.int .i64 h)), (8, .v (.int .u64 i)), (9, .ptr 2 0), (10, .ptr 3 0), (11, .own 4), (12, .ptr 5 0), (13, .v (.int .i64 f))], [(0, some ⟨.box 111 [.arr .u64 8 a], false⟩), (1, some ⟨.box 111 [.arr .u64 8 b], false⟩), (2, some ⟨.box 144 [.arr .u64 64 c], false⟩), (3, some ⟨.box 146 [.arr .u64 80 d], false⟩), (4, some ⟨.row 25 (.ints .u64 j), false⟩), (5, some ⟨.box 111 [.arr .u64 8 e], false⟩)], 6, 137⟩
def V11 : ASt → Option X11
 | ⟨[(2, .v (.bool g)), (3, .ptr 0 0), (6, .ptr 1 0), (7, .v (.int .i64 h)), (8, .v (.int .u64 i)), (9, .ptr 2 0), (10, .ptr 3 0), (11, .own 4), (12, .ptr 5 0), (13, .v (.int .i64 f))], [(0, some ⟨.box 111 [.arr .u64 8 a], false⟩), (1, some ⟨.box 111 [.arr .u64 8 b], false⟩), (2, some ⟨.box 144 [.arr .u64 64 c], false⟩), (3, some ⟨.box 146 [.arr .u64 80 d], false⟩), (4, some ⟨.row 25 (.ints .u64 j), false⟩), (5, some ⟨.box 111 [.arr .u64 8 e], false⟩)], 6, 137⟩ => some (g, h, i, f, a, b, c, d, j, e)
 | _ => none
theorem atg (st) (x) (h : V11 st = some x) : st = S11 x := by
 unfold V11 at h
 split at h
 · cases h; rfl
 · cases h
abbrev Y11 := P.bo2
abbrev X25 := P.bjl
def S25 : X25 → ASt := fun (e, d, a, b, c) => ⟨[(3, .ptr 0 0), (6, .ptr 1 0), (8, .v (.int .u64 e)), (12, .ptr 5 0), (19, .v (.int .i64 d))], [(0, some ⟨.box 111 [.arr .u64 8 a], false⟩), (1, some ⟨.box 111 [.arr .u64 8 b], false⟩), (5, some ⟨.box 111 [.arr .u64 8 c], false⟩)], 80, 137⟩
def V25 : ASt → Option X25
 | ⟨[(3, .ptr 0 0), (6, .ptr 1 0), (8, .v (.int .u64 e)), (12, .ptr 5 0), (19, .v (.int .i64 d))], [(0, some ⟨.box 111 [.arr .u64 8 a], false⟩), (1, some ⟨.box 111 [.arr .u64 8 b], false⟩), (5, some ⟨.box 111 [.arr .u64 8 c], false⟩)], 80, 137⟩ => some (e, d, a, b, c)
 | _ => none
theorem bkl (st) (x) (h : V25 st = some x) : st = S25 x := by
 unfold V25 at h
 split at h
 · cases h; rfl
 · cases h
abbrev Y25 := P.bpo
def E11 (K : AExit → ASt → Option R) : Y11 → Option R := (fun x => K (.exit 0) (S11 x))
noncomputable def L11 : wm := fun st K => af4 (V11 st) fun x => P.bnm x (E11 K)
def E25 (K : AExit → ASt → Option R) : Y25 → Option R := (fun x => K (.exit 2) (S25 x))
noncomputable def L25 : wm := fun st K => af4 (V25 st) fun x => P.bos x (E25 K)
noncomputable def D : Ctx := ({ P := Tryd.prog, G := [(88, qx.spec), (89, qy.spec), (90, aac.spec), (91, ug.spec)], globs := GLO.gB, hints := [(25, ⟨[3, 6, 8, 12, 19], [], [6], [], some (80, [0, 1, 5]), [], [], []⟩), (11, ⟨[2, 3, 6, 7, 8, 9, 10, 11, 12, 13], [], [6], [], none, [], [], []⟩)], loops := [(11, L11), (25, L25)], inl := [] } : Ctx)
theorem ao0 (K) (next) (x) : og D (gq Tryd.f83 11) K next (S11 x) = P.bhp x (fun x => next (S11 x)) (E11 K) := by kernel_rfl
theorem auw : mq D (gq Tryd.f83 11) := jk S11 atg (by kernel_rfl) P.bp3 ao0
theorem bgk (K) (next) (x) : og D (gq Tryd.f83 25) K next (S25 x) = P.bhi x (fun x => next (S25 x)) (E25 K) := by kernel_rfl
theorem bil : mq D (gq Tryd.f83 25) := jk S25 bkl (by kernel_rfl) P.bqs bgk
theorem loops : dw (Tryd.f83.body.getD .skip) = [gq Tryd.f83 11, gq Tryd.f83 25] := by kernel_rfl
noncomputable def bn : Abs.Spec := fun args K => match args with
 | [.arr .u64 8 a, .sl (.ints .u8 b), .v (.bool c)] => P.abb a b c (fun d => K (.arr .u64 8 d))
 | _ => none
noncomputable def spec : Abs.Spec := fun args K => bn (qb [.any, .sl (.ints .u8 []), .any] args) K
theorem ok0 : Proved Tryd.prog GLO.gB 83 bn := by
 refine eu (D := D) (fn := Tryd.f83) (c := Tryd.f83.body.getD .skip) [.any] (by kernel_rfl) (au (by kernel_rfl)) (by kernel_rfl) (by kernel_rfl) (by kernel_rfl) ⟨qx.ok, qy.ok, aac.ok, ug.ok, trivial⟩ trivial ?_ ?_
 · rw [loops]; exact ⟨auw, bil, trivial⟩
 · intro args K r h
   unfold bn at h
   split at h
   · rw [P.ahh] at h; exact Eq.trans (by kernel_rfl) h
   · cases h
theorem ok : Proved Tryd.prog GLO.gB 83 spec := iy _ ok0
end abb

namespace aal
abbrev X4 := P.bhs
def S4 : X4 → ASt := fun (h, i, a, b, c, d, e, f, g) => ⟨[(2, .ptr 0 0), (4, .ptr 1 0), (5, .v (.int .i64 h)), (6, .sl (.ints .u8 i))], [(0, some ⟨.box 113 [.v (.int .i64 a), .arr .u64 8 b, .sl (.ints .u8 c), .v (.int .u64 d)], false⟩), (1, some ⟨.box 113 [.v (.int .i64 e), .arr .u64 8 f, .v (.slice none 0 0), .v (.int .u64 g)], false⟩)], 40, 41⟩
def V4 : ASt → Option X4
 | ⟨[(2, .ptr 0 0), (4, .ptr 1 0), (5, .v (.int .i64 h)), (6, .sl (.ints .u8 i))], [(0, some ⟨.box 113 [.v (.int .i64 a), .arr .u64 8 b, .sl (.ints .u8 c), .v (.int .u64 d)], false⟩), (1, some ⟨.box 113 [.v (.int .i64 e), .arr .u64 8 f, .v (.slice none 0 0), .v (.int .u64 g)], false⟩)], 40, 41⟩ => some (h, i, a, b, c, d, e, f, g)
 | _ => none
theorem an2 (st) (x) (h : V4 st = some x) : st = S4 x := by
 unfold V4 at h
 split at h
 · cases h; rfl
 · cases h
abbrev Y4 := P.bml
def E4 (K : AExit → ASt → Option R) : Y4 → Option R := (fun x => K (.exit 0) (S4 x))
noncomputable def L4 : wm := fun st K => af4 (V4 st) fun x => P.bnz x (E4 K)
noncomputable def D : Ctx := ({ P := Tryd.prog, G := [(59, yt.spec), (82, qz.spec), (83, abb.spec)], globs := GLO.gB, hints := [(4, ⟨[2, 4, 5, 6], [], [4], [(6, .sl (.ints .u8 []))], some (40, [0, 1]), [], [], []⟩)], loops := [(4, L4)], inl := [] } : Ctx)
theorem ahk (K) (next) (x) : og D (gq Tryd.f74 4) K next (S4 x) = P.bhj x (fun x => next (S4 x)) (E4 K) := by kernel_rfl
theorem ao6 : mq D (gq Tryd.f74 4) := jk S4 an2 (by kernel_rfl) P.bqe ahk
theorem loops : dw (Tryd.f74.body.getD .skip) = [gq Tryd.f74 4] := by kernel_rfl
noncomputable def bn : Abs.Spec := fun args K => match args with
 | [.agg [.v (.int .i64 c), .arr .u64 8 a, .sl (.ints .u8 d), .v (.int .u64 e)], .sl (.ints .u8 i)] => P.aal c a d e i (fun f b g h => K (.agg [.v (.int .i64 f), .arr .u64 8 b, .sl (.ints .u8 g), .v (.int .u64 h)]))
 | _ => none
noncomputable def spec : Abs.Spec := fun args K => bn (qb [.agg [.any, .any, .sl (.ints .u8 []), .any], .sl (.ints .u8 [])] args) K
theorem ok0 : Proved Tryd.prog GLO.gB 74 bn := by
 refine eu (D := D) (fn := Tryd.f74) (c := Tryd.f74.body.getD .skip) [.agg [.any, .any, .sl (.ints .u8 []), .any]] (by kernel_rfl) (au (by kernel_rfl)) (by kernel_rfl) (by kernel_rfl) (by kernel_rfl) ⟨yt.ok, qz.ok, abb.ok, trivial⟩ trivial ?_ ?_
 · rw [loops]; exact ⟨ao6, trivial⟩
 · intro args K r h
   unfold bn at h
   split at h
   · rw [P.aqn] at h; exact Eq.trans (by kernel_rfl) h
   · cases h
theorem ok : Proved Tryd.prog GLO.gB 74 spec := iy _ ok0
end aal

end
