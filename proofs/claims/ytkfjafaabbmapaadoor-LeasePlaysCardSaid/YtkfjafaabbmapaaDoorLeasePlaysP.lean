/-
  LeasePlays, part 16: an interpreter of my own over abstract values, the pure functions, the walks and the plain law.
-/

import Derived.Test.YtkfjafaabbmapaaDoorLeasePlaysK
import Derived.Test.YtkfjafaabbmapaaDoorLeasePlaysH
import Derived.Test.YtkfjafaabbmapaaDoorProg
import Derived.Test.YtkfjafaabbmapaaDoorLeasePlaysJ
import Derived.Test.YtkfjafaabbmapaaDoorLeasePlaysO
import Derived.KernelRfl
import Derived.Test.YtkfjafaabbmapaaDoorLeasePlaysI

section
open Go Go.Abs Go.Proofs
set_option maxRecDepth 100000
set_option maxHeartbeats 0
set_option linter.unusedVariables false

namespace x9
noncomputable def D6 : Ctx := ({ P := Tryd.prog, G := [(10, iy.spec), (28, cu.spec), (50, dx.spec), (52, iq.spec)], globs := GLO.gB, hints := [], loops := [], inl := [] } : Ctx)
noncomputable def D5 : Ctx := ({ P := Tryd.prog, G := [(10, iy.spec), (28, cu.spec), (50, dx.spec), (52, iq.spec)], globs := GLO.gB, hints := [], loops := [], inl := [] } : Ctx)
noncomputable def D4 : Ctx := ({ P := Tryd.prog, G := [(10, iy.spec), (28, cu.spec), (50, dx.spec), (52, iq.spec)], globs := GLO.gB, hints := [], loops := [], inl := [] } : Ctx)
noncomputable def D3 : Ctx := ({ P := Tryd.prog, G := [(10, iy.spec), (28, cu.spec), (50, dx.spec), (52, iq.spec)], globs := GLO.gB, hints := [], loops := [], inl := [(49, aar D5 Tryd.f49), (40, aar D6 Tryd.f40)] } : Ctx)
noncomputable def D2 : Ctx := ({ P := Tryd.prog, G := [(10, iy.spec), (28, cu.spec), (50, dx.spec), (52, iq.spec)], globs := GLO.gB, hints := [], loops := [], inl := [(49, aar D5 Tryd.f49)] } : Ctx)
noncomputable def D1 : Ctx := ({ P := Tryd.prog, G := [(10, iy.spec), (28, cu.spec), (50, dx.spec), (52, iq.spec)], globs := GLO.gB, hints := [], loops := [], inl := [(34, aar D2 Tryd.f34)] } : Ctx)
noncomputable def D : Ctx := ({ P := Tryd.prog, G := [(10, iy.spec), (28, cu.spec), (50, dx.spec), (52, iq.spec)], globs := GLO.gB, hints := [], loops := [], inl := [(37, aar D1 Tryd.f37)] } : Ctx)
theorem loops : dh (Tryd.f19.body.getD .skip) = [] := by kernel_rfl
theorem aph : dh (Tryd.f37.body.getD .skip) = [] := by kernel_rfl
theorem asr : dh (Tryd.f34.body.getD .skip) = [] := by kernel_rfl
theorem ay2 : dh (Tryd.f39.body.getD .skip) = [] := by kernel_rfl
theorem bge : dh (Tryd.f38.body.getD .skip) = [] := by kernel_rfl
theorem av0 : dh (Tryd.f49.body.getD .skip) = [] := by kernel_rfl
theorem bby : dh (Tryd.f40.body.getD .skip) = [] := by kernel_rfl
noncomputable def bg : Abs.Spec := fun args K => match args with
 | [.agg [.sl (.ints .u8 a), .sl (.ints .u8 b), .v (.int .u64 e), .v (.int .u64 g), .v (.int .u64 k), .v (.int .u64 h), .v (.bool m)]] => P.x9 a b e g k h m (fun c d f i l j n o p => K (.tuple [.agg [.sl (.ints .u8 c), .sl (.ints .u8 d), .v (.int .u64 f), .v (.int .u64 i), .v (.int .u64 l), .v (.int .u64 j), .v (.bool n)], .v (.int .u64 o), .v (.int .i64 p)]))
 | _ => none
noncomputable def spec : Abs.Spec := fun args K => bg (nk [.agg [.sl (.ints .u8 []), .sl (.ints .u8 []), .any, .any, .any, .any, .any]] args) K
theorem ok0 : Proved Tryd.prog GLO.gB 19 bg := by
 refine fq (D := D) (fn := Tryd.f19) (c := Tryd.f19.body.getD .skip) [.agg [.sl (.ints .u8 []), .sl (.ints .u8 []), .any, .any, .any, .any, .any], .any, .any] (by kernel_rfl) (au (by kernel_rfl)) (by kernel_rfl) (by kernel_rfl) (by kernel_rfl) ⟨iy.ok, cu.ok, dx.ok, iq.ok, trivial⟩ ⟨ad3 (D := D1) (D' := D) (fn := Tryd.f37) (c := Tryd.f37.body.getD .skip) rfl rfl (by kernel_rfl) (au (by kernel_rfl)) (by kernel_rfl) (by kernel_rfl) (by kernel_rfl) ⟨iy.ok, cu.ok, dx.ok, iq.ok, trivial⟩ ⟨ad3 (D := D2) (D' := D1) (fn := Tryd.f34) (c := Tryd.f34.body.getD .skip) rfl rfl (by kernel_rfl) (au (by kernel_rfl)) (by kernel_rfl) (by kernel_rfl) (by kernel_rfl) ⟨iy.ok, cu.ok, dx.ok, iq.ok, trivial⟩ ⟨ad3 (D := D5) (D' := D2) (fn := Tryd.f49) (c := Tryd.f49.body.getD .skip) rfl rfl (by kernel_rfl) (au (by kernel_rfl)) (by kernel_rfl) (by kernel_rfl) (by kernel_rfl) ⟨iy.ok, cu.ok, dx.ok, iq.ok, trivial⟩ trivial (by rw [av0]; exact trivial) (fun _ _ _ _ _ h => h), trivial⟩ (by rw [asr]; exact trivial) (fun _ _ _ _ _ h => h), trivial⟩ (by rw [aph]; exact trivial) (fun _ _ _ _ _ h => h), trivial⟩ ?_ ?_
 · rw [loops]; exact trivial
 · intro args K r h
   unfold bg at h
   split at h
   · rw [P.alh] at h; exact Eq.trans (by kernel_rfl) h
   · cases h
theorem ok : Proved Tryd.prog GLO.gB 19 spec := gu _ ok0
end x9

namespace uz
noncomputable def D : Ctx := ({ P := Tryd.prog, G := [(12, aay.spec), (19, x9.spec), (24, qd.spec)], globs := GLO.gB, hints := [], loops := [], inl := [] } : Ctx)
theorem loops : dh (Tryd.f9.body.getD .skip) = [] := by kernel_rfl
noncomputable def bg : Abs.Spec := fun args K => match args with
 | [] => P.uz (fun a => K (.v (.bool a)))
 | _ => none
noncomputable def spec : Abs.Spec := bg
theorem ok0 : Proved Tryd.prog GLO.gB 9 bg := by
 refine fq (D := D) (fn := Tryd.f9) (c := Tryd.f9.body.getD .skip) [.any] (by kernel_rfl) (au (by kernel_rfl)) (by kernel_rfl) (by kernel_rfl) (by kernel_rfl) ⟨aay.ok, x9.ok, qd.ok, trivial⟩ trivial ?_ ?_
 · rw [loops]; exact trivial
 · intro args K r h
   unfold bg at h
   split at h
   · rw [P.anb] at h; exact Eq.trans (by kernel_rfl) h
   · cases h
theorem ok : Proved Tryd.prog GLO.gB 9 spec := ok0
end uz

namespace agr
abbrev X4 := P.zt1
def S4 : X4 → ASt := fun (a, b, c, d, e, f) => ⟨[(22, .sl (.cols a [.ints .i64 b, .ints .i64 c, .rows .u8 d])), (23, .v (.int .i64 e)), (24, .v (.int .i64 f))], [], 40, 33⟩
def V4 : ASt → Option X4
 | ⟨[(22, .sl (.cols a [.ints .i64 b, .ints .i64 c, .rows .u8 d])), (23, .v (.int .i64 e)), (24, .v (.int .i64 f))], [], 40, 33⟩ => some (a, b, c, d, e, f)
 | _ => none
theorem amr (st) (x) (h : V4 st = some x) : st = S4 x := by
 unfold V4 at h
 split at h
 · cases h; rfl
 · cases h
abbrev Y4 := P.zy1
def E4 (K : AExit → ASt → Option R) : Y4 → Option R := (Sum.elim (fun x => K (.exit 0) (S4 x)) (fun (f, c, d, e, a, b) => K .ret ⟨[(4, .v (.bool f))], [(40, some ⟨.box 29 [.v (.int .i64 c), .v (.int .i64 d), .sl (.ints .u8 e)], false⟩), (40, some ⟨.box 29 [.v (.int .i64 a), .v (.int .i64 b), .v (.slice none 0 0)], false⟩)], 41, 33⟩))
noncomputable def L4 : yu := fun st K => ag3 (V4 st) fun x => P.zm1 x (E4 K)
noncomputable def D : Ctx := ({ P := Tryd.prog, G := [], globs := GLO.gB, hints := [(4, ⟨[22, 23, 24], [], [4], [], some (40, []), [], [], []⟩)], loops := [(4, L4)], inl := [] } : Ctx)
theorem af6 (K) (next) (x) : oq D (iw Tryd.f8 4) K next (S4 x) = P.zs1 x (fun x => next (S4 x)) (E4 K) := by kernel_rfl
theorem ams : ng D (iw Tryd.f8 4) := jl S4 amr (by kernel_rfl) P.ze1 af6
theorem loops : dh (Tryd.f8.body.getD .skip) = [iw Tryd.f8 4] := by kernel_rfl
noncomputable def bg : Abs.Spec := fun args K => match args with
 | [.agg [.sl (.ints .u8 a), .sl (.ints .u8 b)], .sl (.cols c [.ints .i64 d, .ints .i64 e, .rows .u8 f])] => P.agr a b c d e f (fun g => K (.v (.bool g)))
 | _ => none
noncomputable def spec : Abs.Spec := fun args K => bg (nk [.agg [.sl (.ints .u8 []), .sl (.ints .u8 [])], .sl (.cols 0 [.ints .i64 [], .ints .i64 [], .rows .u8 []])] args) K
theorem ok0 : Proved Tryd.prog GLO.gB 8 bg := by
 refine fq (D := D) (fn := Tryd.f8) (c := Tryd.f8.body.getD .skip) [.any] (by kernel_rfl) (au (by kernel_rfl)) (by kernel_rfl) (by kernel_rfl) (by kernel_rfl) trivial trivial ?_ ?_
 · rw [loops]; exact ⟨ams, trivial⟩
 · intro args K r h
   unfold bg at h
   split at h
   · rw [P.aec] at h; exact Eq.trans (by kernel_rfl) h
   · cases h
theorem ok : Proved Tryd.prog GLO.gB 8 spec := gu _ ok0
end agr

namespace zq
abbrev X3 := P.bjm
def S3 : X3 → ASt := fun (a, b, c) => ⟨[(0, .sl (.ints .u8 a)), (3, .v (.int .u64 b)), (4, .v (.int .i64 c))], [], 0, 20⟩
def V3 : ASt → Option X3
 | ⟨[(0, .sl (.ints .u8 a)), (3, .v (.int .u64 b)), (4, .v (.int .i64 c))], [], 0, 20⟩ => some (a, b, c)
 | _ => none
theorem aj9 (st) (x) (h : V3 st = some x) : st = S3 x := by
 unfold V3 at h
 split at h
 · cases h; rfl
 · cases h
abbrev Y3 := P.bmt
def E3 (K : AExit → ASt → Option R) : Y3 → Option R := (fun x => K (.exit 0) (S3 x))
noncomputable def L3 : yu := fun st K => ag3 (V3 st) fun x => P.boz x (E3 K)
noncomputable def D : Ctx := ({ P := Tryd.prog, G := [], globs := GLO.gB, hints := [(3, ⟨[0, 3, 4], [], [2], [], none, [], [], []⟩)], loops := [(3, L3)], inl := [] } : Ctx)
theorem ae7 (K) (next) (x) : oq D (iw Tryd.f53 3) K next (S3 x) = P.bjn x (fun x => next (S3 x)) (E3 K) := by kernel_rfl
theorem ajs : ng D (iw Tryd.f53 3) := jl S3 aj9 (by kernel_rfl) P.bq2 ae7
theorem loops : dh (Tryd.f53.body.getD .skip) = [iw Tryd.f53 3] := by kernel_rfl
noncomputable def bg : Abs.Spec := fun args K => match args with
 | [.sl (.ints .u8 a)] => P.zq a (fun b => K (.v (.int .u64 b)))
 | _ => none
noncomputable def spec : Abs.Spec := fun args K => bg (nk [.sl (.ints .u8 [])] args) K
theorem ok0 : Proved Tryd.prog GLO.gB 53 bg := by
 refine fq (D := D) (fn := Tryd.f53) (c := Tryd.f53.body.getD .skip) [.any] (by kernel_rfl) (au (by kernel_rfl)) (by kernel_rfl) (by kernel_rfl) (by kernel_rfl) trivial trivial ?_ ?_
 · rw [loops]; exact ⟨ajs, trivial⟩
 · intro args K r h
   unfold bg at h
   split at h
   · rw [P.ar9] at h; exact Eq.trans (by kernel_rfl) h
   · cases h
theorem ok : Proved Tryd.prog GLO.gB 53 spec := gu _ ok0
end zq

namespace vw
abbrev X4 := P.bl3
def S4 : X4 → ASt := fun (a, b, c) => ⟨[(0, .sl (.ints .u8 a)), (1, .sl (.ints .u8 b)), (5, .v (.int .i64 c))], [], 0, 26⟩
def V4 : ASt → Option X4
 | ⟨[(0, .sl (.ints .u8 a)), (1, .sl (.ints .u8 b)), (5, .v (.int .i64 c))], [], 0, 26⟩ => some (a, b, c)
 | _ => none
theorem amr (st) (x) (h : V4 st = some x) : st = S4 x := by
 unfold V4 at h
 split at h
 · cases h; rfl
 · cases h
abbrev Y4 := P.bns
def E4 (K : AExit → ASt → Option R) : Y4 → Option R := (Sum.elim (fun x => K (.exit 0) (S4 x)) (fun a => K .ret ⟨[(4, .v (.bool a))], [], 0, 26⟩))
noncomputable def L4 : yu := fun st K => ag3 (V4 st) fun x => P.bn2 x (E4 K)
noncomputable def D : Ctx := ({ P := Tryd.prog, G := [], globs := GLO.gB, hints := [(4, ⟨[0, 1, 5], [], [4], [], none, [], [], []⟩)], loops := [(4, L4)], inl := [] } : Ctx)
theorem af6 (K) (next) (x) : oq D (iw Tryd.f47 4) K next (S4 x) = P.bli x (fun x => next (S4 x)) (E4 K) := by kernel_rfl
theorem ams : ng D (iw Tryd.f47 4) := jl S4 amr (by kernel_rfl) P.bqs af6
theorem loops : dh (Tryd.f47.body.getD .skip) = [iw Tryd.f47 4] := by kernel_rfl
noncomputable def bg : Abs.Spec := fun args K => match args with
 | [.sl (.ints .u8 a), .sl (.ints .u8 b)] => P.vw a b (fun c => K (.v (.bool c)))
 | _ => none
noncomputable def spec : Abs.Spec := fun args K => bg (nk [.sl (.ints .u8 []), .sl (.ints .u8 [])] args) K
theorem ok0 : Proved Tryd.prog GLO.gB 47 bg := by
 refine fq (D := D) (fn := Tryd.f47) (c := Tryd.f47.body.getD .skip) [.any] (by kernel_rfl) (au (by kernel_rfl)) (by kernel_rfl) (by kernel_rfl) (by kernel_rfl) trivial trivial ?_ ?_
 · rw [loops]; exact ⟨ams, trivial⟩
 · intro args K r h
   unfold bg at h
   split at h
   · rw [P.ao0] at h; exact Eq.trans (by kernel_rfl) h
   · cases h
theorem ok : Proved Tryd.prog GLO.gB 47 spec := gu _ ok0
end vw

namespace aa6
abbrev X5 := P.bk7
def S5 : X5 → ASt := fun (a, b, c) => ⟨[(0, .v (.int .u64 a)), (5, .own 0), (6, .v (.int .i64 b))], [(0, some ⟨.row 5 (.ints .u8 c), false⟩)], 1, 30⟩
def V5 : ASt → Option X5
 | ⟨[(0, .v (.int .u64 a)), (5, .own 0), (6, .v (.int .i64 b))], [(0, some ⟨.row 5 (.ints .u8 c), false⟩)], 1, 30⟩ => some (a, b, c)
 | _ => none
theorem bc5 (st) (x) (h : V5 st = some x) : st = S5 x := by
 unfold V5 at h
 split at h
 · cases h; rfl
 · cases h
abbrev Y5 := P.bp1
def E5 (K : AExit → ASt → Option R) : Y5 → Option R := (fun x => K (.exit 0) (S5 x))
noncomputable def L5 : yu := fun st K => ag3 (V5 st) fun x => P.bo0 x (E5 K)
noncomputable def D : Ctx := ({ P := Tryd.prog, G := [], globs := GLO.gB, hints := [(5, ⟨[0, 5, 6], [], [4], [], none, [], [], []⟩)], loops := [(5, L5)], inl := [] } : Ctx)
theorem auu (K) (next) (x) : oq D (iw Tryd.f60 5) K next (S5 x) = P.bkm x (fun x => next (S5 x)) (E5 K) := by kernel_rfl
theorem bcd : ng D (iw Tryd.f60 5) := jl S5 bc5 (by kernel_rfl) P.bq4 auu
theorem loops : dh (Tryd.f60.body.getD .skip) = [iw Tryd.f60 5] := by kernel_rfl
noncomputable def bg : Abs.Spec := fun args K => match args with
 | [.v (.int .u64 a), .v (.int .i64 b)] => P.aa6 a b (fun c => K (.fr 5 (.ints .u8 c)))
 | _ => none
noncomputable def spec : Abs.Spec := bg
theorem ok0 : Proved Tryd.prog GLO.gB 60 bg := by
 refine fq (D := D) (fn := Tryd.f60) (c := Tryd.f60.body.getD .skip) [.fr 5 (.ints .u8 [])] (by kernel_rfl) (au (by kernel_rfl)) (by kernel_rfl) (by kernel_rfl) (by kernel_rfl) trivial trivial ?_ ?_
 · rw [loops]; exact ⟨bcd, trivial⟩
 · intro args K r h
   unfold bg at h
   split at h
   · rw [P.aut] at h; exact Eq.trans (by kernel_rfl) h
   · cases h
theorem ok : Proved Tryd.prog GLO.gB 60 spec := ok0
end aa6

namespace y8
abbrev X3 := P.bjt
def S3 : X3 → ASt := fun (a, b, c) => ⟨[(3, .own 0), (0, .sl (.rows .u8 a)), (4, .v (.int .i64 b))], [(0, some ⟨.row 5 (.ints .u8 c), false⟩)], 1, 18⟩
def V3 : ASt → Option X3
 | ⟨[(3, .own 0), (0, .sl (.rows .u8 a)), (4, .v (.int .i64 b))], [(0, some ⟨.row 5 (.ints .u8 c), false⟩)], 1, 18⟩ => some (a, b, c)
 | _ => none
theorem aj9 (st) (x) (h : V3 st = some x) : st = S3 x := by
 unfold V3 at h
 split at h
 · cases h; rfl
 · cases h
abbrev Y3 := P.bpm
def E3 (K : AExit → ASt → Option R) : Y3 → Option R := (fun x => K (.exit 0) (S3 x))
noncomputable def L3 : yu := fun st K => ag3 (V3 st) fun x => P.bm1 x (E3 K)
noncomputable def D : Ctx := ({ P := Tryd.prog, G := [], globs := GLO.gB, hints := [(3, ⟨[0, 4], [(3, 5, .ints .u8 [])], [2], [], none, [], [], []⟩)], loops := [(3, L3)], inl := [] } : Ctx)
theorem ae7 (K) (next) (x) : oq D (iw Tryd.f59 3) K next (S3 x) = P.bk9 x (fun x => next (S3 x)) (E3 K) := by kernel_rfl
theorem ajs : ng D (iw Tryd.f59 3) := jl S3 aj9 (by kernel_rfl) P.bqw ae7
theorem loops : dh (Tryd.f59.body.getD .skip) = [iw Tryd.f59 3] := by kernel_rfl
noncomputable def bg : Abs.Spec := fun args K => match args with
 | [.sl (.rows .u8 a)] => P.y8 a (fun b => K (.fr 5 (.ints .u8 b)))
 | _ => none
noncomputable def spec : Abs.Spec := fun args K => bg (nk [.sl (.rows .u8 [])] args) K
theorem ok0 : Proved Tryd.prog GLO.gB 59 bg := by
 refine fq (D := D) (fn := Tryd.f59) (c := Tryd.f59.body.getD .skip) [.fr 5 (.ints .u8 [])] (by kernel_rfl) (au (by kernel_rfl)) (by kernel_rfl) (by kernel_rfl) (by kernel_rfl) trivial trivial ?_ ?_
 · rw [loops]; exact ⟨ajs, trivial⟩
 · intro args K r h
   unfold bg at h
   split at h
   · rw [P.aos] at h; exact Eq.trans (by kernel_rfl) h
   · cases h
theorem ok : Proved Tryd.prog GLO.gB 59 spec := gu _ ok0
end y8

namespace tu
noncomputable def D : Ctx := ({ P := Tryd.prog, G := [], globs := GLO.gB, hints := [], loops := [], inl := [] } : Ctx)
theorem loops : dh (Tryd.f82.body.getD .skip) = [] := by kernel_rfl
noncomputable def bg : Abs.Spec := fun args K => match args with
 | [.v (.int .i64 a)] => P.tu a (fun b => K (.v (.int .i64 b)))
 | _ => none
noncomputable def spec : Abs.Spec := bg
theorem ok0 : Proved Tryd.prog GLO.gB 82 bg := by
 refine fq (D := D) (fn := Tryd.f82) (c := Tryd.f82.body.getD .skip) [.any] (by kernel_rfl) (au (by kernel_rfl)) (by kernel_rfl) (by kernel_rfl) (by kernel_rfl) trivial trivial ?_ ?_
 · rw [loops]; exact trivial
 · intro args K r h
   unfold bg at h
   split at h
   · rw [P.ang] at h; exact Eq.trans (by kernel_rfl) h
   · cases h
theorem ok : Proved Tryd.prog GLO.gB 82 spec := ok0
end tu

namespace uy
noncomputable def D : Ctx := ({ P := Tryd.prog, G := [], globs := GLO.gB, hints := [], loops := [], inl := [] } : Ctx)
theorem loops : dh (Tryd.f96.body.getD .skip) = [] := by kernel_rfl
noncomputable def bg : Abs.Spec := fun args K => match args with
 | [.v (.int .u64 a), .v (.int .i64 b), .v (.bool c)] => P.uy a b c (fun d => K (.v (.int .u64 d)))
 | _ => none
noncomputable def spec : Abs.Spec := bg
theorem ok0 : Proved Tryd.prog GLO.gB 96 bg := by
 refine fq (D := D) (fn := Tryd.f96) (c := Tryd.f96.body.getD .skip) [.any] (by kernel_rfl) (au (by kernel_rfl)) (by kernel_rfl) (by kernel_rfl) (by kernel_rfl) trivial trivial ?_ ?_
 · rw [loops]; exact trivial
 · intro args K r h
   unfold bg at h
   split at h
   · rw [P.afg] at h; exact Eq.trans (by kernel_rfl) h
   · cases h
theorem ok : Proved Tryd.prog GLO.gB 96 spec := ok0
end uy

namespace um
noncomputable def D : Ctx := ({ P := Tryd.prog, G := [(96, uy.spec)], globs := GLO.gB, hints := [], loops := [], inl := [] } : Ctx)
theorem loops : dh (Tryd.f91.body.getD .skip) = [] := by kernel_rfl
noncomputable def bg : Abs.Spec := fun args K => match args with
 | [.v (.int .u64 a), .v (.int .i64 b), .v (.int .i64 c), .v (.int .i64 d), .v (.bool e), .v (.bool f)] => P.um a b c d e f (fun g => K (.v (.int .u64 g)))
 | _ => none
noncomputable def spec : Abs.Spec := bg
theorem ok0 : Proved Tryd.prog GLO.gB 91 bg := by
 refine fq (D := D) (fn := Tryd.f91) (c := Tryd.f91.body.getD .skip) [.any] (by kernel_rfl) (au (by kernel_rfl)) (by kernel_rfl) (by kernel_rfl) (by kernel_rfl) ⟨uy.ok, trivial⟩ trivial ?_ ?_
 · rw [loops]; exact trivial
 · intro args K r h
   unfold bg at h
   split at h
   · rw [P.ac4] at h; exact Eq.trans (by kernel_rfl) h
   · cases h
theorem ok : Proved Tryd.prog GLO.gB 91 spec := ok0
end um

namespace sw
noncomputable def D : Ctx := ({ P := Tryd.prog, G := [], globs := GLO.gB, hints := [], loops := [], inl := [] } : Ctx)
theorem loops : dh (Tryd.f88.body.getD .skip) = [] := by kernel_rfl
noncomputable def bg : Abs.Spec := fun args K => match args with
 | [] => P.sw (fun a => K (.arr .u64 64 a))
 | _ => none
noncomputable def spec : Abs.Spec := bg
theorem ok0 : Proved Tryd.prog GLO.gB 88 bg := by
 refine fq (D := D) (fn := Tryd.f88) (c := Tryd.f88.body.getD .skip) [.any] (by kernel_rfl) (au (by kernel_rfl)) (by kernel_rfl) (by kernel_rfl) (by kernel_rfl) trivial trivial ?_ ?_
 · rw [loops]; exact trivial
 · intro args K r h
   unfold bg at h
   split at h
   · rw [P.aep] at h; exact Eq.trans (by kernel_rfl) h
   · cases h
theorem ok : Proved Tryd.prog GLO.gB 88 spec := ok0
end sw

namespace su
noncomputable def D : Ctx := ({ P := Tryd.prog, G := [], globs := GLO.gB, hints := [], loops := [], inl := [] } : Ctx)
theorem loops : dh (Tryd.f89.body.getD .skip) = [] := by kernel_rfl
noncomputable def bg : Abs.Spec := fun args K => match args with
 | [] => P.su (fun a => K (.arr .u64 80 a))
 | _ => none
noncomputable def spec : Abs.Spec := bg
theorem ok0 : Proved Tryd.prog GLO.gB 89 bg := by
 refine fq (D := D) (fn := Tryd.f89) (c := Tryd.f89.body.getD .skip) [.any] (by kernel_rfl) (au (by kernel_rfl)) (by kernel_rfl) (by kernel_rfl) (by kernel_rfl) trivial trivial ?_ ?_
 · rw [loops]; exact trivial
 · intro args K r h
   unfold bg at h
   split at h
   · rw [P.ael] at h; exact Eq.trans (by kernel_rfl) h
   · cases h
theorem ok : Proved Tryd.prog GLO.gB 89 spec := ok0
end su

namespace aa2
abbrev X6 := P.bkn
def S6 : X6 → ASt := fun (b, c, d, e, f, a, g) => ⟨[(10, .own 0), (0, .sl (.ints .u8 b)), (1, .v (.bool c)), (2, .v (.int .i64 d)), (3, .v (.int .u64 e)), (9, .v (.int .i64 f)), (11, .v (.int .i64 a))], [(0, some ⟨.row 25 (.ints .u64 g), false⟩)], 1, 82⟩
def V6 : ASt → Option X6
 | ⟨[(10, .own 0), (0, .sl (.ints .u8 b)), (1, .v (.bool c)), (2, .v (.int .i64 d)), (3, .v (.int .u64 e)), (9, .v (.int .i64 f)), (11, .v (.int .i64 a))], [(0, some ⟨.row 25 (.ints .u64 g), false⟩)], 1, 82⟩ => some (b, c, d, e, f, a, g)
 | _ => none
theorem bqb (st) (x) (h : V6 st = some x) : st = S6 x := by
 unfold V6 at h
 split at h
 · cases h; rfl
 · cases h
abbrev Y6 := P.bpn
def E6 (K : AExit → ASt → Option R) : Y6 → Option R := (fun x => K (.exit 0) (S6 x))
noncomputable def L6 : yu := fun st K => ag3 (V6 st) fun x => P.bom x (E6 K)
noncomputable def D : Ctx := ({ P := Tryd.prog, G := [(53, zq.spec), (91, um.spec)], globs := GLO.gB, hints := [(6, ⟨[0, 1, 2, 3, 9, 11], [(10, 25, .ints .u64 [])], [8], [], none, [], [], []⟩)], loops := [(6, L6)], inl := [] } : Ctx)
theorem bk4 (K) (next) (x) : oq D (iw Tryd.f90 6) K next (S6 x) = P.bip x (fun x => next (S6 x)) (E6 K) := by kernel_rfl
theorem bpr : ng D (iw Tryd.f90 6) := jl S6 bqb (by kernel_rfl) P.bqk bk4
theorem loops : dh (Tryd.f90.body.getD .skip) = [iw Tryd.f90 6] := by kernel_rfl
noncomputable def bg : Abs.Spec := fun args K => match args with
 | [.sl (.ints .u8 a), .v (.bool b), .v (.int .i64 c), .v (.int .u64 d)] => P.aa2 a b c d (fun e => K (.fr 25 (.ints .u64 e)))
 | _ => none
noncomputable def spec : Abs.Spec := fun args K => bg (nk [.sl (.ints .u8 []), .any, .any, .any] args) K
theorem ok0 : Proved Tryd.prog GLO.gB 90 bg := by
 refine fq (D := D) (fn := Tryd.f90) (c := Tryd.f90.body.getD .skip) [.fr 25 (.ints .u64 [])] (by kernel_rfl) (au (by kernel_rfl)) (by kernel_rfl) (by kernel_rfl) (by kernel_rfl) ⟨zq.ok, um.ok, trivial⟩ trivial ?_ ?_
 · rw [loops]; exact ⟨bpr, trivial⟩
 · intro args K r h
   unfold bg at h
   split at h
   · rw [P.aib] at h; exact Eq.trans (by kernel_rfl) h
   · cases h
theorem ok : Proved Tryd.prog GLO.gB 90 spec := gu _ ok0
end aa2

namespace abl
abbrev X11 := P.bkk
def S11 : X11 → ASt := fun (g, h, i, f, a, b, c, d, j, e) => ⟨[(2, .v (.bool g)), (3, .ptr 0 0), (6, .ptr 1 0), (7, .v (.int .i64 h)), (8, .v (.int .u64 i)), (9, .ptr 2 0), (10, .ptr 3 0), (11, .own 4), (12, .ptr 5 0), (13, .v (.int .i64 f))], [(0, some ⟨.box 111 [.arr .u64 8 a], false⟩), (1, some ⟨.box 111 [.arr .u64 8 b], false⟩), (2, some ⟨.box 144 [.arr .u64 64 c], false⟩), (3, some ⟨.box 146 [.arr .u64 80 d], false⟩), (4, some ⟨.row 25 (.ints .u64 j), false⟩), (5, some ⟨.box 111 [.arr .u64 8 e], false⟩)], 6, 137⟩
def V11 : ASt → Option X11
 | ⟨[(2, .v (.bool g)), (3, .ptr 0 0), (6, .ptr 1 0), (7, .v (.int .i64 h)), (8, .v (.int .u64 i)), (9, .ptr 2 0), (10, .ptr 3 0), (11, .own 4), (12, .ptr 5 0), (13, .v (.int .i64 f))], [(0, some ⟨.box 111 [.arr .u64 8 a], false⟩), (1, some ⟨.box 111 [.arr .u64 8 b], false⟩), (2, some ⟨.box 144 [.arr .u64 64 c], false⟩), (3, some ⟨.box 146 [.arr .u64 80 d], false⟩), (4, some ⟨.row 25 (.ints .u64 j), false⟩), (5, some ⟨.box 111 [.arr .u64 8 e], false⟩)], 6, 137⟩ => some (g, h, i, f, a, b, c, d, j, e)
 | _ => none
theorem bdo (st) (x) (h : V11 st = some x) : st = S11 x := by
 unfold V11 at h
 split at h
 · cases h; rfl
 · cases h
abbrev Y11 := P.bou
abbrev X25 := P.blf
def S25 : X25 → ASt := fun (e, d, a, b, c) => ⟨[(3, .ptr 0 0), (6, .ptr 1 0), (8, .v (.int .u64 e)), (12, .ptr 5 0), (19, .v (.int .i64 d))], [(0, some ⟨.box 111 [.arr .u64 8 a], false⟩), (1, some ⟨.box 111 [.arr .u64 8 b], false⟩), (5, some ⟨.box 111 [.arr .u64 8 c], false⟩)], 80, 137⟩
def V25 : ASt → Option X25
 | ⟨[(3, .ptr 0 0), (6, .ptr 1 0), (8, .v (.int .u64 e)), (12, .ptr 5 0), (19, .v (.int .i64 d))], [(0, some ⟨.box 111 [.arr .u64 8 a], false⟩), (1, some ⟨.box 111 [.arr .u64 8 b], false⟩), (5, some ⟨.box 111 [.arr .u64 8 c], false⟩)], 80, 137⟩ => some (e, d, a, b, c)
 | _ => none
theorem bku (st) (x) (h : V25 st = some x) : st = S25 x := by
 unfold V25 at h
 split at h
 · cases h; rfl
 · cases h
abbrev Y25 := P.bmr
def E11 (K : AExit → ASt → Option R) : Y11 → Option R := (fun x => K (.exit 0) (S11 x))
noncomputable def L11 : yu := fun st K => ag3 (V11 st) fun x => P.bnx x (E11 K)
def E25 (K : AExit → ASt → Option R) : Y25 → Option R := (fun x => K (.exit 2) (S25 x))
noncomputable def L25 : yu := fun st K => ag3 (V25 st) fun x => P.bo1 x (E25 K)
noncomputable def D : Ctx := ({ P := Tryd.prog, G := [(88, sw.spec), (89, su.spec), (90, aa2.spec), (91, um.spec)], globs := GLO.gB, hints := [(25, ⟨[3, 6, 8, 12, 19], [], [6], [], some (80, [0, 1, 5]), [], [], []⟩), (11, ⟨[2, 3, 6, 7, 8, 9, 10, 11, 12, 13], [], [6], [], none, [], [], []⟩)], loops := [(11, L11), (25, L25)], inl := [] } : Ctx)
theorem axz (K) (next) (x) : oq D (iw Tryd.f83 11) K next (S11 x) = P.bim x (fun x => next (S11 x)) (E11 K) := by kernel_rfl
theorem bbx : ng D (iw Tryd.f83 11) := jl S11 bdo (by kernel_rfl) P.bqp axz
theorem bgk (K) (next) (x) : oq D (iw Tryd.f83 25) K next (S25 x) = P.biq x (fun x => next (S25 x)) (E25 K) := by kernel_rfl
theorem bi4 : ng D (iw Tryd.f83 25) := jl S25 bku (by kernel_rfl) P.bre bgk
theorem loops : dh (Tryd.f83.body.getD .skip) = [iw Tryd.f83 11, iw Tryd.f83 25] := by kernel_rfl
noncomputable def bg : Abs.Spec := fun args K => match args with
 | [.arr .u64 8 a, .sl (.ints .u8 b), .v (.bool c)] => P.abl a b c (fun d => K (.arr .u64 8 d))
 | _ => none
noncomputable def spec : Abs.Spec := fun args K => bg (nk [.any, .sl (.ints .u8 []), .any] args) K
theorem ok0 : Proved Tryd.prog GLO.gB 83 bg := by
 refine fq (D := D) (fn := Tryd.f83) (c := Tryd.f83.body.getD .skip) [.any] (by kernel_rfl) (au (by kernel_rfl)) (by kernel_rfl) (by kernel_rfl) (by kernel_rfl) ⟨sw.ok, su.ok, aa2.ok, um.ok, trivial⟩ trivial ?_ ?_
 · rw [loops]; exact ⟨bbx, bi4, trivial⟩
 · intro args K r h
   unfold bg at h
   split at h
   · rw [P.ah3] at h; exact Eq.trans (by kernel_rfl) h
   · cases h
theorem ok : Proved Tryd.prog GLO.gB 83 spec := gu _ ok0
end abl

namespace aax
abbrev X4 := P.bjc
def S4 : X4 → ASt := fun (h, i, a, b, c, d, e, f, g) => ⟨[(2, .ptr 0 0), (4, .ptr 1 0), (5, .v (.int .i64 h)), (6, .sl (.ints .u8 i))], [(0, some ⟨.box 113 [.v (.int .i64 a), .arr .u64 8 b, .sl (.ints .u8 c), .v (.int .u64 d)], false⟩), (1, some ⟨.box 113 [.v (.int .i64 e), .arr .u64 8 f, .v (.slice none 0 0), .v (.int .u64 g)], false⟩)], 40, 41⟩
def V4 : ASt → Option X4
 | ⟨[(2, .ptr 0 0), (4, .ptr 1 0), (5, .v (.int .i64 h)), (6, .sl (.ints .u8 i))], [(0, some ⟨.box 113 [.v (.int .i64 a), .arr .u64 8 b, .sl (.ints .u8 c), .v (.int .u64 d)], false⟩), (1, some ⟨.box 113 [.v (.int .i64 e), .arr .u64 8 f, .v (.slice none 0 0), .v (.int .u64 g)], false⟩)], 40, 41⟩ => some (h, i, a, b, c, d, e, f, g)
 | _ => none
theorem amr (st) (x) (h : V4 st = some x) : st = S4 x := by
 unfold V4 at h
 split at h
 · cases h; rfl
 · cases h
abbrev Y4 := P.bnt
def E4 (K : AExit → ASt → Option R) : Y4 → Option R := (fun x => K (.exit 0) (S4 x))
noncomputable def L4 : yu := fun st K => ag3 (V4 st) fun x => P.bpv x (E4 K)
noncomputable def D : Ctx := ({ P := Tryd.prog, G := [(59, y8.spec), (82, tu.spec), (83, abl.spec)], globs := GLO.gB, hints := [(4, ⟨[2, 4, 5, 6], [], [4], [(6, .sl (.ints .u8 []))], some (40, [0, 1]), [], [], []⟩)], loops := [(4, L4)], inl := [] } : Ctx)
theorem af6 (K) (next) (x) : oq D (iw Tryd.f74 4) K next (S4 x) = P.bij x (fun x => next (S4 x)) (E4 K) := by kernel_rfl
theorem ams : ng D (iw Tryd.f74 4) := jl S4 amr (by kernel_rfl) P.brd af6
theorem loops : dh (Tryd.f74.body.getD .skip) = [iw Tryd.f74 4] := by kernel_rfl
noncomputable def bg : Abs.Spec := fun args K => match args with
 | [.agg [.v (.int .i64 c), .arr .u64 8 a, .sl (.ints .u8 d), .v (.int .u64 e)], .sl (.ints .u8 i)] => P.aax c a d e i (fun f b g h => K (.agg [.v (.int .i64 f), .arr .u64 8 b, .sl (.ints .u8 g), .v (.int .u64 h)]))
 | _ => none
noncomputable def spec : Abs.Spec := fun args K => bg (nk [.agg [.any, .any, .sl (.ints .u8 []), .any], .sl (.ints .u8 [])] args) K
theorem ok0 : Proved Tryd.prog GLO.gB 74 bg := by
 refine fq (D := D) (fn := Tryd.f74) (c := Tryd.f74.body.getD .skip) [.agg [.any, .any, .sl (.ints .u8 []), .any]] (by kernel_rfl) (au (by kernel_rfl)) (by kernel_rfl) (by kernel_rfl) (by kernel_rfl) ⟨y8.ok, tu.ok, abl.ok, trivial⟩ trivial ?_ ?_
 · rw [loops]; exact ⟨ams, trivial⟩
 · intro args K r h
   unfold bg at h
   split at h
   · rw [P.asa] at h; exact Eq.trans (by kernel_rfl) h
   · cases h
theorem ok : Proved Tryd.prog GLO.gB 74 spec := gu _ ok0
end aax

end
