/-
  LeasePlays, part 17: an interpreter of my own over abstract values, the pure functions, the walks and the plain law.
-/

import Derived.Test.YtkfjafaabbmapaaDoorLeasePlaysK
import Derived.Test.YtkfjafaabbmapaaDoorLeasePlaysH
import Derived.Test.YtkfjafaabbmapaaDoorProg
import Derived.Test.YtkfjafaabbmapaaDoorLeasePlaysJ
import Derived.Test.YtkfjafaabbmapaaDoorLeasePlaysP
import Derived.KernelRfl

section
open Go Go.Abs Go.Proofs
set_option maxRecDepth 100000
set_option maxHeartbeats 0
set_option linter.unusedVariables false

namespace ae0
abbrev X4 := P.biv
def S4 : X4 → ASt := fun (f, g, e, a, b, c, d) => ⟨[(5, .own 40), (1, .ptr 0 0), (3, .v (.int .i64 f)), (4, .v (.int .u64 g))], [(40, some ⟨.row 5 (.ints .u8 e), false⟩), (0, some ⟨.box 113 [.v (.int .i64 a), .arr .u64 8 b, .sl (.ints .u8 c), .v (.int .u64 d)], false⟩)], 41, 77⟩
def V4 : ASt → Option X4
 | ⟨[(5, .own 40), (1, .ptr 0 0), (3, .v (.int .i64 f)), (4, .v (.int .u64 g))], [(40, some ⟨.row 5 (.ints .u8 e), false⟩), (0, some ⟨.box 113 [.v (.int .i64 a), .arr .u64 8 b, .sl (.ints .u8 c), .v (.int .u64 d)], false⟩)], 41, 77⟩ => some (f, g, e, a, b, c, d)
 | _ => none
theorem amr (st) (x) (h : V4 st = some x) : st = S4 x := by
 unfold V4 at h
 split at h
 · cases h; rfl
 · cases h
abbrev Y4 := P.bmy
abbrev X8 := P.bkl
def S8 : X8 → ASt := fun (f, g, e, a, b, c, d) => ⟨[(5, .own 80), (1, .ptr 0 0), (3, .v (.int .i64 f)), (4, .v (.int .u64 g))], [(80, some ⟨.row 5 (.ints .u8 e), false⟩), (0, some ⟨.box 113 [.v (.int .i64 a), .arr .u64 8 b, .sl (.ints .u8 c), .v (.int .u64 d)], false⟩)], 81, 77⟩
def V8 : ASt → Option X8
 | ⟨[(5, .own 80), (1, .ptr 0 0), (3, .v (.int .i64 f)), (4, .v (.int .u64 g))], [(80, some ⟨.row 5 (.ints .u8 e), false⟩), (0, some ⟨.box 113 [.v (.int .i64 a), .arr .u64 8 b, .sl (.ints .u8 c), .v (.int .u64 d)], false⟩)], 81, 77⟩ => some (f, g, e, a, b, c, d)
 | _ => none
theorem bcn (st) (x) (h : V8 st = some x) : st = S8 x := by
 unfold V8 at h
 split at h
 · cases h; rfl
 · cases h
abbrev Y8 := P.bnb
abbrev X14 := P.bjh
def S14 : X14 → ASt := fun (f, g, a, b, c, d, e) => ⟨[(6, .own 120), (1, .ptr 0 0), (3, .v (.int .i64 f)), (7, .v (.int .i64 g))], [(120, some ⟨.row 5 (.ints .u8 a), false⟩), (0, some ⟨.box 113 [.v (.int .i64 b), .arr .u64 8 c, .sl (.ints .u8 d), .v (.int .u64 e)], false⟩)], 121, 77⟩
def V14 : ASt → Option X14
 | ⟨[(6, .own 120), (1, .ptr 0 0), (3, .v (.int .i64 f)), (7, .v (.int .i64 g))], [(120, some ⟨.row 5 (.ints .u8 a), false⟩), (0, some ⟨.box 113 [.v (.int .i64 b), .arr .u64 8 c, .sl (.ints .u8 d), .v (.int .u64 e)], false⟩)], 121, 77⟩ => some (f, g, a, b, c, d, e)
 | _ => none
theorem bi9 (st) (x) (h : V14 st = some x) : st = S14 x := by
 unfold V14 at h
 split at h
 · cases h; rfl
 · cases h
abbrev Y14 := P.bpz
def E4 (K : AExit → ASt → Option R) : Y4 → Option R := (fun x => K (.exit 0) (S4 x))
noncomputable def L4 : yu := fun st K => ag3 (V4 st) fun x => P.bon x (E4 K)
def E8 (K : AExit → ASt → Option R) : Y8 → Option R := (fun x => K (.exit 2) (S8 x))
noncomputable def L8 : yu := fun st K => ag3 (V8 st) fun x => P.bnc x (E8 K)
def E14 (K : AExit → ASt → Option R) : Y14 → Option R := (fun x => K (.exit 4) (S14 x))
noncomputable def L14 : yu := fun st K => ag3 (V14 st) fun x => P.bpo x (E14 K)
noncomputable def D : Ctx := ({ P := Tryd.prog, G := [(60, aa6.spec), (74, aax.spec), (82, tu.spec)], globs := GLO.gB, hints := [(14, ⟨[1, 3, 7], [(6, 5, .ints .u8 [])], [2], [], some (120, [0]), [0], [], []⟩), (8, ⟨[1, 3, 4], [(5, 5, .ints .u8 [])], [2], [], some (80, [0]), [0], [], []⟩), (4, ⟨[1, 3, 4], [(5, 5, .ints .u8 [])], [2], [], some (40, [0]), [0], [], []⟩)], loops := [(4, L4), (8, L8), (14, L14)], inl := [] } : Ctx)
theorem af6 (K) (next) (x) : oq D (iw Tryd.f73 4) K next (S4 x) = P.bld x (fun x => next (S4 x)) (E4 K) := by kernel_rfl
theorem ams : ng D (iw Tryd.f73 4) := jl S4 amr (by kernel_rfl) P.bql af6
theorem avu (K) (next) (x) : oq D (iw Tryd.f73 8) K next (S8 x) = P.bk3 x (fun x => next (S8 x)) (E8 K) := by kernel_rfl
theorem bdc : ng D (iw Tryd.f73 8) := jl S8 bcn (by kernel_rfl) P.bqh avu
theorem bgg (K) (next) (x) : oq D (iw Tryd.f73 14) K next (S14 x) = P.bkh x (fun x => next (S14 x)) (E14 K) := by kernel_rfl
theorem bju : ng D (iw Tryd.f73 14) := jl S14 bi9 (by kernel_rfl) P.bq7 bgg
theorem loops : dh (Tryd.f73.body.getD .skip) = [iw Tryd.f73 4, iw Tryd.f73 8, iw Tryd.f73 14] := by kernel_rfl
noncomputable def bg : Abs.Spec := fun args K => match args with
 | [.agg [.v (.int .i64 b), .arr .u64 8 a, .sl (.ints .u8 c), .v (.int .u64 d)]] => P.ae0 b a c d (fun e => K (.fr 5 (.ints .u8 e)))
 | _ => none
noncomputable def spec : Abs.Spec := fun args K => bg (nk [.agg [.any, .any, .sl (.ints .u8 []), .any]] args) K
theorem ok0 : Proved Tryd.prog GLO.gB 73 bg := by
 refine al9 (D := D) (fn := Tryd.f73) (c := Tryd.f73.body.getD .skip) 5 (.ints .u8 []) (by kernel_rfl) (au (by kernel_rfl)) (by kernel_rfl) (by kernel_rfl) (by kernel_rfl) ⟨aa6.ok, aax.ok, tu.ok, trivial⟩ trivial ?_ ?_
 · rw [loops]; exact ⟨ams, bdc, bju, trivial⟩
 · intro args K r h
   unfold bg at h
   split at h
   · rw [P.arx] at h; exact Eq.trans (by kernel_rfl) h
   · cases h
theorem ok : Proved Tryd.prog GLO.gB 73 spec := gu _ ok0
end ae0

namespace ae3
noncomputable def D : Ctx := ({ P := Tryd.prog, G := [], globs := GLO.gB, hints := [], loops := [], inl := [] } : Ctx)
theorem loops : dh (Tryd.f72.body.getD .skip) = [] := by kernel_rfl
noncomputable def bg : Abs.Spec := fun args K => match args with
 | [.v (.int .i64 e)] => P.ae3 e (fun b a c d f => K (.tuple [.agg [.v (.int .i64 b), .arr .u64 8 a, .fr 5 (.ints .u8 c), .v (.int .u64 d)], .v (.int .i64 f)]))
 | _ => none
noncomputable def spec : Abs.Spec := bg
theorem ok0 : Proved Tryd.prog GLO.gB 72 bg := by
 refine fq (D := D) (fn := Tryd.f72) (c := Tryd.f72.body.getD .skip) [.agg [.any, .any, .fr 5 (.ints .u8 []), .any], .any] (by kernel_rfl) (au (by kernel_rfl)) (by kernel_rfl) (by kernel_rfl) (by kernel_rfl) trivial trivial ?_ ?_
 · rw [loops]; exact trivial
 · intro args K r h
   unfold bg at h
   split at h
   · rw [P.arz] at h; exact Eq.trans (by kernel_rfl) h
   · cases h
theorem ok : Proved Tryd.prog GLO.gB 72 spec := ok0
end ae3

namespace aeg
noncomputable def D : Ctx := ({ P := Tryd.prog, G := [(72, ae3.spec), (73, ae0.spec), (74, aax.spec)], globs := GLO.gB, hints := [], loops := [], inl := [] } : Ctx)
theorem loops : dh (Tryd.f61.body.getD .skip) = [] := by kernel_rfl
noncomputable def bg : Abs.Spec := fun args K => match args with
 | [.v (.int .i64 a), .sl (.ints .u8 b)] => P.aeg a b (fun c d => K (.tuple [.fr 5 (.ints .u8 c), .v (.int .i64 d)]))
 | _ => none
noncomputable def spec : Abs.Spec := fun args K => bg (nk [.any, .sl (.ints .u8 [])] args) K
theorem ok0 : Proved Tryd.prog GLO.gB 61 bg := by
 refine fq (D := D) (fn := Tryd.f61) (c := Tryd.f61.body.getD .skip) [.fr 5 (.ints .u8 []), .any] (by kernel_rfl) (au (by kernel_rfl)) (by kernel_rfl) (by kernel_rfl) (by kernel_rfl) ⟨ae3.ok, ae0.ok, aax.ok, trivial⟩ trivial ?_ ?_
 · rw [loops]; exact trivial
 · intro args K r h
   unfold bg at h
   split at h
   · rw [P.ash] at h; exact Eq.trans (by kernel_rfl) h
   · cases h
theorem ok : Proved Tryd.prog GLO.gB 61 spec := gu _ ok0
end aeg

namespace o9
noncomputable def D : Ctx := ({ P := Tryd.prog, G := [(59, y8.spec), (60, aa6.spec), (61, aeg.spec)], globs := GLO.gB, hints := [], loops := [], inl := [] } : Ctx)
theorem loops : dh (Tryd.f46.body.getD .skip) = [] := by kernel_rfl
noncomputable def bg : Abs.Spec := fun args K => match args with
 | [.agg [.v (.int .u64 a), .v (.int .u64 b)]] => P.o9 a b (fun c => K (.fr 5 (.ints .u8 c)))
 | _ => none
noncomputable def spec : Abs.Spec := bg
theorem ok0 : Proved Tryd.prog GLO.gB 46 bg := by
 refine fq (D := D) (fn := Tryd.f46) (c := Tryd.f46.body.getD .skip) [.fr 5 (.ints .u8 [])] (by kernel_rfl) (au (by kernel_rfl)) (by kernel_rfl) (by kernel_rfl) (by kernel_rfl) ⟨y8.ok, aa6.ok, aeg.ok, trivial⟩ trivial ?_ ?_
 · rw [loops]; exact trivial
 · intro args K r h
   unfold bg at h
   split at h
   · rw [P.am1] at h; exact Eq.trans (by kernel_rfl) h
   · cases h
theorem ok : Proved Tryd.prog GLO.gB 46 spec := ok0
end o9

namespace aac
noncomputable def D : Ctx := ({ P := Tryd.prog, G := [(46, o9.spec), (47, vw.spec), (53, zq.spec)], globs := GLO.gB, hints := [], loops := [], inl := [] } : Ctx)
theorem loops : dh (Tryd.f43.body.getD .skip) = [] := by kernel_rfl
noncomputable def bg : Abs.Spec := fun args K => match args with
 | [.sl (.ints .u8 c)] => P.aac c (fun a b d => K (.tuple [.agg [.v (.int .u64 a), .v (.int .u64 b)], .v (.bool d)]))
 | _ => none
noncomputable def spec : Abs.Spec := fun args K => bg (nk [.sl (.ints .u8 [])] args) K
theorem ok0 : Proved Tryd.prog GLO.gB 43 bg := by
 refine fq (D := D) (fn := Tryd.f43) (c := Tryd.f43.body.getD .skip) [.any, .any] (by kernel_rfl) (au (by kernel_rfl)) (by kernel_rfl) (by kernel_rfl) (by kernel_rfl) ⟨o9.ok, vw.ok, zq.ok, trivial⟩ trivial ?_ ?_
 · rw [loops]; exact trivial
 · intro args K r h
   unfold bg at h
   split at h
   · rw [P.ap8] at h; exact Eq.trans (by kernel_rfl) h
   · cases h
theorem ok : Proved Tryd.prog GLO.gB 43 spec := gu _ ok0
end aac

namespace kr
noncomputable def D : Ctx := ({ P := Tryd.prog, G := [(43, aac.spec)], globs := GLO.gB, hints := [], loops := [], inl := [] } : Ctx)
theorem loops : dh (Tryd.f27.body.getD .skip) = [] := by kernel_rfl
noncomputable def bg : Abs.Spec := fun args K => match args with
 | [.agg [.sl (.ints .u8 c), .sl (.ints .u8 d)]] => P.kr c d (fun a b e f => K (.tuple [.agg [.v (.int .u64 a), .v (.int .u64 b)], .v (.int .i64 e), .v (.int .i64 f)]))
 | _ => none
noncomputable def spec : Abs.Spec := fun args K => bg (nk [.agg [.sl (.ints .u8 []), .sl (.ints .u8 [])]] args) K
theorem ok0 : Proved Tryd.prog GLO.gB 27 bg := by
 refine fq (D := D) (fn := Tryd.f27) (c := Tryd.f27.body.getD .skip) [.any, .any, .any] (by kernel_rfl) (au (by kernel_rfl)) (by kernel_rfl) (by kernel_rfl) (by kernel_rfl) ⟨aac.ok, trivial⟩ trivial ?_ ?_
 · rw [loops]; exact trivial
 · intro args K r h
   unfold bg at h
   split at h
   · rw [P.aoa] at h; exact Eq.trans (by kernel_rfl) h
   · cases h
theorem ok : Proved Tryd.prog GLO.gB 27 spec := gu _ ok0
end kr

namespace agq
noncomputable def D : Ctx := ({ P := Tryd.prog, G := [(27, kr.spec)], globs := GLO.gB, hints := [], loops := [], inl := [] } : Ctx)
theorem loops : dh (Tryd.f16.body.getD .skip) = [] := by kernel_rfl
noncomputable def bg : Abs.Spec := fun args K => match args with
 | [.agg [.sl (.ints .u8 a), .sl (.ints .u8 b), .v (.int .u64 c), .v (.int .u64 d), .v (.int .u64 f), .v (.int .u64 e), .v (.bool g)]] => P.agq a b c d f e g (fun h => K (.v (.bool h)))
 | _ => none
noncomputable def spec : Abs.Spec := fun args K => bg (nk [.agg [.sl (.ints .u8 []), .sl (.ints .u8 []), .any, .any, .any, .any, .any]] args) K
theorem ok0 : Proved Tryd.prog GLO.gB 16 bg := by
 refine fq (D := D) (fn := Tryd.f16) (c := Tryd.f16.body.getD .skip) [.any] (by kernel_rfl) (au (by kernel_rfl)) (by kernel_rfl) (by kernel_rfl) (by kernel_rfl) ⟨kr.ok, trivial⟩ trivial ?_ ?_
 · rw [loops]; exact trivial
 · intro args K r h
   unfold bg at h
   split at h
   · rw [P.yc] at h; exact Eq.trans (by kernel_rfl) h
   · cases h
theorem ok : Proved Tryd.prog GLO.gB 16 spec := gu _ ok0
end agq

namespace xg
noncomputable def D : Ctx := ({ P := Tryd.prog, G := [], globs := GLO.gB, hints := [], loops := [], inl := [] } : Ctx)
theorem loops : dh (Tryd.f51.body.getD .skip) = [] := by kernel_rfl
noncomputable def bg : Abs.Spec := fun args K => match args with
 | [.agg [.sl (.ints .u8 a), .sl (.ints .u8 b)], .v (.int .i64 e), .sl (.ints .u8 f)] => P.xg a b e f (fun c d => K (.agg [.sl (.ints .u8 c), .sl (.ints .u8 d)]))
 | _ => none
noncomputable def spec : Abs.Spec := fun args K => bg (nk [.agg [.sl (.ints .u8 []), .sl (.ints .u8 [])], .any, .sl (.ints .u8 [])] args) K
theorem ok0 : Proved Tryd.prog GLO.gB 51 bg := by
 refine fq (D := D) (fn := Tryd.f51) (c := Tryd.f51.body.getD .skip) [.agg [.sl (.ints .u8 []), .sl (.ints .u8 [])]] (by kernel_rfl) (au (by kernel_rfl)) (by kernel_rfl) (by kernel_rfl) (by kernel_rfl) trivial trivial ?_ ?_
 · rw [loops]; exact trivial
 · intro args K r h
   unfold bg at h
   split at h
   · rw [P.ap4] at h; exact Eq.trans (by kernel_rfl) h
   · cases h
theorem ok : Proved Tryd.prog GLO.gB 51 spec := gu _ ok0
end xg

namespace ab3
noncomputable def D : Ctx := ({ P := Tryd.prog, G := [(27, kr.spec), (46, o9.spec), (51, xg.spec)], globs := GLO.gB, hints := [], loops := [], inl := [] } : Ctx)
theorem loops : dh (Tryd.f41.body.getD .skip) = [] := by kernel_rfl
noncomputable def bg : Abs.Spec := fun args K => match args with
 | [.agg [.sl (.ints .u8 c), .sl (.ints .u8 d)], .agg [.v (.int .u64 a), .v (.int .u64 b)], .v (.int .i64 g), .sl (.ints .u8 h)] => P.ab3 c d a b g h (fun e f i => K (.tuple [.agg [.sl (.ints .u8 e), .sl (.ints .u8 f)], .v (.int .i64 i)]))
 | _ => none
noncomputable def spec : Abs.Spec := fun args K => bg (nk [.agg [.sl (.ints .u8 []), .sl (.ints .u8 [])], .any, .any, .sl (.ints .u8 [])] args) K
theorem ok0 : Proved Tryd.prog GLO.gB 41 bg := by
 refine fq (D := D) (fn := Tryd.f41) (c := Tryd.f41.body.getD .skip) [.agg [.sl (.ints .u8 []), .sl (.ints .u8 [])], .any] (by kernel_rfl) (au (by kernel_rfl)) (by kernel_rfl) (by kernel_rfl) (by kernel_rfl) ⟨kr.ok, o9.ok, xg.ok, trivial⟩ trivial ?_ ?_
 · rw [loops]; exact trivial
 · intro args K r h
   unfold bg at h
   split at h
   · rw [P.ao2] at h; exact Eq.trans (by kernel_rfl) h
   · cases h
theorem ok : Proved Tryd.prog GLO.gB 41 spec := gu _ ok0
end ab3

namespace aby
noncomputable def D : Ctx := ({ P := Tryd.prog, G := [(27, kr.spec)], globs := GLO.gB, hints := [], loops := [], inl := [] } : Ctx)
theorem loops : dh (Tryd.f11.body.getD .skip) = [] := by kernel_rfl
noncomputable def bg : Abs.Spec := fun args K => match args with
 | [.agg [.sl (.ints .u8 h), .sl (.ints .u8 i)], .v (.int .u64 j), .v (.int .u64 k)] => P.aby h i j k (fun a b c d f e g l => K (.tuple [.agg [.sl (.ints .u8 a), .sl (.ints .u8 b), .v (.int .u64 c), .v (.int .u64 d), .v (.int .u64 f), .v (.int .u64 e), .v (.bool g)], .v (.int .i64 l)]))
 | _ => none
noncomputable def spec : Abs.Spec := fun args K => bg (nk [.agg [.sl (.ints .u8 []), .sl (.ints .u8 [])], .any, .any] args) K
theorem ok0 : Proved Tryd.prog GLO.gB 11 bg := by
 refine fq (D := D) (fn := Tryd.f11) (c := Tryd.f11.body.getD .skip) [.agg [.sl (.ints .u8 []), .sl (.ints .u8 []), .any, .any, .any, .any, .any], .any] (by kernel_rfl) (au (by kernel_rfl)) (by kernel_rfl) (by kernel_rfl) (by kernel_rfl) ⟨kr.ok, trivial⟩ trivial ?_ ?_
 · rw [loops]; exact trivial
 · intro args K r h
   unfold bg at h
   split at h
   · rw [P.an9] at h; exact Eq.trans (by kernel_rfl) h
   · cases h
theorem ok : Proved Tryd.prog GLO.gB 11 spec := gu _ ok0
end aby

namespace aam
noncomputable def D : Ctx := ({ P := Tryd.prog, G := [(27, kr.spec), (46, o9.spec), (51, xg.spec)], globs := GLO.gB, hints := [], loops := [], inl := [] } : Ctx)
theorem loops : dh (Tryd.f36.body.getD .skip) = [] := by kernel_rfl
noncomputable def bg : Abs.Spec := fun args K => match args with
 | [.agg [.sl (.ints .u8 c), .sl (.ints .u8 d)], .agg [.v (.int .u64 a), .v (.int .u64 b)]] => P.aam c d a b (fun e f g h => K (.tuple [.agg [.sl (.ints .u8 e), .sl (.ints .u8 f)], .v (.int .i64 g), .v (.int .i64 h)]))
 | _ => none
noncomputable def spec : Abs.Spec := fun args K => bg (nk [.agg [.sl (.ints .u8 []), .sl (.ints .u8 [])], .any] args) K
theorem ok0 : Proved Tryd.prog GLO.gB 36 bg := by
 refine fq (D := D) (fn := Tryd.f36) (c := Tryd.f36.body.getD .skip) [.agg [.sl (.ints .u8 []), .sl (.ints .u8 [])], .any, .any] (by kernel_rfl) (au (by kernel_rfl)) (by kernel_rfl) (by kernel_rfl) (by kernel_rfl) ⟨kr.ok, o9.ok, xg.ok, trivial⟩ trivial ?_ ?_
 · rw [loops]; exact trivial
 · intro args K r h
   unfold bg at h
   split at h
   · rw [P.anj] at h; exact Eq.trans (by kernel_rfl) h
   · cases h
theorem ok : Proved Tryd.prog GLO.gB 36 spec := gu _ ok0
end aam

namespace y9
noncomputable def D : Ctx := ({ P := Tryd.prog, G := [(27, kr.spec)], globs := GLO.gB, hints := [], loops := [], inl := [] } : Ctx)
theorem loops : dh (Tryd.f35.body.getD .skip) = [] := by kernel_rfl
noncomputable def bg : Abs.Spec := fun args K => match args with
 | [.agg [.sl (.ints .u8 a), .sl (.ints .u8 b), .v (.int .u64 c), .v (.int .u64 d), .v (.int .u64 h), .v (.int .u64 e), .v (.bool i)]] => P.y9 a b c d h e i (fun f g j => K (.tuple [.agg [.v (.int .u64 f), .v (.int .u64 g)], .v (.int .i64 j)]))
 | _ => none
noncomputable def spec : Abs.Spec := fun args K => bg (nk [.agg [.sl (.ints .u8 []), .sl (.ints .u8 []), .any, .any, .any, .any, .any]] args) K
theorem ok0 : Proved Tryd.prog GLO.gB 35 bg := by
 refine fq (D := D) (fn := Tryd.f35) (c := Tryd.f35.body.getD .skip) [.any, .any] (by kernel_rfl) (au (by kernel_rfl)) (by kernel_rfl) (by kernel_rfl) (by kernel_rfl) ⟨kr.ok, trivial⟩ trivial ?_ ?_
 · rw [loops]; exact trivial
 · intro args K r h
   unfold bg at h
   split at h
   · rw [P.aod] at h; exact Eq.trans (by kernel_rfl) h
   · cases h
theorem ok : Proved Tryd.prog GLO.gB 35 spec := gu _ ok0
end y9

namespace oo
noncomputable def D : Ctx := ({ P := Tryd.prog, G := [(35, y9.spec), (36, aam.spec)], globs := GLO.gB, hints := [], loops := [], inl := [] } : Ctx)
theorem loops : dh (Tryd.f18.body.getD .skip) = [] := by kernel_rfl
noncomputable def bg : Abs.Spec := fun args K => match args with
 | [.agg [.sl (.ints .u8 a), .sl (.ints .u8 b), .v (.int .u64 e), .v (.int .u64 g), .v (.int .u64 k), .v (.int .u64 h), .v (.bool m)]] => P.oo a b e g k h m (fun c d f i l j n o => K (.tuple [.agg [.sl (.ints .u8 c), .sl (.ints .u8 d), .v (.int .u64 f), .v (.int .u64 i), .v (.int .u64 l), .v (.int .u64 j), .v (.bool n)], .v (.int .i64 o)]))
 | _ => none
noncomputable def spec : Abs.Spec := fun args K => bg (nk [.agg [.sl (.ints .u8 []), .sl (.ints .u8 []), .any, .any, .any, .any, .any]] args) K
theorem ok0 : Proved Tryd.prog GLO.gB 18 bg := by
 refine fq (D := D) (fn := Tryd.f18) (c := Tryd.f18.body.getD .skip) [.agg [.sl (.ints .u8 []), .sl (.ints .u8 []), .any, .any, .any, .any, .any], .any] (by kernel_rfl) (au (by kernel_rfl)) (by kernel_rfl) (by kernel_rfl) (by kernel_rfl) ⟨y9.ok, aam.ok, trivial⟩ trivial ?_ ?_
 · rw [loops]; exact trivial
 · intro args K r h
   unfold bg at h
   split at h
   · rw [P.aja] at h; exact Eq.trans (by kernel_rfl) h
   · cases h
theorem ok : Proved Tryd.prog GLO.gB 18 spec := gu _ ok0
end oo

namespace ach
noncomputable def D : Ctx := ({ P := Tryd.prog, G := [(18, oo.spec)], globs := GLO.gB, hints := [], loops := [], inl := [] } : Ctx)
theorem loops : dh (Tryd.f20.body.getD .skip) = [] := by kernel_rfl
noncomputable def bg : Abs.Spec := fun args K => match args with
 | [.agg [.sl (.ints .u8 a), .sl (.ints .u8 b), .v (.int .u64 e), .v (.int .u64 g), .v (.int .u64 k), .v (.int .u64 h), .v (.bool m)]] => P.ach a b e g k h m (fun c d f i l j n o p => K (.tuple [.agg [.sl (.ints .u8 c), .sl (.ints .u8 d), .v (.int .u64 f), .v (.int .u64 i), .v (.int .u64 l), .v (.int .u64 j), .v (.bool n)], .v (.int .u64 o), .v (.int .i64 p)]))
 | _ => none
noncomputable def spec : Abs.Spec := fun args K => bg (nk [.agg [.sl (.ints .u8 []), .sl (.ints .u8 []), .any, .any, .any, .any, .any]] args) K
theorem ok0 : Proved Tryd.prog GLO.gB 20 bg := by
 refine fq (D := D) (fn := Tryd.f20) (c := Tryd.f20.body.getD .skip) [.agg [.sl (.ints .u8 []), .sl (.ints .u8 []), .any, .any, .any, .any, .any], .any, .any] (by kernel_rfl) (au (by kernel_rfl)) (by kernel_rfl) (by kernel_rfl) (by kernel_rfl) ⟨oo.ok, trivial⟩ trivial ?_ ?_
 · rw [loops]; exact trivial
 · intro args K r h
   unfold bg at h
   split at h
   · rw [P.apu] at h; exact Eq.trans (by kernel_rfl) h
   · cases h
theorem ok : Proved Tryd.prog GLO.gB 20 spec := gu _ ok0
end ach

namespace aea
noncomputable def D : Ctx := ({ P := Tryd.prog, G := [], globs := GLO.gB, hints := [], loops := [], inl := [] } : Ctx)
theorem loops : dh (Tryd.f42.body.getD .skip) = [] := by kernel_rfl
noncomputable def bg : Abs.Spec := fun args K => match args with
 | [.agg [.sl (.ints .u8 a), .sl (.ints .u8 b), .v (.int .u64 e), .v (.int .u64 g), .v (.int .u64 k), .v (.int .u64 h), .v (.bool m)]] => P.aea a b e g k h m (fun c d f i l j n => K (.agg [.sl (.ints .u8 c), .sl (.ints .u8 d), .v (.int .u64 f), .v (.int .u64 i), .v (.int .u64 l), .v (.int .u64 j), .v (.bool n)]))
 | _ => none
noncomputable def spec : Abs.Spec := fun args K => bg (nk [.agg [.sl (.ints .u8 []), .sl (.ints .u8 []), .any, .any, .any, .any, .any]] args) K
theorem ok0 : Proved Tryd.prog GLO.gB 42 bg := by
 refine fq (D := D) (fn := Tryd.f42) (c := Tryd.f42.body.getD .skip) [.agg [.sl (.ints .u8 []), .sl (.ints .u8 []), .any, .any, .any, .any, .any]] (by kernel_rfl) (au (by kernel_rfl)) (by kernel_rfl) (by kernel_rfl) (by kernel_rfl) trivial trivial ?_ ?_
 · rw [loops]; exact trivial
 · intro args K r h
   unfold bg at h
   split at h
   · rw [P.aek] at h; exact Eq.trans (by kernel_rfl) h
   · cases h
theorem ok : Proved Tryd.prog GLO.gB 42 spec := gu _ ok0
end aea

namespace aho
noncomputable def D : Ctx := ({ P := Tryd.prog, G := [(11, aby.spec), (18, oo.spec), (20, ach.spec), (35, y9.spec), (41, ab3.spec), (42, aea.spec)], globs := GLO.gB, hints := [], loops := [], inl := [] } : Ctx)
theorem loops : dh (Tryd.f22.body.getD .skip) = [] := by kernel_rfl
noncomputable def bg : Abs.Spec := fun args K => match args with
 | [.agg [.sl (.ints .u8 a), .sl (.ints .u8 b), .v (.int .u64 e), .v (.int .u64 g), .v (.int .u64 k), .v (.int .u64 h), .v (.bool p)], .agg [.v (.int .i64 l), .v (.int .i64 m), .sl (.ints .u8 n)]] => P.aho a b e g k h p l m n (fun c d f i o j q r s => K (.tuple [.agg [.sl (.ints .u8 c), .sl (.ints .u8 d), .v (.int .u64 f), .v (.int .u64 i), .v (.int .u64 o), .v (.int .u64 j), .v (.bool q)], .fr 25 (.ints .u64 r), .v (.int .i64 s)]))
 | _ => none
noncomputable def spec : Abs.Spec := fun args K => bg (nk [.agg [.sl (.ints .u8 []), .sl (.ints .u8 []), .any, .any, .any, .any, .any], .agg [.any, .any, .sl (.ints .u8 [])]] args) K
theorem ok0 : Proved Tryd.prog GLO.gB 22 bg := by
 refine fq (D := D) (fn := Tryd.f22) (c := Tryd.f22.body.getD .skip) [.agg [.sl (.ints .u8 []), .sl (.ints .u8 []), .any, .any, .any, .any, .any], .fr 25 (.ints .u64 []), .any] (by kernel_rfl) (au (by kernel_rfl)) (by kernel_rfl) (by kernel_rfl) (by kernel_rfl) ⟨aby.ok, oo.ok, ach.ok, y9.ok, ab3.ok, aea.ok, trivial⟩ trivial ?_ ?_
 · rw [loops]; exact trivial
 · intro args K r h
   unfold bg at h
   split at h
   · rw [P.awh] at h; exact Eq.trans (by kernel_rfl) h
   · cases h
theorem ok : Proved Tryd.prog GLO.gB 22 spec := gu _ ok0
end aho

namespace ab9
abbrev X3 := P.bi7
def S3 : X3 → ASt := fun (m, n, o, p, q, r, a, b, c, d, e, f, g, h, i, j, k, l) => ⟨[(6, .own 2), (1, .sl (.cols m [.ints .i64 n, .ints .i64 o, .rows .u8 p])), (2, .ptr 0 0), (4, .ptr 1 0), (7, .v (.int .i64 q))], [(2, some ⟨.row 25 (.ints .u64 r), false⟩), (0, some ⟨.box 27 [.sl (.ints .u8 a), .sl (.ints .u8 b), .v (.int .u64 c), .v (.int .u64 d), .v (.int .u64 e), .v (.int .u64 f), .v (.bool g)], false⟩), (1, some ⟨.box 27 [.v (.slice none 0 0), .v (.slice none 0 0), .v (.int .u64 h), .v (.int .u64 i), .v (.int .u64 j), .v (.int .u64 k), .v (.bool l)], false⟩)], 3, 33⟩
def V3 : ASt → Option X3
 | ⟨[(6, .own 2), (1, .sl (.cols m [.ints .i64 n, .ints .i64 o, .rows .u8 p])), (2, .ptr 0 0), (4, .ptr 1 0), (7, .v (.int .i64 q))], [(2, some ⟨.row 25 (.ints .u64 r), false⟩), (0, some ⟨.box 27 [.sl (.ints .u8 a), .sl (.ints .u8 b), .v (.int .u64 c), .v (.int .u64 d), .v (.int .u64 e), .v (.int .u64 f), .v (.bool g)], false⟩), (1, some ⟨.box 27 [.v (.slice none 0 0), .v (.slice none 0 0), .v (.int .u64 h), .v (.int .u64 i), .v (.int .u64 j), .v (.int .u64 k), .v (.bool l)], false⟩)], 3, 33⟩ => some (m, n, o, p, q, r, a, b, c, d, e, f, g, h, i, j, k, l)
 | _ => none
theorem aj9 (st) (x) (h : V3 st = some x) : st = S3 x := by
 unfold V3 at h
 split at h
 · cases h; rfl
 · cases h
abbrev Y3 := P.bok
def E3 (K : AExit → ASt → Option R) : Y3 → Option R := (fun x => K (.exit 0) (S3 x))
noncomputable def L3 : yu := fun st K => ag3 (V3 st) fun x => P.bn4 x (E3 K)
noncomputable def D : Ctx := ({ P := Tryd.prog, G := [(22, aho.spec)], globs := GLO.gB, hints := [(3, ⟨[1, 2, 4, 7], [(6, 25, .ints .u64 [])], [4, 5], [], none, [], [], []⟩)], loops := [(3, L3)], inl := [] } : Ctx)
theorem ae7 (K) (next) (x) : oq D (iw Tryd.f25 3) K next (S3 x) = P.bkz x (fun x => next (S3 x)) (E3 K) := by kernel_rfl
theorem ajs : ng D (iw Tryd.f25 3) := jl S3 aj9 (by kernel_rfl) P.bqt ae7
theorem loops : dh (Tryd.f25.body.getD .skip) = [iw Tryd.f25 3] := by kernel_rfl
noncomputable def bg : Abs.Spec := fun args K => match args with
 | [.agg [.sl (.ints .u8 a), .sl (.ints .u8 b), .v (.int .u64 e), .v (.int .u64 g), .v (.int .u64 k), .v (.int .u64 h), .v (.bool m)], .sl (.cols o [.ints .i64 p, .ints .i64 q, .rows .u8 r])] => P.ab9 a b e g k h m o p q r (fun c d f i l j n s => K (.tuple [.agg [.sl (.ints .u8 c), .sl (.ints .u8 d), .v (.int .u64 f), .v (.int .u64 i), .v (.int .u64 l), .v (.int .u64 j), .v (.bool n)], .fr 25 (.ints .u64 s)]))
 | _ => none
noncomputable def spec : Abs.Spec := fun args K => bg (nk [.agg [.sl (.ints .u8 []), .sl (.ints .u8 []), .any, .any, .any, .any, .any], .sl (.cols 0 [.ints .i64 [], .ints .i64 [], .rows .u8 []])] args) K
theorem ok0 : Proved Tryd.prog GLO.gB 25 bg := by
 refine fq (D := D) (fn := Tryd.f25) (c := Tryd.f25.body.getD .skip) [.agg [.sl (.ints .u8 []), .sl (.ints .u8 []), .any, .any, .any, .any, .any], .fr 25 (.ints .u64 [])] (by kernel_rfl) (au (by kernel_rfl)) (by kernel_rfl) (by kernel_rfl) (by kernel_rfl) ⟨aho.ok, trivial⟩ trivial ?_ ?_
 · rw [loops]; exact ⟨ajs, trivial⟩
 · intro args K r h
   unfold bg at h
   split at h
   · rw [P.apx] at h; exact Eq.trans (by kernel_rfl) h
   · cases h
theorem ok : Proved Tryd.prog GLO.gB 25 spec := gu _ ok0
end ab9

namespace ab7
noncomputable def D : Ctx := ({ P := Tryd.prog, G := [(47, vw.spec)], globs := GLO.gB, hints := [], loops := [], inl := [] } : Ctx)
theorem loops : dh (Tryd.f32.body.getD .skip) = [] := by kernel_rfl
noncomputable def bg : Abs.Spec := fun args K => match args with
 | [.agg [.sl (.ints .u8 a), .sl (.ints .u8 b)], .agg [.sl (.ints .u8 c), .sl (.ints .u8 d)]] => P.ab7 a b c d (fun e => K (.v (.bool e)))
 | _ => none
noncomputable def spec : Abs.Spec := fun args K => bg (nk [.agg [.sl (.ints .u8 []), .sl (.ints .u8 [])], .agg [.sl (.ints .u8 []), .sl (.ints .u8 [])]] args) K
theorem ok0 : Proved Tryd.prog GLO.gB 32 bg := by
 refine fq (D := D) (fn := Tryd.f32) (c := Tryd.f32.body.getD .skip) [.any] (by kernel_rfl) (au (by kernel_rfl)) (by kernel_rfl) (by kernel_rfl) (by kernel_rfl) ⟨vw.ok, trivial⟩ trivial ?_ ?_
 · rw [loops]; exact trivial
 · intro args K r h
   unfold bg at h
   split at h
   · rw [P.an8] at h; exact Eq.trans (by kernel_rfl) h
   · cases h
theorem ok : Proved Tryd.prog GLO.gB 32 spec := gu _ ok0
end ab7

end
