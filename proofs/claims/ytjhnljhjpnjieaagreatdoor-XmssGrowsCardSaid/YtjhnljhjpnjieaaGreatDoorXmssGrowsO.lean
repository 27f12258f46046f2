/-
  XmssGrows, part 15: an interpreter of my own over abstract values, the pure functions, the walks and the plain law.
-/

import Derived.Test.YtjhnljhjpnjieaaGreatDoorXmssGrowsH
import Derived.Test.YtjhnljhjpnjieaaGreatDoorXmssGrowsG
import Derived.Test.YtjhnljhjpnjieaaGreatDoorProg
import Derived.Test.YtjhnljhjpnjieaaGreatDoorXmssGrowsN
import Derived.KernelRfl
import Derived.Test.YtjhnljhjpnjieaaGreatDoorXmssGrowsM
import Derived.Test.YtjhnljhjpnjieaaGreatDoorXmssGrowsK

section
open Go Go.Abs Go.Proofs
set_option maxRecDepth 100000
set_option maxHeartbeats 0
set_option linter.unusedVariables false

namespace jd
abbrev b8g := P.zt8
def bvj : b8g → ASt := fun (d, a, b, c) => ⟨[(0, .ptr 0 0), (2, .ptr 2 0), (4, .v (.int .i64 d))], [(1, some ⟨.box 107 [.arr .u64 25 a], false⟩), (0, some ⟨.box 107 [.arr .u64 25 b], false⟩), (2, some ⟨.box 167 [.arr .u64 5 c], false⟩)], 3, 44⟩
def b6o : ASt → Option b8g
 | ⟨[(0, .ptr 0 0), (2, .ptr 2 0), (4, .v (.int .i64 d))], [(1, some ⟨.box 107 [.arr .u64 25 a], false⟩), (0, some ⟨.box 107 [.arr .u64 25 b], false⟩), (2, some ⟨.box 167 [.arr .u64 5 c], false⟩)], 3, 44⟩ => some (d, a, b, c)
 | _ => none
theorem bq7 (st) (x) (h : b6o st = some x) : st = bvj x := by
 unfold b6o at h
 split at h
 · cases h; rfl
 · cases h
abbrev Y2_2 := P.zy8
abbrev b89 := P.zt9
def bvs : b89 → ASt := fun (f, g, h, i, e, a, b, c, d) => ⟨[(0, .ptr 0 0), (1, .v (.int .u64 f)), (4, .ptr 3 0), (5, .v (.int .i64 g)), (6, .v (.int .u64 h)), (7, .v (.int .i64 i)), (16, .v (.int .i64 e))], [(3, some ⟨.box 167 [.arr .u64 5 a], false⟩), (2, some ⟨.box 167 [.arr .u64 5 b], false⟩), (1, some ⟨.box 107 [.arr .u64 25 c], false⟩), (0, some ⟨.box 107 [.arr .u64 25 d], false⟩)], 4, 116⟩
def b04 : ASt → Option b89
 | ⟨[(0, .ptr 0 0), (1, .v (.int .u64 f)), (4, .ptr 3 0), (5, .v (.int .i64 g)), (6, .v (.int .u64 h)), (7, .v (.int .i64 i)), (16, .v (.int .i64 e))], [(3, some ⟨.box 167 [.arr .u64 5 a], false⟩), (2, some ⟨.box 167 [.arr .u64 5 b], false⟩), (1, some ⟨.box 107 [.arr .u64 25 c], false⟩), (0, some ⟨.box 107 [.arr .u64 25 d], false⟩)], 4, 116⟩ => some (f, g, h, i, e, a, b, c, d)
 | _ => none
theorem bq4 (st) (x) (h : b04 st = some x) : st = bvs x := by
 unfold b04 at h
 split at h
 · cases h; rfl
 · cases h
abbrev Y1_6 := P.zy9
abbrev b9o := P.bta
def bt1 : b9o → ASt := fun (f, e, a, b, c, d) => ⟨[(0, .ptr 0 0), (1, .v (.int .u64 f)), (4, .ptr 3 0), (16, .v (.int .i64 e))], [(0, some ⟨.box 107 [.arr .u64 25 a], false⟩), (1, some ⟨.box 107 [.arr .u64 25 b], false⟩), (2, some ⟨.box 167 [.arr .u64 5 c], false⟩), (3, some ⟨.box 167 [.arr .u64 5 d], false⟩)], 4, 116⟩
def b38 : ASt → Option b9o
 | ⟨[(0, .ptr 0 0), (1, .v (.int .u64 f)), (4, .ptr 3 0), (16, .v (.int .i64 e))], [(0, some ⟨.box 107 [.arr .u64 25 a], false⟩), (1, some ⟨.box 107 [.arr .u64 25 b], false⟩), (2, some ⟨.box 167 [.arr .u64 5 c], false⟩), (3, some ⟨.box 167 [.arr .u64 5 d], false⟩)], 4, 116⟩ => some (f, e, a, b, c, d)
 | _ => none
theorem bq2 (st) (x) (h : b38 st = some x) : st = bt1 x := by
 unfold b38 at h
 split at h
 · cases h; rfl
 · cases h
abbrev Y1_2 := P.b5v
abbrev btz := P.bth
def blh : btz → ASt := fun (g, h, e, f, a, b, c, d) => ⟨[(0, .ptr 0 0), (1, .v (.int .u64 g)), (8, .v (.int .u64 h)), (51, .arr .i64 24 e), (52, .v (.int .i64 f))], [(3, some ⟨.box 167 [.arr .u64 5 a], false⟩), (2, some ⟨.box 167 [.arr .u64 5 b], false⟩), (1, some ⟨.box 107 [.arr .u64 25 c], false⟩), (0, some ⟨.box 107 [.arr .u64 25 d], false⟩)], 4, 116⟩
def bri : ASt → Option btz
 | ⟨[(0, .ptr 0 0), (1, .v (.int .u64 g)), (8, .v (.int .u64 h)), (51, .arr .i64 24 e), (52, .v (.int .i64 f))], [(3, some ⟨.box 167 [.arr .u64 5 a], false⟩), (2, some ⟨.box 167 [.arr .u64 5 b], false⟩), (1, some ⟨.box 107 [.arr .u64 25 c], false⟩), (0, some ⟨.box 107 [.arr .u64 25 d], false⟩)], 4, 116⟩ => some (g, h, e, f, a, b, c, d)
 | _ => none
theorem bpb (st) (x) (h : bri st = some x) : st = blh x := by
 unfold bri at h
 split at h
 · cases h; rfl
 · cases h
abbrev b2y := P.b5s
abbrev bu8 := P.bvo
def bmu : bu8 → ASt := fun (h, f, g, a, b, c, d, e) => ⟨[(0, .ptr 0 0), (1, .v (.int .u64 h)), (11, .v (.int .i64 f)), (12, .ptr 4 0), (83, .v (.int .i64 g))], [(3, some ⟨.box 167 [.arr .u64 5 a], false⟩), (2, some ⟨.box 167 [.arr .u64 5 b], false⟩), (1, some ⟨.box 107 [.arr .u64 25 c], false⟩), (0, some ⟨.box 107 [.arr .u64 25 d], false⟩), (4, some ⟨.box 167 [.arr .u64 5 e], false⟩)], 5, 116⟩
def brm : ASt → Option bu8
 | ⟨[(0, .ptr 0 0), (1, .v (.int .u64 h)), (11, .v (.int .i64 f)), (12, .ptr 4 0), (83, .v (.int .i64 g))], [(3, some ⟨.box 167 [.arr .u64 5 a], false⟩), (2, some ⟨.box 167 [.arr .u64 5 b], false⟩), (1, some ⟨.box 107 [.arr .u64 25 c], false⟩), (0, some ⟨.box 107 [.arr .u64 25 d], false⟩), (4, some ⟨.box 167 [.arr .u64 5 e], false⟩)], 5, 116⟩ => some (h, f, g, a, b, c, d, e)
 | _ => none
theorem bnx (st) (x) (h : brm st = some x) : st = bmu x := by
 unfold brm at h
 split at h
 · cases h; rfl
 · cases h
abbrev b7u := P.b4x
abbrev bvi := P.btr
def blx : bvi → ASt := fun (f, e, a, b, c, d) => ⟨[(0, .ptr 0 0), (1, .v (.int .u64 f)), (11, .v (.int .i64 e))], [(0, some ⟨.box 107 [.arr .u64 25 a], false⟩), (1, some ⟨.box 107 [.arr .u64 25 b], false⟩), (2, some ⟨.box 167 [.arr .u64 5 c], false⟩), (3, some ⟨.box 167 [.arr .u64 5 d], false⟩)], 4, 116⟩
def bse : ASt → Option bvi
 | ⟨[(0, .ptr 0 0), (1, .v (.int .u64 f)), (11, .v (.int .i64 e))], [(0, some ⟨.box 107 [.arr .u64 25 a], false⟩), (1, some ⟨.box 107 [.arr .u64 25 b], false⟩), (2, some ⟨.box 167 [.arr .u64 5 c], false⟩), (3, some ⟨.box 167 [.arr .u64 5 d], false⟩)], 4, 116⟩ => some (f, e, a, b, c, d)
 | _ => none
theorem bow (st) (x) (h : bse st = some x) : st = blx x := by
 unfold bse at h
 split at h
 · cases h; rfl
 · cases h
abbrev b09 := P.b7f
abbrev X2 := P.bx3
def S2 : X2 → ASt := fun (c, d, a, b) => ⟨[(1, .ptr 0 0), (2, .ptr 1 0), (5, .arr .u64 24 c), (6, .v (.int .i64 d))], [(0, some ⟨.box 107 [.arr .u64 25 a], false⟩), (1, some ⟨.box 107 [.arr .u64 25 b], false⟩)], 2, 13⟩
def V2 : ASt → Option X2
 | ⟨[(1, .ptr 0 0), (2, .ptr 1 0), (5, .arr .u64 24 c), (6, .v (.int .i64 d))], [(0, some ⟨.box 107 [.arr .u64 25 a], false⟩), (1, some ⟨.box 107 [.arr .u64 25 b], false⟩)], 2, 13⟩ => some (c, d, a, b)
 | _ => none
theorem axu (st) (x) (h : V2 st = some x) : st = S2 x := by
 unfold V2 at h
 split at h
 · cases h; rfl
 · cases h
abbrev Y2 := P.b08
def caf (K : AExit → ASt → Option R) : Y2_2 → Option R := (fun x => K (.exit 0) (bvj x))
noncomputable def L2_2 : p8 := fun st K => acg (b6o st) fun x => P.zm8 x (caf K)
def b9d (K : AExit → ASt → Option R) : Y1_6 → Option R := (fun x => K (.exit 2) (bvs x))
noncomputable def L1_6 : p8 := fun st K => acg (b04 st) fun x => P.zm9 x (b9d K)
def b9f (K : AExit → ASt → Option R) : Y1_2 → Option R := (fun x => K (.exit 0) (bt1 x))
noncomputable def L1_2 : p8 := fun st K => acg (b38 st) fun x => P.b5j x (b9f K)
def btf (K : AExit → ASt → Option R) : b2y → Option R := (fun x => K (.exit 4) (blh x))
noncomputable def b7o : p8 := fun st K => acg (bri st) fun x => P.b2p x (btf K)
def bti (K : AExit → ASt → Option R) : b7u → Option R := (fun x => K (.exit 8) (bmu x))
noncomputable def b55 : p8 := fun st K => acg (brm st) fun x => P.b0i x (bti K)
def btj (K : AExit → ASt → Option R) : b09 → Option R := (fun x => K (.exit 6) (blx x))
noncomputable def b2w : p8 := fun st K => acg (bse st) fun x => P.b6h x (btj K)
def E2 (K : AExit → ASt → Option R) : Y2 → Option R := (fun x => K (.exit 0) (S2 x))
noncomputable def L2 : p8 := fun st K => acg (V2 st) fun x => P.b7x x (E2 K)
noncomputable def D2 : Ctx := ({ P := Tryz.prog, G := [(158, jg.spec)], globs := GLO.gx, hints := [(2, ⟨[0, 2, 4], [], [2], [], none, [], []⟩)], loops := [(2, L2_2)], inl := [] } : Ctx)
noncomputable def D1 : Ctx := ({ P := Tryz.prog, G := [(158, jg.spec)], globs := GLO.gx, hints := [(21, ⟨[0, 1, 11, 12, 83], [], [], [], none, [], []⟩), (17, ⟨[0, 1, 11], [], [], [], none, [], []⟩), (12, ⟨[0, 1, 8, 51, 52], [], [], [], none, [], []⟩), (6, ⟨[0, 1, 4, 5, 6, 7, 16], [], [], [], none, [], []⟩), (2, ⟨[0, 1, 4, 16], [], [], [], none, [], []⟩)], loops := [(6, L1_6), (2, L1_2), (12, b7o), (21, b55), (17, b2w)], inl := [(157, ao0 D2 Tryz.f157)] } : Ctx)
noncomputable def D : Ctx := ({ P := Tryz.prog, G := [(158, jg.spec)], globs := GLO.gx, hints := [(2, ⟨[1, 2, 5, 6], [], [2], [], none, [], []⟩)], loops := [(2, L2)], inl := [(151, ao0 D1 Tryz.f151)] } : Ctx)
theorem bmz (K) (next) (x) : jq D2 (dz Tryz.f157 2) K next (bvj x) = P.zs8 x (fun x => next (bvj x)) (caf K) := by kernel_rfl
theorem bsa : ji D2 (dz Tryz.f157 2) := gy bvj bq7 (by kernel_rfl) P.ze8 bmz
theorem bo7 (K) (next) (x) : jq D1 (dz Tryz.f151 6) K next (bvs x) = P.zs9 x (fun x => next (bvs x)) (b9d K) := by kernel_rfl
theorem bq1 : ji D1 (dz Tryz.f151 6) := gy bvs bq4 (by kernel_rfl) P.ze9 bo7
theorem bo0 (K) (next) (x) : jq D1 (dz Tryz.f151 2) K next (bt1 x) = P.bxb x (fun x => next (bt1 x)) (b9f K) := by kernel_rfl
theorem br5 : ji D1 (dz Tryz.f151 2) := gy bt1 bq2 (by kernel_rfl) P.b8i bo0
theorem bl6 (K) (next) (x) : jq D1 (dz Tryz.f151 12) K next (blh x) = P.bvg x (fun x => next (blh x)) (btf K) := by kernel_rfl
theorem bnz : ji D1 (dz Tryz.f151 12) := gy blh bpb (by kernel_rfl) P.b9a bl6
theorem blw (K) (next) (x) : jq D1 (dz Tryz.f151 21) K next (bmu x) = P.zs12 x (fun x => next (bmu x)) (bti K) := by kernel_rfl
theorem bnn : ji D1 (dz Tryz.f151 21) := gy bmu bnx (by kernel_rfl) P.b8x blw
theorem bkg (K) (next) (x) : jq D1 (dz Tryz.f151 17) K next (blx x) = P.btq x (fun x => next (blx x)) (btj K) := by kernel_rfl
theorem bo9 : ji D1 (dz Tryz.f151 17) := gy blx bow (by kernel_rfl) P.b9c bkg
theorem ame (K) (next) (x) : jq D (dz Tryz.f140 2) K next (S2 x) = P.bvm x (fun x => next (S2 x)) (E2 K) := by kernel_rfl
theorem avz : ji D (dz Tryz.f140 2) := gy S2 axu (by kernel_rfl) P.b80 ame
theorem loops : d9 (Tryz.f140.body.getD .skip) = [dz Tryz.f140 2] := by kernel_rfl
theorem ayf : d9 (Tryz.f151.body.getD .skip) = [dz Tryz.f151 2, dz Tryz.f151 6, dz Tryz.f151 12, dz Tryz.f151 17, dz Tryz.f151 21] := by kernel_rfl
theorem bwg : d9 (Tryz.f157.body.getD .skip) = [dz Tryz.f157 2] := by kernel_rfl
noncomputable def bn : Abs.Spec := fun args K => match args with
 | [.arr .u64 25 a] => P.jd a (fun b => K (.arr .u64 25 b))
 | _ => none
noncomputable def spec : Abs.Spec := bn
theorem ok0 : Proved Tryz.prog GLO.gx 140 bn := by
 refine dw (D := D) (fn := Tryz.f140) (c := Tryz.f140.body.getD .skip) [.any] (by kernel_rfl) (bf (by kernel_rfl)) (by kernel_rfl) (by kernel_rfl) (by kernel_rfl) ⟨jg.ok, trivial⟩ ⟨bet (D := D1) (D' := D) (fn := Tryz.f151) (c := Tryz.f151.body.getD .skip) rfl rfl (by kernel_rfl) (bf (by kernel_rfl)) (by kernel_rfl) (by kernel_rfl) (by kernel_rfl) ⟨jg.ok, trivial⟩ ⟨bet (D := D2) (D' := D1) (fn := Tryz.f157) (c := Tryz.f157.body.getD .skip) rfl rfl (by kernel_rfl) (bf (by kernel_rfl)) (by kernel_rfl) (by kernel_rfl) (by kernel_rfl) ⟨jg.ok, trivial⟩ trivial (by rw [bwg]; exact ⟨bsa, trivial⟩) (fun _ _ _ _ _ h => h), trivial⟩ (by rw [ayf]; exact ⟨br5, bq1, bnz, bo9, bnn, trivial⟩) (fun _ _ _ _ _ h => h), trivial⟩ ?_ ?_
 · rw [loops]; exact ⟨avz, trivial⟩
 · intro args K r h
   unfold bn at h
   split at h
   · rw [P.aki] at h; exact Eq.trans (by kernel_rfl) h
   · cases h
theorem ok : Proved Tryz.prog GLO.gx 140 spec := ok0
end jd

namespace l8
noncomputable def D : Ctx := ({ P := Tryz.prog, G := [], globs := GLO.gx, hints := [], loops := [], inl := [] } : Ctx)
theorem loops : d9 (Tryz.f138.body.getD .skip) = [] := by kernel_rfl
noncomputable def bn : Abs.Spec := fun args K => match args with
 | [.v (.int .i64 a)] => P.l8 a (fun b => K (.v (.int .i64 b)))
 | _ => none
noncomputable def spec : Abs.Spec := bn
theorem ok0 : Proved Tryz.prog GLO.gx 138 bn := by
 refine dw (D := D) (fn := Tryz.f138) (c := Tryz.f138.body.getD .skip) [.any] (by kernel_rfl) (bf (by kernel_rfl)) (by kernel_rfl) (by kernel_rfl) (by kernel_rfl) trivial trivial ?_ ?_
 · rw [loops]; exact trivial
 · intro args K r h
   unfold bn at h
   split at h
   · rw [P.aol] at h; exact Eq.trans (by kernel_rfl) h
   · cases h
theorem ok : Proved Tryz.prog GLO.gx 138 spec := ok0
end l8

namespace o7
abbrev X5 := P.btg
def S5 : X5 → ASt := fun (k, l, i, j, a, b, c, d, e, f, g, h) => ⟨[(1, .sl (.ints .u8 k)), (2, .ptr 0 0), (4, .ptr 1 0), (5, .v (.int .i64 l)), (14, .v (.int .i64 i)), (15, .v (.int .i64 j))], [(0, some ⟨.box 109 [.v (.int .i64 a), .arr .u64 25 b, .v (.int .i64 c), .v (.bool d)], false⟩), (1, some ⟨.box 109 [.v (.int .i64 e), .arr .u64 25 f, .v (.int .i64 g), .v (.bool h)], false⟩)], 40, 40⟩
def V5 : ASt → Option X5
 | ⟨[(1, .sl (.ints .u8 k)), (2, .ptr 0 0), (4, .ptr 1 0), (5, .v (.int .i64 l)), (14, .v (.int .i64 i)), (15, .v (.int .i64 j))], [(0, some ⟨.box 109 [.v (.int .i64 a), .arr .u64 25 b, .v (.int .i64 c), .v (.bool d)], false⟩), (1, some ⟨.box 109 [.v (.int .i64 e), .arr .u64 25 f, .v (.int .i64 g), .v (.bool h)], false⟩)], 40, 40⟩ => some (k, l, i, j, a, b, c, d, e, f, g, h)
 | _ => none
theorem atn (st) (x) (h : V5 st = some x) : st = S5 x := by
 unfold V5 at h
 split at h
 · cases h; rfl
 · cases h
abbrev Y5 := P.b6f
def E5 (K : AExit → ASt → Option R) : Y5 → Option R := (fun x => K (.exit 0) (S5 x))
noncomputable def L5 : p8 := fun st K => acg (V5 st) fun x => P.b2c x (E5 K)
noncomputable def D1 : Ctx := ({ P := Tryz.prog, G := [(138, l8.spec), (140, jd.spec)], globs := GLO.gx, hints := [], loops := [], inl := [] } : Ctx)
noncomputable def D : Ctx := ({ P := Tryz.prog, G := [(138, l8.spec), (140, jd.spec)], globs := GLO.gx, hints := [(5, ⟨[1, 2, 4, 5, 14, 15], [], [4], [], some (40, [0, 1]), [], []⟩)], loops := [(5, L5)], inl := [(139, ao0 D1 Tryz.f139)] } : Ctx)
theorem akf (K) (next) (x) : jq D (dz Tryz.f122 5) K next (S5 x) = P.bya x (fun x => next (S5 x)) (E5 K) := by kernel_rfl
theorem atq : ji D (dz Tryz.f122 5) := gy S5 atn (by kernel_rfl) P.b8u akf
theorem loops : d9 (Tryz.f122.body.getD .skip) = [dz Tryz.f122 5] := by kernel_rfl
theorem ayf : d9 (Tryz.f139.body.getD .skip) = [] := by kernel_rfl
noncomputable def bn : Abs.Spec := fun args K => match args with
 | [.agg [.v (.int .i64 c), .arr .u64 25 a, .v (.int .i64 g), .v (.bool e)], .sl (.ints .u8 i)] => P.o7 c a g e i (fun d b h f => K (.agg [.v (.int .i64 d), .arr .u64 25 b, .v (.int .i64 h), .v (.bool f)]))
 | _ => none
noncomputable def spec : Abs.Spec := fun args K => bn (oh [.any, .sl (.ints .u8 [])] args) K
theorem ok0 : Proved Tryz.prog GLO.gx 122 bn := by
 refine dw (D := D) (fn := Tryz.f122) (c := Tryz.f122.body.getD .skip) [.any] (by kernel_rfl) (bf (by kernel_rfl)) (by kernel_rfl) (by kernel_rfl) (by kernel_rfl) ⟨l8.ok, jd.ok, trivial⟩ ⟨bet (D := D1) (D' := D) (fn := Tryz.f139) (c := Tryz.f139.body.getD .skip) rfl rfl (by kernel_rfl) (bf (by kernel_rfl)) (by kernel_rfl) (by kernel_rfl) (by kernel_rfl) ⟨l8.ok, jd.ok, trivial⟩ trivial (by rw [ayf]; exact trivial) (fun _ _ _ _ _ h => h), trivial⟩ ?_ ?_
 · rw [loops]; exact ⟨atq, trivial⟩
 · intro args K r h
   unfold bn at h
   split at h
   · rw [P.al2] at h; exact Eq.trans (by kernel_rfl) h
   · cases h
theorem ok : Proved Tryz.prog GLO.gx 122 spec := eu _ ok0
end o7

namespace aek
noncomputable def D : Ctx := ({ P := Tryz.prog, G := [(138, l8.spec)], globs := GLO.gx, hints := [], loops := [], inl := [] } : Ctx)
theorem loops : d9 (Tryz.f121.body.getD .skip) = [] := by kernel_rfl
noncomputable def bn : Abs.Spec := fun args K => match args with
 | [.v (.int .i64 e)] => P.aek e (fun b a d c f => K (.tuple [.agg [.v (.int .i64 b), .arr .u64 25 a, .v (.int .i64 d), .v (.bool c)], .v (.int .i64 f)]))
 | _ => none
noncomputable def spec : Abs.Spec := bn
theorem ok0 : Proved Tryz.prog GLO.gx 121 bn := by
 refine dw (D := D) (fn := Tryz.f121) (c := Tryz.f121.body.getD .skip) [.any, .any] (by kernel_rfl) (bf (by kernel_rfl)) (by kernel_rfl) (by kernel_rfl) (by kernel_rfl) ⟨l8.ok, trivial⟩ trivial ?_ ?_
 · rw [loops]; exact trivial
 · intro args K r h
   unfold bn at h
   split at h
   · rw [P.ash] at h; exact Eq.trans (by kernel_rfl) h
   · cases h
theorem ok : Proved Tryz.prog GLO.gx 121 spec := ok0
end aek

namespace u7
noncomputable def D1 : Ctx := ({ P := Tryz.prog, G := [(138, l8.spec), (140, jd.spec)], globs := GLO.gx, hints := [], loops := [], inl := [] } : Ctx)
noncomputable def D : Ctx := ({ P := Tryz.prog, G := [(138, l8.spec), (140, jd.spec)], globs := GLO.gx, hints := [], loops := [], inl := [(139, ao0 D1 Tryz.f139)] } : Ctx)
theorem loops : d9 (Tryz.f141.body.getD .skip) = [] := by kernel_rfl
theorem ayf : d9 (Tryz.f139.body.getD .skip) = [] := by kernel_rfl
noncomputable def bn : Abs.Spec := fun args K => match args with
 | [.agg [.v (.int .i64 c), .arr .u64 25 a, .v (.int .i64 g), .v (.bool e)]] => P.u7 c a g e (fun d b h f => K (.agg [.v (.int .i64 d), .arr .u64 25 b, .v (.int .i64 h), .v (.bool f)]))
 | _ => none
noncomputable def spec : Abs.Spec := bn
theorem ok0 : Proved Tryz.prog GLO.gx 141 bn := by
 refine dw (D := D) (fn := Tryz.f141) (c := Tryz.f141.body.getD .skip) [.any] (by kernel_rfl) (bf (by kernel_rfl)) (by kernel_rfl) (by kernel_rfl) (by kernel_rfl) ⟨l8.ok, jd.ok, trivial⟩ ⟨bet (D := D1) (D' := D) (fn := Tryz.f139) (c := Tryz.f139.body.getD .skip) rfl rfl (by kernel_rfl) (bf (by kernel_rfl)) (by kernel_rfl) (by kernel_rfl) (by kernel_rfl) ⟨l8.ok, jd.ok, trivial⟩ trivial (by rw [ayf]; exact trivial) (fun _ _ _ _ _ h => h), trivial⟩ ?_ ?_
 · rw [loops]; exact trivial
 · intro args K r h
   unfold bn at h
   split at h
   · rw [P.aly] at h; exact Eq.trans (by kernel_rfl) h
   · cases h
theorem ok : Proved Tryz.prog GLO.gx 141 spec := ok0
end u7

namespace qy
abbrev X7 := P.bu6
def S7 : X7 → ASt := fun (i, j, a, b, c, d, e, f, g, h, k) => ⟨[(2, .ptr 0 0), (4, .ptr 1 0), (6, .own 2), (19, .v (.int .i64 i)), (20, .v (.int .i64 j))], [(0, some ⟨.box 109 [.v (.int .i64 a), .arr .u64 25 b, .v (.int .i64 c), .v (.bool d)], false⟩), (1, some ⟨.box 109 [.v (.int .i64 e), .arr .u64 25 f, .v (.int .i64 g), .v (.bool h)], false⟩), (2, some ⟨.row 5 (.ints .u8 k), false⟩)], 40, 56⟩
def V7 : ASt → Option X7
 | ⟨[(2, .ptr 0 0), (4, .ptr 1 0), (6, .own 2), (19, .v (.int .i64 i)), (20, .v (.int .i64 j))], [(0, some ⟨.box 109 [.v (.int .i64 a), .arr .u64 25 b, .v (.int .i64 c), .v (.bool d)], false⟩), (1, some ⟨.box 109 [.v (.int .i64 e), .arr .u64 25 f, .v (.int .i64 g), .v (.bool h)], false⟩), (2, some ⟨.row 5 (.ints .u8 k), false⟩)], 40, 56⟩ => some (i, j, a, b, c, d, e, f, g, h, k)
 | _ => none
theorem bfl (st) (x) (h : V7 st = some x) : st = S7 x := by
 unfold V7 at h
 split at h
 · cases h; rfl
 · cases h
abbrev Y7 := P.b7z
def E7 (K : AExit → ASt → Option R) : Y7 → Option R := (fun x => K (.exit 0) (S7 x))
noncomputable def L7 : p8 := fun st K => acg (V7 st) fun x => P.b2s x (E7 K)
noncomputable def D : Ctx := ({ P := Tryz.prog, G := [(138, l8.spec), (140, jd.spec), (141, u7.spec)], globs := GLO.gx, hints := [(7, ⟨[2, 4, 6, 19, 20], [], [4, 5], [], some (40, [0, 1, 2]), [], []⟩)], loops := [(7, L7)], inl := [] } : Ctx)
theorem aws (K) (next) (x) : jq D (dz Tryz.f124 7) K next (S7 x) = P.bv5 x (fun x => next (S7 x)) (E7 K) := by kernel_rfl
theorem bf1 : ji D (dz Tryz.f124 7) := gy S7 bfl (by kernel_rfl) P.b8k aws
theorem loops : d9 (Tryz.f124.body.getD .skip) = [dz Tryz.f124 7] := by kernel_rfl
noncomputable def bn : Abs.Spec := fun args K => match args with
 | [.agg [.v (.int .i64 c), .arr .u64 25 a, .v (.int .i64 g), .v (.bool e)], .v (.int .i64 i)] => P.qy c a g e i (fun d b h f j => K (.tuple [.agg [.v (.int .i64 d), .arr .u64 25 b, .v (.int .i64 h), .v (.bool f)], .fr 5 (.ints .u8 j)]))
 | _ => none
noncomputable def spec : Abs.Spec := bn
theorem ok0 : Proved Tryz.prog GLO.gx 124 bn := by
 refine dw (D := D) (fn := Tryz.f124) (c := Tryz.f124.body.getD .skip) [.any, .fr 5 (.ints .u8 [])] (by kernel_rfl) (bf (by kernel_rfl)) (by kernel_rfl) (by kernel_rfl) (by kernel_rfl) ⟨l8.ok, jd.ok, u7.ok, trivial⟩ trivial ?_ ?_
 · rw [loops]; exact ⟨bf1, trivial⟩
 · intro args K r h
   unfold bn at h
   split at h
   · rw [P.aj3] at h; exact Eq.trans (by kernel_rfl) h
   · cases h
theorem ok : Proved Tryz.prog GLO.gx 124 spec := ok0
end qy

namespace je
noncomputable def D : Ctx := ({ P := Tryz.prog, G := [(94, j6.spec), (122, o7.spec), (124, qy.spec)], globs := GLO.gx, hints := [], loops := [], inl := [] } : Ctx)
theorem loops : d9 (Tryz.f123.body.getD .skip) = [] := by kernel_rfl
noncomputable def bn : Abs.Spec := fun args K => match args with
 | [.arr .u8 32 e, .sl (.ints .u8 f), .sta [.v (.int .i64 b), .arr .u64 25 a, .v (.int .i64 d), .v (.bool c)], .sta [.v (.int .i64 g)]] => P.je e f b a d c g (fun h => K (.fr 5 (.ints .u8 h)))
 | _ => none
noncomputable def spec : Abs.Spec := fun args K => bn (oh [.any, .sl (.ints .u8 []), .any, .any] args) K
theorem ok0 : Proved Tryz.prog GLO.gx 123 bn := by
 refine dw (D := D) (fn := Tryz.f123) (c := Tryz.f123.body.getD .skip) [.fr 5 (.ints .u8 [])] (by kernel_rfl) (bf (by kernel_rfl)) (by kernel_rfl) (by kernel_rfl) (by kernel_rfl) ⟨j6.ok, o7.ok, qy.ok, trivial⟩ trivial ?_ ?_
 · rw [loops]; exact trivial
 · intro args K r h
   unfold bn at h
   split at h
   · rw [P.akc] at h; exact Eq.trans (by kernel_rfl) h
   · cases h
theorem ok : Proved Tryz.prog GLO.gx 123 spec := eu _ ok0
end je

namespace acj
noncomputable def D : Ctx := ({ P := Tryz.prog, G := [(121, aek.spec), (122, o7.spec), (123, je.spec)], globs := GLO.gx, hints := [], loops := [], inl := [], sta := true } : Ctx)
theorem loops : d9 (Tryz.f110.body.getD .skip) = [] := by kernel_rfl
noncomputable def bn : Abs.Spec := fun args K => match args with
 | [.v (.int .i64 f), .sl (.ints .u8 g)] => P.acj f g (fun b a d c e => K (.fn (.func 123) [] [.sta [.v (.int .i64 b), .arr .u64 25 a, .v (.int .i64 d), .v (.bool c)], .sta [.v (.int .i64 e)]]))
 | _ => none
noncomputable def spec : Abs.Spec := fun args K => bn (oh [.any, .sl (.ints .u8 [])] args) K
theorem ok0 : Proved Tryz.prog GLO.gx 110 bn := by
 refine dw (D := D) (fn := Tryz.f110) (c := Tryz.f110.body.getD .skip) [.any] (by kernel_rfl) (bf (by kernel_rfl)) (by kernel_rfl) (by kernel_rfl) (by kernel_rfl) ⟨aek.ok, o7.ok, je.ok, trivial⟩ trivial ?_ ?_
 · rw [loops]; exact trivial
 · intro args K r h
   unfold bn at h
   split at h
   · rw [P.ao4] at h; exact Eq.trans (by kernel_rfl) h
   · cases h
theorem ok : Proved Tryz.prog GLO.gx 110 spec := eu _ ok0
end acj

namespace qp
noncomputable def D : Ctx := ({ P := Tryz.prog, G := [(36, yg.spec), (110, acj.spec), (111, ac8.spec), (123, je.spec), (126, jc.spec)], globs := GLO.gx, hints := [], loops := [], inl := [] } : Ctx)
theorem loops : d9 (Tryz.f87.body.getD .skip) = [] := by kernel_rfl
noncomputable def bn : Abs.Spec := fun args K => match args with
 | [.agg [.v (.int .i64 y), .v (.int .i64 z), .v (.int .i64 A), .v (.int .i64 B), .v (.int .i64 C), .v (.bool p)], .sl (.ints .u8 F)] => P.qp y z A B C p F (fun q r s t u l w d a m k n e b f g o h c i j G => K (.tuple [.agg [.v (.int .i64 q), .v (.int .i64 r), .v (.int .i64 s), .v (.int .i64 t), .v (.int .i64 u), .v (.bool l), .alt w (.func 123) [] [.sta [.v (.int .i64 d), .arr .u64 25 a, .v (.int .i64 m), .v (.bool k)], .sta [.v (.int .i64 n)]] (.func 126) [] [.sta [.v (.int .i64 e), .arr .u64 8 b, .sl (.ints .u8 f), .v (.int .u64 g)], .sta [.v (.int .i64 o)], .sta [.v (.int .i64 h), .arr .u64 8 c, .sl (.ints .u8 i), .v (.int .u64 j)]]], .v (.bool G)]))
 | _ => none
noncomputable def spec : Abs.Spec := fun args K => bn (oh [.any, .sl (.ints .u8 [])] args) K
theorem ok0 : Proved Tryz.prog GLO.gx 87 bn := by
 refine dw (D := D) (fn := Tryz.f87) (c := Tryz.f87.body.getD .skip) [.agg [.any, .any, .any, .any, .any, .any, .alt (.func 123) [] [.sta [.v (.int .i64 0), .arr .u64 25 [], .v (.int .i64 0), .v (.bool false)], .sta [.v (.int .i64 0)]] (.func 126) [] [.sta [.v (.int .i64 0), .arr .u64 8 [], .sl (.ints .u8 []), .v (.int .u64 0)], .sta [.v (.int .i64 0)], .sta [.v (.int .i64 0), .arr .u64 8 [], .sl (.ints .u8 []), .v (.int .u64 0)]]], .any] (by kernel_rfl) (bf (by kernel_rfl)) (by kernel_rfl) (by kernel_rfl) (by kernel_rfl) ⟨yg.ok, acj.ok, ac8.ok, je.ok, jc.ok, trivial⟩ trivial ?_ ?_
 · rw [loops]; exact trivial
 · intro args K r h
   unfold bn at h
   split at h
   · rw [P.akw] at h; exact Eq.trans (by kernel_rfl) h
   · cases h
theorem ok : Proved Tryz.prog GLO.gx 87 spec := eu _ ok0
end qp

namespace jy
abbrev X2 := P.bx6
def S2 : X2 → ASt := fun (z, A, y, o, p, q, r, s, t, u, a, b, c, d, e, f, g, h, i, j, k, l, m, n, w) => ⟨[(2, .sl (.ints .u8 z)), (4, .v (.int .u32 A)), (5, .ptr 0 0), (6, .ptr 1 0), (11, .v (.int .u32 y))], [(0, some ⟨.box 97 [.v (.int .i64 o), .v (.int .i64 p), .v (.int .i64 q), .v (.int .i64 r), .v (.int .i64 s), .v (.bool t), .alt u (.func 123) [] [.sta [.v (.int .i64 a), .arr .u64 25 b, .v (.int .i64 c), .v (.bool d)], .sta [.v (.int .i64 e)]] (.func 126) [] [.sta [.v (.int .i64 f), .arr .u64 8 g, .sl (.ints .u8 h), .v (.int .u64 i)], .sta [.v (.int .i64 j)], .sta [.v (.int .i64 k), .arr .u64 8 l, .sl (.ints .u8 m), .v (.int .u64 n)]]], false⟩), (1, some ⟨.box 25 [.arr .u8 32 w], false⟩)], 2, 27⟩
def V2 : ASt → Option X2
 | ⟨[(2, .sl (.ints .u8 z)), (4, .v (.int .u32 A)), (5, .ptr 0 0), (6, .ptr 1 0), (11, .v (.int .u32 y))], [(0, some ⟨.box 97 [.v (.int .i64 o), .v (.int .i64 p), .v (.int .i64 q), .v (.int .i64 r), .v (.int .i64 s), .v (.bool t), .alt u (.func 123) [] [.sta [.v (.int .i64 a), .arr .u64 25 b, .v (.int .i64 c), .v (.bool d)], .sta [.v (.int .i64 e)]] (.func 126) [] [.sta [.v (.int .i64 f), .arr .u64 8 g, .sl (.ints .u8 h), .v (.int .u64 i)], .sta [.v (.int .i64 j)], .sta [.v (.int .i64 k), .arr .u64 8 l, .sl (.ints .u8 m), .v (.int .u64 n)]]], false⟩), (1, some ⟨.box 25 [.arr .u8 32 w], false⟩)], 2, 27⟩ => some (z, A, y, o, p, q, r, s, t, u, a, b, c, d, e, f, g, h, i, j, k, l, m, n, w)
 | _ => none
theorem axu (st) (x) (h : V2 st = some x) : st = S2 x := by
 unfold V2 at h
 split at h
 · cases h; rfl
 · cases h
abbrev Y2 := P.b5a
def E2 (K : AExit → ASt → Option R) : Y2 → Option R := (fun x => K (.exit 0) (S2 x))
noncomputable def L2 : p8 := fun st K => acg (V2 st) fun x => P.b5e x (E2 K)
noncomputable def D : Ctx := ({ P := Tryz.prog, G := [(80, iy.spec), (123, je.spec), (126, jc.spec)], globs := GLO.gx, hints := [(2, ⟨[2, 4, 5, 6, 11], [], [10], [(2, .sl (.ints .u8 []))], none, [], []⟩)], loops := [(2, L2)], inl := [] } : Ctx)
theorem ame (K) (next) (x) : jq D (dz Tryz.f89 2) K next (S2 x) = P.bsy x (fun x => next (S2 x)) (E2 K) := by kernel_rfl
theorem avz : ji D (dz Tryz.f89 2) := gy S2 axu (by kernel_rfl) P.b8e ame
theorem loops : d9 (Tryz.f89.body.getD .skip) = [dz Tryz.f89 2] := by kernel_rfl
noncomputable def bn : Abs.Spec := fun args K => match args with
 | [.agg [.v (.int .i64 p), .v (.int .i64 q), .v (.int .i64 r), .v (.int .i64 s), .v (.int .i64 t), .v (.bool l), .alt u (.func 123) [] [.sta [.v (.int .i64 d), .arr .u64 25 a, .v (.int .i64 m), .v (.bool k)], .sta [.v (.int .i64 n)]] (.func 126) [] [.sta [.v (.int .i64 e), .arr .u64 8 b, .sl (.ints .u8 f), .v (.int .u64 g)], .sta [.v (.int .i64 o)], .sta [.v (.int .i64 h), .arr .u64 8 c, .sl (.ints .u8 i), .v (.int .u64 j)]]], .arr .u8 32 w, .sl (.ints .u8 y), .v (.int .u32 z), .v (.int .u32 A)] => P.jy p q r s t l u d a m k n e b f g o h c i j w y z A (fun B => K (.sl (.ints .u8 B)))
 | _ => none
noncomputable def spec : Abs.Spec := fun args K => bn (oh [.agg [.any, .any, .any, .any, .any, .any, .alt (.func 123) [] [.sta [.v (.int .i64 0), .arr .u64 25 [], .v (.int .i64 0), .v (.bool false)], .sta [.v (.int .i64 0)]] (.func 126) [] [.sta [.v (.int .i64 0), .arr .u64 8 [], .sl (.ints .u8 []), .v (.int .u64 0)], .sta [.v (.int .i64 0)], .sta [.v (.int .i64 0), .arr .u64 8 [], .sl (.ints .u8 []), .v (.int .u64 0)]]], .any, .sl (.ints .u8 []), .any, .any] args) K
theorem ok0 : Proved Tryz.prog GLO.gx 89 bn := by
 refine dw (D := D) (fn := Tryz.f89) (c := Tryz.f89.body.getD .skip) [.sl (.ints .u8 [])] (by kernel_rfl) (bf (by kernel_rfl)) (by kernel_rfl) (by kernel_rfl) (by kernel_rfl) ⟨iy.ok, je.ok, jc.ok, trivial⟩ trivial ?_ ?_
 · rw [loops]; exact ⟨avz, trivial⟩
 · intro args K r h
   unfold bn at h
   split at h
   · rw [P.ahb] at h; exact Eq.trans (by kernel_rfl) h
   · cases h
theorem ok : Proved Tryz.prog GLO.gx 89 spec := eu _ ok0
end jy

end
