/-
  XmssHypers, part 15: an interpreter of my own over abstract values, the pure functions, the walks and the plain law.
-/

import Derived.Test.YtjhnljhjpnjieaaGreatDoorXmssHypersH
import Derived.Test.YtjhnljhjpnjieaaGreatDoorXmssHypersG
import Derived.Test.YtjhnljhjpnjieaaGreatDoorProg
import Derived.Test.YtjhnljhjpnjieaaGreatDoorXmssHypersN
import Derived.KernelRfl
import Derived.Test.YtjhnljhjpnjieaaGreatDoorXmssHypersM
import Derived.Test.YtjhnljhjpnjieaaGreatDoorXmssHypersK

section
open Go Go.Abs Go.Proofs
set_option maxRecDepth 100000
set_option maxHeartbeats 0
set_option linter.unusedVariables false

namespace jf
abbrev ccg := P.zt8
def bz9 : ccg → ASt := fun (d, a, b, c) => ⟨[(0, .ptr 0 0), (2, .ptr 2 0), (4, .v (.int .i64 d))], [(1, some ⟨.box 107 [.arr .u64 25 a], false⟩), (0, some ⟨.box 107 [.arr .u64 25 b], false⟩), (2, some ⟨.box 167 [.arr .u64 5 c], false⟩)], 3, 44⟩
def b6z : ASt → Option ccg
 | ⟨[(0, .ptr 0 0), (2, .ptr 2 0), (4, .v (.int .i64 d))], [(1, some ⟨.box 107 [.arr .u64 25 a], false⟩), (0, some ⟨.box 107 [.arr .u64 25 b], false⟩), (2, some ⟨.box 167 [.arr .u64 5 c], false⟩)], 3, 44⟩ => some (d, a, b, c)
 | _ => none
theorem btc (st) (x) (h : b6z st = some x) : st = bz9 x := by
 unfold b6z at h
 split at h
 · cases h; rfl
 · cases h
abbrev Y2_2 := P.zy8
abbrev ccm := P.zt9
def bvi : ccm → ASt := fun (f, g, h, i, e, a, b, c, d) => ⟨[(0, .ptr 0 0), (1, .v (.int .u64 f)), (4, .ptr 3 0), (5, .v (.int .i64 g)), (6, .v (.int .u64 h)), (7, .v (.int .i64 i)), (16, .v (.int .i64 e))], [(3, some ⟨.box 167 [.arr .u64 5 a], false⟩), (2, some ⟨.box 167 [.arr .u64 5 b], false⟩), (1, some ⟨.box 107 [.arr .u64 25 c], false⟩), (0, some ⟨.box 107 [.arr .u64 25 d], false⟩)], 4, 116⟩
def b6s : ASt → Option ccm
 | ⟨[(0, .ptr 0 0), (1, .v (.int .u64 f)), (4, .ptr 3 0), (5, .v (.int .i64 g)), (6, .v (.int .u64 h)), (7, .v (.int .i64 i)), (16, .v (.int .i64 e))], [(3, some ⟨.box 167 [.arr .u64 5 a], false⟩), (2, some ⟨.box 167 [.arr .u64 5 b], false⟩), (1, some ⟨.box 107 [.arr .u64 25 c], false⟩), (0, some ⟨.box 107 [.arr .u64 25 d], false⟩)], 4, 116⟩ => some (f, g, h, i, e, a, b, c, d)
 | _ => none
theorem btb (st) (x) (h : b6s st = some x) : st = bvi x := by
 unfold b6s at h
 split at h
 · cases h; rfl
 · cases h
abbrev Y1_6 := P.zy9
abbrev ccq := P.bxn
def bx5 : ccq → ASt := fun (f, e, a, b, c, d) => ⟨[(0, .ptr 0 0), (1, .v (.int .u64 f)), (4, .ptr 3 0), (16, .v (.int .i64 e))], [(0, some ⟨.box 107 [.arr .u64 25 a], false⟩), (1, some ⟨.box 107 [.arr .u64 25 b], false⟩), (2, some ⟨.box 167 [.arr .u64 5 c], false⟩), (3, some ⟨.box 167 [.arr .u64 5 d], false⟩)], 4, 116⟩
def b33 : ASt → Option ccq
 | ⟨[(0, .ptr 0 0), (1, .v (.int .u64 f)), (4, .ptr 3 0), (16, .v (.int .i64 e))], [(0, some ⟨.box 107 [.arr .u64 25 a], false⟩), (1, some ⟨.box 107 [.arr .u64 25 b], false⟩), (2, some ⟨.box 167 [.arr .u64 5 c], false⟩), (3, some ⟨.box 167 [.arr .u64 5 d], false⟩)], 4, 116⟩ => some (f, e, a, b, c, d)
 | _ => none
theorem bsy (st) (x) (h : b33 st = some x) : st = bx5 x := by
 unfold b33 at h
 split at h
 · cases h; rfl
 · cases h
abbrev Y1_2 := P.b54
abbrev bza := P.byt
def bm2 : bza → ASt := fun (g, h, e, f, a, b, c, d) => ⟨[(0, .ptr 0 0), (1, .v (.int .u64 g)), (8, .v (.int .u64 h)), (51, .arr .i64 24 e), (52, .v (.int .i64 f))], [(3, some ⟨.box 167 [.arr .u64 5 a], false⟩), (2, some ⟨.box 167 [.arr .u64 5 b], false⟩), (1, some ⟨.box 107 [.arr .u64 25 c], false⟩), (0, some ⟨.box 107 [.arr .u64 25 d], false⟩)], 4, 116⟩
def bsu : ASt → Option bza
 | ⟨[(0, .ptr 0 0), (1, .v (.int .u64 g)), (8, .v (.int .u64 h)), (51, .arr .i64 24 e), (52, .v (.int .i64 f))], [(3, some ⟨.box 167 [.arr .u64 5 a], false⟩), (2, some ⟨.box 167 [.arr .u64 5 b], false⟩), (1, some ⟨.box 107 [.arr .u64 25 c], false⟩), (0, some ⟨.box 107 [.arr .u64 25 d], false⟩)], 4, 116⟩ => some (g, h, e, f, a, b, c, d)
 | _ => none
theorem bqz (st) (x) (h : bsu st = some x) : st = bm2 x := by
 unfold bsu at h
 split at h
 · cases h; rfl
 · cases h
abbrev b3p := P.b4f
abbrev byx := P.b0s
def bmh : byx → ASt := fun (h, f, g, a, b, c, d, e) => ⟨[(0, .ptr 0 0), (1, .v (.int .u64 h)), (11, .v (.int .i64 f)), (12, .ptr 4 0), (83, .v (.int .i64 g))], [(3, some ⟨.box 167 [.arr .u64 5 a], false⟩), (2, some ⟨.box 167 [.arr .u64 5 b], false⟩), (1, some ⟨.box 107 [.arr .u64 25 c], false⟩), (0, some ⟨.box 107 [.arr .u64 25 d], false⟩), (4, some ⟨.box 167 [.arr .u64 5 e], false⟩)], 5, 116⟩
def bs0 : ASt → Option byx
 | ⟨[(0, .ptr 0 0), (1, .v (.int .u64 h)), (11, .v (.int .i64 f)), (12, .ptr 4 0), (83, .v (.int .i64 g))], [(3, some ⟨.box 167 [.arr .u64 5 a], false⟩), (2, some ⟨.box 167 [.arr .u64 5 b], false⟩), (1, some ⟨.box 107 [.arr .u64 25 c], false⟩), (0, some ⟨.box 107 [.arr .u64 25 d], false⟩), (4, some ⟨.box 167 [.arr .u64 5 e], false⟩)], 5, 116⟩ => some (h, f, g, a, b, c, d, e)
 | _ => none
theorem bpx (st) (x) (h : bs0 st = some x) : st = bmh x := by
 unfold bs0 at h
 split at h
 · cases h; rfl
 · cases h
abbrev b8t := P.b38
abbrev bz4 := P.b0o
def bod : bz4 → ASt := fun (f, e, a, b, c, d) => ⟨[(0, .ptr 0 0), (1, .v (.int .u64 f)), (11, .v (.int .i64 e))], [(0, some ⟨.box 107 [.arr .u64 25 a], false⟩), (1, some ⟨.box 107 [.arr .u64 25 b], false⟩), (2, some ⟨.box 167 [.arr .u64 5 c], false⟩), (3, some ⟨.box 167 [.arr .u64 5 d], false⟩)], 4, 116⟩
def bum : ASt → Option bz4
 | ⟨[(0, .ptr 0 0), (1, .v (.int .u64 f)), (11, .v (.int .i64 e))], [(0, some ⟨.box 107 [.arr .u64 25 a], false⟩), (1, some ⟨.box 107 [.arr .u64 25 b], false⟩), (2, some ⟨.box 167 [.arr .u64 5 c], false⟩), (3, some ⟨.box 167 [.arr .u64 5 d], false⟩)], 4, 116⟩ => some (f, e, a, b, c, d)
 | _ => none
theorem bqd (st) (x) (h : bum st = some x) : st = bod x := by
 unfold bum at h
 split at h
 · cases h; rfl
 · cases h
abbrev cay := P.b45
abbrev X2 := P.bwy
def S2 : X2 → ASt := fun (c, d, a, b) => ⟨[(1, .ptr 0 0), (2, .ptr 1 0), (5, .arr .u64 24 c), (6, .v (.int .i64 d))], [(0, some ⟨.box 107 [.arr .u64 25 a], false⟩), (1, some ⟨.box 107 [.arr .u64 25 b], false⟩)], 2, 13⟩
def V2 : ASt → Option X2
 | ⟨[(1, .ptr 0 0), (2, .ptr 1 0), (5, .arr .u64 24 c), (6, .v (.int .i64 d))], [(0, some ⟨.box 107 [.arr .u64 25 a], false⟩), (1, some ⟨.box 107 [.arr .u64 25 b], false⟩)], 2, 13⟩ => some (c, d, a, b)
 | _ => none
theorem axf (st) (x) (h : V2 st = some x) : st = S2 x := by
 unfold V2 at h
 split at h
 · cases h; rfl
 · cases h
abbrev Y2 := P.b8h
def cb2 (K : AExit → ASt → Option R) : Y2_2 → Option R := (fun x => K (.exit 0) (bz9 x))
noncomputable def L2_2 : oz := fun st K => abx (b6z st) fun x => P.zm8 x (cb2 K)
def cc6 (K : AExit → ASt → Option R) : Y1_6 → Option R := (fun x => K (.exit 2) (bvi x))
noncomputable def L1_6 : oz := fun st K => abx (b6s st) fun x => P.zm9 x (cc6 K)
def cdk (K : AExit → ASt → Option R) : Y1_2 → Option R := (fun x => K (.exit 0) (bx5 x))
noncomputable def L1_2 : oz := fun st K => abx (b33 st) fun x => P.b9h x (cdk K)
def bwe (K : AExit → ASt → Option R) : b3p → Option R := (fun x => K (.exit 4) (bm2 x))
noncomputable def b7l : oz := fun st K => abx (bsu st) fun x => P.b3u x (bwe K)
def bxm (K : AExit → ASt → Option R) : b8t → Option R := (fun x => K (.exit 8) (bmh x))
noncomputable def b77 : oz := fun st K => abx (bs0 st) fun x => P.b95 x (bxm K)
def byi (K : AExit → ASt → Option R) : cay → Option R := (fun x => K (.exit 6) (bod x))
noncomputable def b76 : oz := fun st K => abx (bum st) fun x => P.b8o x (byi K)
def E2 (K : AExit → ASt → Option R) : Y2 → Option R := (fun x => K (.exit 0) (S2 x))
noncomputable def L2 : oz := fun st K => abx (V2 st) fun x => P.ca0 x (E2 K)
noncomputable def D2 : Ctx := ({ P := Tryz.prog, G := [(158, jk.spec)], globs := GLO.gx, hints := [(2, ⟨[0, 2, 4], [], [2], [], none, [], []⟩)], loops := [(2, L2_2)], inl := [] } : Ctx)
noncomputable def D1 : Ctx := ({ P := Tryz.prog, G := [(158, jk.spec)], globs := GLO.gx, hints := [(21, ⟨[0, 1, 11, 12, 83], [], [], [], none, [], []⟩), (17, ⟨[0, 1, 11], [], [], [], none, [], []⟩), (12, ⟨[0, 1, 8, 51, 52], [], [], [], none, [], []⟩), (6, ⟨[0, 1, 4, 5, 6, 7, 16], [], [], [], none, [], []⟩), (2, ⟨[0, 1, 4, 16], [], [], [], none, [], []⟩)], loops := [(6, L1_6), (2, L1_2), (12, b7l), (21, b77), (17, b76)], inl := [(157, ahi D2 Tryz.f157)] } : Ctx)
noncomputable def D : Ctx := ({ P := Tryz.prog, G := [(158, jk.spec)], globs := GLO.gx, hints := [(2, ⟨[1, 2, 5, 6], [], [2], [], none, [], []⟩)], loops := [(2, L2)], inl := [(151, ahi D1 Tryz.f151)] } : Ctx)
theorem brd (K) (next) (x) : jo D2 (dz Tryz.f157 2) K next (bz9 x) = P.zs8 x (fun x => next (bz9 x)) (cb2 K) := by kernel_rfl
theorem bur : jl D2 (dz Tryz.f157 2) := gq bz9 btc (by kernel_rfl) P.ze8 brd
theorem brc (K) (next) (x) : jo D1 (dz Tryz.f151 6) K next (bvi x) = P.zs9 x (fun x => next (bvi x)) (cc6 K) := by kernel_rfl
theorem bs6 : jl D1 (dz Tryz.f151 6) := gq bvi btb (by kernel_rfl) P.ze9 brc
theorem bpu (K) (next) (x) : jo D1 (dz Tryz.f151 2) K next (bx5 x) = P.by3 x (fun x => next (bx5 x)) (cdk K) := by kernel_rfl
theorem bte : jl D1 (dz Tryz.f151 2) := gq bx5 bsy (by kernel_rfl) P.cc8 bpu
theorem bok (K) (next) (x) : jo D1 (dz Tryz.f151 12) K next (bm2 x) = P.bwk x (fun x => next (bm2 x)) (bwe K) := by kernel_rfl
theorem bq0 : jl D1 (dz Tryz.f151 12) := gq bm2 bqz (by kernel_rfl) P.cdy bok
theorem bmq (K) (next) (x) : jo D1 (dz Tryz.f151 21) K next (bmh x) = P.zs12 x (fun x => next (bmh x)) (bxm K) := by kernel_rfl
theorem bp5 : jl D1 (dz Tryz.f151 21) := gq bmh bpx (by kernel_rfl) P.cdc bmq
theorem bms (K) (next) (x) : jo D1 (dz Tryz.f151 17) K next (bod x) = P.bxw x (fun x => next (bod x)) (byi K) := by kernel_rfl
theorem bp8 : jl D1 (dz Tryz.f151 17) := gq bod bqd (by kernel_rfl) P.cdr bms
theorem anm (K) (next) (x) : jo D (dz Tryz.f140 2) K next (S2 x) = P.byl x (fun x => next (S2 x)) (E2 K) := by kernel_rfl
theorem azp : jl D (dz Tryz.f140 2) := gq S2 axf (by kernel_rfl) P.ccf anm
theorem loops : d9 (Tryz.f140.body.getD .skip) = [dz Tryz.f140 2] := by kernel_rfl
theorem ani : d9 (Tryz.f151.body.getD .skip) = [dz Tryz.f151 2, dz Tryz.f151 6, dz Tryz.f151 12, dz Tryz.f151 17, dz Tryz.f151 21] := by kernel_rfl
theorem bgn : d9 (Tryz.f157.body.getD .skip) = [dz Tryz.f157 2] := by kernel_rfl
noncomputable def bn : Abs.Spec := fun args K => match args with
 | [.arr .u64 25 a] => P.jf a (fun b => K (.arr .u64 25 b))
 | _ => none
noncomputable def spec : Abs.Spec := bn
theorem ok0 : Proved Tryz.prog GLO.gx 140 bn := by
 refine dh (D := D) (fn := Tryz.f140) (c := Tryz.f140.body.getD .skip) [.any] (by kernel_rfl) (bf (by kernel_rfl)) (by kernel_rfl) (by kernel_rfl) (by kernel_rfl) ⟨jk.ok, trivial⟩ ⟨asi (D := D1) (D' := D) (fn := Tryz.f151) (c := Tryz.f151.body.getD .skip) rfl rfl (by kernel_rfl) (bf (by kernel_rfl)) (by kernel_rfl) (by kernel_rfl) (by kernel_rfl) ⟨jk.ok, trivial⟩ ⟨asi (D := D2) (D' := D1) (fn := Tryz.f157) (c := Tryz.f157.body.getD .skip) rfl rfl (by kernel_rfl) (bf (by kernel_rfl)) (by kernel_rfl) (by kernel_rfl) (by kernel_rfl) ⟨jk.ok, trivial⟩ trivial (by rw [bgn]; exact ⟨bur, trivial⟩) (fun _ _ _ _ _ h => h), trivial⟩ (by rw [ani]; exact ⟨bte, bs6, bq0, bp8, bp5, trivial⟩) (fun _ _ _ _ _ h => h), trivial⟩ ?_ ?_
 · rw [loops]; exact ⟨azp, trivial⟩
 · intro args K r h
   unfold bn at h
   split at h
   · rw [P.akr] at h; exact Eq.trans (by kernel_rfl) h
   · cases h
theorem ok : Proved Tryz.prog GLO.gx 140 spec := ok0
end jf

namespace mq
noncomputable def D : Ctx := ({ P := Tryz.prog, G := [], globs := GLO.gx, hints := [], loops := [], inl := [] } : Ctx)
theorem loops : d9 (Tryz.f138.body.getD .skip) = [] := by kernel_rfl
noncomputable def bn : Abs.Spec := fun args K => match args with
 | [.v (.int .i64 a)] => P.mq a (fun b => K (.v (.int .i64 b)))
 | _ => none
noncomputable def spec : Abs.Spec := bn
theorem ok0 : Proved Tryz.prog GLO.gx 138 bn := by
 refine dh (D := D) (fn := Tryz.f138) (c := Tryz.f138.body.getD .skip) [.any] (by kernel_rfl) (bf (by kernel_rfl)) (by kernel_rfl) (by kernel_rfl) (by kernel_rfl) trivial trivial ?_ ?_
 · rw [loops]; exact trivial
 · intro args K r h
   unfold bn at h
   split at h
   · rw [P.apn] at h; exact Eq.trans (by kernel_rfl) h
   · cases h
theorem ok : Proved Tryz.prog GLO.gx 138 spec := ok0
end mq

namespace p9
abbrev X5 := P.bzq
def S5 : X5 → ASt := fun (k, l, i, j, a, b, c, d, e, f, g, h) => ⟨[(1, .sl (.ints .u8 k)), (2, .ptr 0 0), (4, .ptr 1 0), (5, .v (.int .i64 l)), (14, .v (.int .i64 i)), (15, .v (.int .i64 j))], [(0, some ⟨.box 109 [.v (.int .i64 a), .arr .u64 25 b, .v (.int .i64 c), .v (.bool d)], false⟩), (1, some ⟨.box 109 [.v (.int .i64 e), .arr .u64 25 f, .v (.int .i64 g), .v (.bool h)], false⟩)], 40, 40⟩
def V5 : ASt → Option X5
 | ⟨[(1, .sl (.ints .u8 k)), (2, .ptr 0 0), (4, .ptr 1 0), (5, .v (.int .i64 l)), (14, .v (.int .i64 i)), (15, .v (.int .i64 j))], [(0, some ⟨.box 109 [.v (.int .i64 a), .arr .u64 25 b, .v (.int .i64 c), .v (.bool d)], false⟩), (1, some ⟨.box 109 [.v (.int .i64 e), .arr .u64 25 f, .v (.int .i64 g), .v (.bool h)], false⟩)], 40, 40⟩ => some (k, l, i, j, a, b, c, d, e, f, g, h)
 | _ => none
theorem al9 (st) (x) (h : V5 st = some x) : st = S5 x := by
 unfold V5 at h
 split at h
 · cases h; rfl
 · cases h
abbrev Y5 := P.b4g
def E5 (K : AExit → ASt → Option R) : Y5 → Option R := (fun x => K (.exit 0) (S5 x))
noncomputable def L5 : oz := fun st K => abx (V5 st) fun x => P.b3l x (E5 K)
noncomputable def D1 : Ctx := ({ P := Tryz.prog, G := [(138, mq.spec), (140, jf.spec)], globs := GLO.gx, hints := [], loops := [], inl := [] } : Ctx)
noncomputable def D : Ctx := ({ P := Tryz.prog, G := [(138, mq.spec), (140, jf.spec)], globs := GLO.gx, hints := [(5, ⟨[1, 2, 4, 5, 14, 15], [], [4], [], some (40, [0, 1]), [], []⟩)], loops := [(5, L5)], inl := [(139, ahi D1 Tryz.f139)] } : Ctx)
theorem aey (K) (next) (x) : jo D (dz Tryz.f122 5) K next (S5 x) = P.bz7 x (fun x => next (S5 x)) (E5 K) := by kernel_rfl
theorem al6 : jl D (dz Tryz.f122 5) := gq S5 al9 (by kernel_rfl) P.cdx aey
theorem loops : d9 (Tryz.f122.body.getD .skip) = [dz Tryz.f122 5] := by kernel_rfl
theorem ani : d9 (Tryz.f139.body.getD .skip) = [] := by kernel_rfl
noncomputable def bn : Abs.Spec := fun args K => match args with
 | [.agg [.v (.int .i64 c), .arr .u64 25 a, .v (.int .i64 g), .v (.bool e)], .sl (.ints .u8 i)] => P.p9 c a g e i (fun d b h f => K (.agg [.v (.int .i64 d), .arr .u64 25 b, .v (.int .i64 h), .v (.bool f)]))
 | _ => none
noncomputable def spec : Abs.Spec := fun args K => bn (og [.any, .sl (.ints .u8 [])] args) K
theorem ok0 : Proved Tryz.prog GLO.gx 122 bn := by
 refine dh (D := D) (fn := Tryz.f122) (c := Tryz.f122.body.getD .skip) [.any] (by kernel_rfl) (bf (by kernel_rfl)) (by kernel_rfl) (by kernel_rfl) (by kernel_rfl) ⟨mq.ok, jf.ok, trivial⟩ ⟨asi (D := D1) (D' := D) (fn := Tryz.f139) (c := Tryz.f139.body.getD .skip) rfl rfl (by kernel_rfl) (bf (by kernel_rfl)) (by kernel_rfl) (by kernel_rfl) (by kernel_rfl) ⟨mq.ok, jf.ok, trivial⟩ trivial (by rw [ani]; exact trivial) (fun _ _ _ _ _ h => h), trivial⟩ ?_ ?_
 · rw [loops]; exact ⟨al6, trivial⟩
 · intro args K r h
   unfold bn at h
   split at h
   · rw [P.amn] at h; exact Eq.trans (by kernel_rfl) h
   · cases h
theorem ok : Proved Tryz.prog GLO.gx 122 spec := eu _ ok0
end p9

namespace aep
noncomputable def D : Ctx := ({ P := Tryz.prog, G := [(138, mq.spec)], globs := GLO.gx, hints := [], loops := [], inl := [] } : Ctx)
theorem loops : d9 (Tryz.f121.body.getD .skip) = [] := by kernel_rfl
noncomputable def bn : Abs.Spec := fun args K => match args with
 | [.v (.int .i64 e)] => P.aep e (fun b a d c f => K (.tuple [.agg [.v (.int .i64 b), .arr .u64 25 a, .v (.int .i64 d), .v (.bool c)], .v (.int .i64 f)]))
 | _ => none
noncomputable def spec : Abs.Spec := bn
theorem ok0 : Proved Tryz.prog GLO.gx 121 bn := by
 refine dh (D := D) (fn := Tryz.f121) (c := Tryz.f121.body.getD .skip) [.any, .any] (by kernel_rfl) (bf (by kernel_rfl)) (by kernel_rfl) (by kernel_rfl) (by kernel_rfl) ⟨mq.ok, trivial⟩ trivial ?_ ?_
 · rw [loops]; exact trivial
 · intro args K r h
   unfold bn at h
   split at h
   · rw [P.as2] at h; exact Eq.trans (by kernel_rfl) h
   · cases h
theorem ok : Proved Tryz.prog GLO.gx 121 spec := ok0
end aep

namespace vo
noncomputable def D1 : Ctx := ({ P := Tryz.prog, G := [(138, mq.spec), (140, jf.spec)], globs := GLO.gx, hints := [], loops := [], inl := [] } : Ctx)
noncomputable def D : Ctx := ({ P := Tryz.prog, G := [(138, mq.spec), (140, jf.spec)], globs := GLO.gx, hints := [], loops := [], inl := [(139, ahi D1 Tryz.f139)] } : Ctx)
theorem loops : d9 (Tryz.f141.body.getD .skip) = [] := by kernel_rfl
theorem ani : d9 (Tryz.f139.body.getD .skip) = [] := by kernel_rfl
noncomputable def bn : Abs.Spec := fun args K => match args with
 | [.agg [.v (.int .i64 c), .arr .u64 25 a, .v (.int .i64 g), .v (.bool e)]] => P.vo c a g e (fun d b h f => K (.agg [.v (.int .i64 d), .arr .u64 25 b, .v (.int .i64 h), .v (.bool f)]))
 | _ => none
noncomputable def spec : Abs.Spec := bn
theorem ok0 : Proved Tryz.prog GLO.gx 141 bn := by
 refine dh (D := D) (fn := Tryz.f141) (c := Tryz.f141.body.getD .skip) [.any] (by kernel_rfl) (bf (by kernel_rfl)) (by kernel_rfl) (by kernel_rfl) (by kernel_rfl) ⟨mq.ok, jf.ok, trivial⟩ ⟨asi (D := D1) (D' := D) (fn := Tryz.f139) (c := Tryz.f139.body.getD .skip) rfl rfl (by kernel_rfl) (bf (by kernel_rfl)) (by kernel_rfl) (by kernel_rfl) (by kernel_rfl) ⟨mq.ok, jf.ok, trivial⟩ trivial (by rw [ani]; exact trivial) (fun _ _ _ _ _ h => h), trivial⟩ ?_ ?_
 · rw [loops]; exact trivial
 · intro args K r h
   unfold bn at h
   split at h
   · rw [P.amu] at h; exact Eq.trans (by kernel_rfl) h
   · cases h
theorem ok : Proved Tryz.prog GLO.gx 141 spec := ok0
end vo

namespace su
abbrev X7 := P.bzc
def S7 : X7 → ASt := fun (i, j, a, b, c, d, e, f, g, h, k) => ⟨[(2, .ptr 0 0), (4, .ptr 1 0), (6, .own 2), (19, .v (.int .i64 i)), (20, .v (.int .i64 j))], [(0, some ⟨.box 109 [.v (.int .i64 a), .arr .u64 25 b, .v (.int .i64 c), .v (.bool d)], false⟩), (1, some ⟨.box 109 [.v (.int .i64 e), .arr .u64 25 f, .v (.int .i64 g), .v (.bool h)], false⟩), (2, some ⟨.row 5 (.ints .u8 k), false⟩)], 40, 56⟩
def V7 : ASt → Option X7
 | ⟨[(2, .ptr 0 0), (4, .ptr 1 0), (6, .own 2), (19, .v (.int .i64 i)), (20, .v (.int .i64 j))], [(0, some ⟨.box 109 [.v (.int .i64 a), .arr .u64 25 b, .v (.int .i64 c), .v (.bool d)], false⟩), (1, some ⟨.box 109 [.v (.int .i64 e), .arr .u64 25 f, .v (.int .i64 g), .v (.bool h)], false⟩), (2, some ⟨.row 5 (.ints .u8 k), false⟩)], 40, 56⟩ => some (i, j, a, b, c, d, e, f, g, h, k)
 | _ => none
theorem bhu (st) (x) (h : V7 st = some x) : st = S7 x := by
 unfold V7 at h
 split at h
 · cases h; rfl
 · cases h
abbrev Y7 := P.cbk
def E7 (K : AExit → ASt → Option R) : Y7 → Option R := (fun x => K (.exit 0) (S7 x))
noncomputable def L7 : oz := fun st K => abx (V7 st) fun x => P.b6w x (E7 K)
noncomputable def D : Ctx := ({ P := Tryz.prog, G := [(138, mq.spec), (140, jf.spec), (141, vo.spec)], globs := GLO.gx, hints := [(7, ⟨[2, 4, 6, 19, 20], [], [4, 5], [], some (40, [0, 1, 2]), [], []⟩)], loops := [(7, L7)], inl := [] } : Ctx)
theorem ayk (K) (next) (x) : jo D (dz Tryz.f124 7) K next (S7 x) = P.bvq x (fun x => next (S7 x)) (E7 K) := by kernel_rfl
theorem biu : jl D (dz Tryz.f124 7) := gq S7 bhu (by kernel_rfl) P.cc7 ayk
theorem loops : d9 (Tryz.f124.body.getD .skip) = [dz Tryz.f124 7] := by kernel_rfl
noncomputable def bn : Abs.Spec := fun args K => match args with
 | [.agg [.v (.int .i64 c), .arr .u64 25 a, .v (.int .i64 g), .v (.bool e)], .v (.int .i64 i)] => P.su c a g e i (fun d b h f j => K (.tuple [.agg [.v (.int .i64 d), .arr .u64 25 b, .v (.int .i64 h), .v (.bool f)], .fr 5 (.ints .u8 j)]))
 | _ => none
noncomputable def spec : Abs.Spec := bn
theorem ok0 : Proved Tryz.prog GLO.gx 124 bn := by
 refine dh (D := D) (fn := Tryz.f124) (c := Tryz.f124.body.getD .skip) [.any, .fr 5 (.ints .u8 [])] (by kernel_rfl) (bf (by kernel_rfl)) (by kernel_rfl) (by kernel_rfl) (by kernel_rfl) ⟨mq.ok, jf.ok, vo.ok, trivial⟩ trivial ?_ ?_
 · rw [loops]; exact ⟨biu, trivial⟩
 · intro args K r h
   unfold bn at h
   split at h
   · rw [P.akq] at h; exact Eq.trans (by kernel_rfl) h
   · cases h
theorem ok : Proved Tryz.prog GLO.gx 124 spec := ok0
end su

namespace jg
noncomputable def D : Ctx := ({ P := Tryz.prog, G := [(94, l5.spec), (122, p9.spec), (124, su.spec)], globs := GLO.gx, hints := [], loops := [], inl := [] } : Ctx)
theorem loops : d9 (Tryz.f123.body.getD .skip) = [] := by kernel_rfl
noncomputable def bn : Abs.Spec := fun args K => match args with
 | [.arr .u8 32 e, .sl (.ints .u8 f), .sta [.v (.int .i64 b), .arr .u64 25 a, .v (.int .i64 d), .v (.bool c)], .sta [.v (.int .i64 g)]] => P.jg e f b a d c g (fun h => K (.fr 5 (.ints .u8 h)))
 | _ => none
noncomputable def spec : Abs.Spec := fun args K => bn (og [.any, .sl (.ints .u8 []), .any, .any] args) K
theorem ok0 : Proved Tryz.prog GLO.gx 123 bn := by
 refine dh (D := D) (fn := Tryz.f123) (c := Tryz.f123.body.getD .skip) [.fr 5 (.ints .u8 [])] (by kernel_rfl) (bf (by kernel_rfl)) (by kernel_rfl) (by kernel_rfl) (by kernel_rfl) ⟨l5.ok, p9.ok, su.ok, trivial⟩ trivial ?_ ?_
 · rw [loops]; exact trivial
 · intro args K r h
   unfold bn at h
   split at h
   · rw [P.aku] at h; exact Eq.trans (by kernel_rfl) h
   · cases h
theorem ok : Proved Tryz.prog GLO.gx 123 spec := eu _ ok0
end jg

namespace adn
noncomputable def D : Ctx := ({ P := Tryz.prog, G := [(121, aep.spec), (122, p9.spec), (123, jg.spec)], globs := GLO.gx, hints := [], loops := [], inl := [], sta := true } : Ctx)
theorem loops : d9 (Tryz.f110.body.getD .skip) = [] := by kernel_rfl
noncomputable def bn : Abs.Spec := fun args K => match args with
 | [.v (.int .i64 f), .sl (.ints .u8 g)] => P.adn f g (fun b a d c e => K (.fn (.func 123) [] [.sta [.v (.int .i64 b), .arr .u64 25 a, .v (.int .i64 d), .v (.bool c)], .sta [.v (.int .i64 e)]]))
 | _ => none
noncomputable def spec : Abs.Spec := fun args K => bn (og [.any, .sl (.ints .u8 [])] args) K
theorem ok0 : Proved Tryz.prog GLO.gx 110 bn := by
 refine dh (D := D) (fn := Tryz.f110) (c := Tryz.f110.body.getD .skip) [.any] (by kernel_rfl) (bf (by kernel_rfl)) (by kernel_rfl) (by kernel_rfl) (by kernel_rfl) ⟨aep.ok, p9.ok, jg.ok, trivial⟩ trivial ?_ ?_
 · rw [loops]; exact trivial
 · intro args K r h
   unfold bn at h
   split at h
   · rw [P.ap2] at h; exact Eq.trans (by kernel_rfl) h
   · cases h
theorem ok : Proved Tryz.prog GLO.gx 110 spec := eu _ ok0
end adn

namespace qy
noncomputable def D : Ctx := ({ P := Tryz.prog, G := [(36, yw.spec), (110, adn.spec), (111, acp.spec), (123, jg.spec), (126, je.spec)], globs := GLO.gx, hints := [], loops := [], inl := [] } : Ctx)
theorem loops : d9 (Tryz.f87.body.getD .skip) = [] := by kernel_rfl
noncomputable def bn : Abs.Spec := fun args K => match args with
 | [.agg [.v (.int .i64 y), .v (.int .i64 z), .v (.int .i64 A), .v (.int .i64 B), .v (.int .i64 C), .v (.bool p)], .sl (.ints .u8 F)] => P.qy y z A B C p F (fun q r s t u l w d a m k n e b f g o h c i j G => K (.tuple [.agg [.v (.int .i64 q), .v (.int .i64 r), .v (.int .i64 s), .v (.int .i64 t), .v (.int .i64 u), .v (.bool l), .alt w (.func 123) [] [.sta [.v (.int .i64 d), .arr .u64 25 a, .v (.int .i64 m), .v (.bool k)], .sta [.v (.int .i64 n)]] (.func 126) [] [.sta [.v (.int .i64 e), .arr .u64 8 b, .sl (.ints .u8 f), .v (.int .u64 g)], .sta [.v (.int .i64 o)], .sta [.v (.int .i64 h), .arr .u64 8 c, .sl (.ints .u8 i), .v (.int .u64 j)]]], .v (.bool G)]))
 | _ => none
noncomputable def spec : Abs.Spec := fun args K => bn (og [.any, .sl (.ints .u8 [])] args) K
theorem ok0 : Proved Tryz.prog GLO.gx 87 bn := by
 refine dh (D := D) (fn := Tryz.f87) (c := Tryz.f87.body.getD .skip) [.agg [.any, .any, .any, .any, .any, .any, .alt (.func 123) [] [.sta [.v (.int .i64 0), .arr .u64 25 [], .v (.int .i64 0), .v (.bool false)], .sta [.v (.int .i64 0)]] (.func 126) [] [.sta [.v (.int .i64 0), .arr .u64 8 [], .sl (.ints .u8 []), .v (.int .u64 0)], .sta [.v (.int .i64 0)], .sta [.v (.int .i64 0), .arr .u64 8 [], .sl (.ints .u8 []), .v (.int .u64 0)]]], .any] (by kernel_rfl) (bf (by kernel_rfl)) (by kernel_rfl) (by kernel_rfl) (by kernel_rfl) ⟨yw.ok, adn.ok, acp.ok, jg.ok, je.ok, trivial⟩ trivial ?_ ?_
 · rw [loops]; exact trivial
 · intro args K r h
   unfold bn at h
   split at h
   · rw [P.alu] at h; exact Eq.trans (by kernel_rfl) h
   · cases h
theorem ok : Proved Tryz.prog GLO.gx 87 spec := eu _ ok0
end qy

namespace kr
abbrev X2 := P.b03
def S2 : X2 → ASt := fun (z, A, y, o, p, q, r, s, t, u, a, b, c, d, e, f, g, h, i, j, k, l, m, n, w) => ⟨[(2, .sl (.ints .u8 z)), (4, .v (.int .u32 A)), (5, .ptr 0 0), (6, .ptr 1 0), (11, .v (.int .u32 y))], [(0, some ⟨.box 97 [.v (.int .i64 o), .v (.int .i64 p), .v (.int .i64 q), .v (.int .i64 r), .v (.int .i64 s), .v (.bool t), .alt u (.func 123) [] [.sta [.v (.int .i64 a), .arr .u64 25 b, .v (.int .i64 c), .v (.bool d)], .sta [.v (.int .i64 e)]] (.func 126) [] [.sta [.v (.int .i64 f), .arr .u64 8 g, .sl (.ints .u8 h), .v (.int .u64 i)], .sta [.v (.int .i64 j)], .sta [.v (.int .i64 k), .arr .u64 8 l, .sl (.ints .u8 m), .v (.int .u64 n)]]], false⟩), (1, some ⟨.box 25 [.arr .u8 32 w], false⟩)], 2, 27⟩
def V2 : ASt → Option X2
 | ⟨[(2, .sl (.ints .u8 z)), (4, .v (.int .u32 A)), (5, .ptr 0 0), (6, .ptr 1 0), (11, .v (.int .u32 y))], [(0, some ⟨.box 97 [.v (.int .i64 o), .v (.int .i64 p), .v (.int .i64 q), .v (.int .i64 r), .v (.int .i64 s), .v (.bool t), .alt u (.func 123) [] [.sta [.v (.int .i64 a), .arr .u64 25 b, .v (.int .i64 c), .v (.bool d)], .sta [.v (.int .i64 e)]] (.func 126) [] [.sta [.v (.int .i64 f), .arr .u64 8 g, .sl (.ints .u8 h), .v (.int .u64 i)], .sta [.v (.int .i64 j)], .sta [.v (.int .i64 k), .arr .u64 8 l, .sl (.ints .u8 m), .v (.int .u64 n)]]], false⟩), (1, some ⟨.box 25 [.arr .u8 32 w], false⟩)], 2, 27⟩ => some (z, A, y, o, p, q, r, s, t, u, a, b, c, d, e, f, g, h, i, j, k, l, m, n, w)
 | _ => none
theorem axf (st) (x) (h : V2 st = some x) : st = S2 x := by
 unfold V2 at h
 split at h
 · cases h; rfl
 · cases h
abbrev Y2 := P.b8b
def E2 (K : AExit → ASt → Option R) : Y2 → Option R := (fun x => K (.exit 0) (S2 x))
noncomputable def L2 : oz := fun st K => abx (V2 st) fun x => P.cbr x (E2 K)
noncomputable def D : Ctx := ({ P := Tryz.prog, G := [(80, ig.spec), (123, jg.spec), (126, je.spec)], globs := GLO.gx, hints := [(2, ⟨[2, 4, 5, 6, 11], [], [10], [(2, .sl (.ints .u8 []))], none, [], []⟩)], loops := [(2, L2)], inl := [] } : Ctx)
theorem anm (K) (next) (x) : jo D (dz Tryz.f89 2) K next (S2 x) = P.bwb x (fun x => next (S2 x)) (E2 K) := by kernel_rfl
theorem azp : jl D (dz Tryz.f89 2) := gq S2 axf (by kernel_rfl) P.cb9 anm
theorem loops : d9 (Tryz.f89.body.getD .skip) = [dz Tryz.f89 2] := by kernel_rfl
noncomputable def bn : Abs.Spec := fun args K => match args with
 | [.agg [.v (.int .i64 p), .v (.int .i64 q), .v (.int .i64 r), .v (.int .i64 s), .v (.int .i64 t), .v (.bool l), .alt u (.func 123) [] [.sta [.v (.int .i64 d), .arr .u64 25 a, .v (.int .i64 m), .v (.bool k)], .sta [.v (.int .i64 n)]] (.func 126) [] [.sta [.v (.int .i64 e), .arr .u64 8 b, .sl (.ints .u8 f), .v (.int .u64 g)], .sta [.v (.int .i64 o)], .sta [.v (.int .i64 h), .arr .u64 8 c, .sl (.ints .u8 i), .v (.int .u64 j)]]], .arr .u8 32 w, .sl (.ints .u8 y), .v (.int .u32 z), .v (.int .u32 A)] => P.kr p q r s t l u d a m k n e b f g o h c i j w y z A (fun B => K (.sl (.ints .u8 B)))
 | _ => none
noncomputable def spec : Abs.Spec := fun args K => bn (og [.agg [.any, .any, .any, .any, .any, .any, .alt (.func 123) [] [.sta [.v (.int .i64 0), .arr .u64 25 [], .v (.int .i64 0), .v (.bool false)], .sta [.v (.int .i64 0)]] (.func 126) [] [.sta [.v (.int .i64 0), .arr .u64 8 [], .sl (.ints .u8 []), .v (.int .u64 0)], .sta [.v (.int .i64 0)], .sta [.v (.int .i64 0), .arr .u64 8 [], .sl (.ints .u8 []), .v (.int .u64 0)]]], .any, .sl (.ints .u8 []), .any, .any] args) K
theorem ok0 : Proved Tryz.prog GLO.gx 89 bn := by
 refine dh (D := D) (fn := Tryz.f89) (c := Tryz.f89.body.getD .skip) [.sl (.ints .u8 [])] (by kernel_rfl) (bf (by kernel_rfl)) (by kernel_rfl) (by kernel_rfl) (by kernel_rfl) ⟨ig.ok, jg.ok, je.ok, trivial⟩ trivial ?_ ?_
 · rw [loops]; exact ⟨azp, trivial⟩
 · intro args K r h
   unfold bn at h
   split at h
   · rw [P.aho] at h; exact Eq.trans (by kernel_rfl) h
   · cases h
theorem ok : Proved Tryz.prog GLO.gx 89 spec := eu _ ok0
end kr

end
