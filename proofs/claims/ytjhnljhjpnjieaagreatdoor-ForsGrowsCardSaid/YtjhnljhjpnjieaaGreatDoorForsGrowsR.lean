/-
  ForsGrows, part 18: an interpreter of my own over abstract values, the pure functions, the walks and the plain law.
-/

import Derived.Test.YtjhnljhjpnjieaaGreatDoorForsGrowsL
import Derived.Test.YtjhnljhjpnjieaaGreatDoorForsGrowsG
import Derived.Test.YtjhnljhjpnjieaaGreatDoorProg
import Derived.Test.YtjhnljhjpnjieaaGreatDoorForsGrowsJ
import Derived.Test.YtjhnljhjpnjieaaGreatDoorForsGrowsQ
import Derived.KernelRfl
import Derived.Test.YtjhnljhjpnjieaaGreatDoorForsGrowsK

section
open Go Go.Abs Go.Proofs
set_option maxRecDepth 100000
set_option maxHeartbeats 0
set_option linter.unusedVariables false

namespace acu
abbrev X11 := P.bq4
def S11 : X11 → ASt := fun (g, h, i, f, a, b, c, d, j, e) => ⟨[(2, .v (.bool g)), (3, .ptr 0 0), (6, .ptr 1 0), (7, .v (.int .i64 h)), (8, .v (.int .u64 i)), (9, .ptr 2 0), (10, .ptr 3 0), (11, .own 4), (12, .ptr 5 0), (13, .v (.int .i64 f))], [(0, some ⟨.box 115 [.arr .u64 8 a], false⟩), (1, some ⟨.box 115 [.arr .u64 8 b], false⟩), (2, some ⟨.box 140 [.arr .u64 64 c], false⟩), (3, some ⟨.box 142 [.arr .u64 80 d], false⟩), (4, some ⟨.row 27 (.ints .u64 j), false⟩), (5, some ⟨.box 115 [.arr .u64 8 e], false⟩)], 6, 137⟩
def V11 : ASt → Option X11
 | ⟨[(2, .v (.bool g)), (3, .ptr 0 0), (6, .ptr 1 0), (7, .v (.int .i64 h)), (8, .v (.int .u64 i)), (9, .ptr 2 0), (10, .ptr 3 0), (11, .own 4), (12, .ptr 5 0), (13, .v (.int .i64 f))], [(0, some ⟨.box 115 [.arr .u64 8 a], false⟩), (1, some ⟨.box 115 [.arr .u64 8 b], false⟩), (2, some ⟨.box 140 [.arr .u64 64 c], false⟩), (3, some ⟨.box 142 [.arr .u64 80 d], false⟩), (4, some ⟨.row 27 (.ints .u64 j), false⟩), (5, some ⟨.box 115 [.arr .u64 8 e], false⟩)], 6, 137⟩ => some (g, h, i, f, a, b, c, d, j, e)
 | _ => none
theorem biv (st) (x) (h : V11 st = some x) : st = S11 x := by
 unfold V11 at h
 split at h
 · cases h; rfl
 · cases h
abbrev Y11 := P.bxk
abbrev X25 := P.brj
def S25 : X25 → ASt := fun (e, d, a, b, c) => ⟨[(3, .ptr 0 0), (6, .ptr 1 0), (8, .v (.int .u64 e)), (12, .ptr 5 0), (19, .v (.int .i64 d))], [(0, some ⟨.box 115 [.arr .u64 8 a], false⟩), (1, some ⟨.box 115 [.arr .u64 8 b], false⟩), (5, some ⟨.box 115 [.arr .u64 8 c], false⟩)], 80, 137⟩
def V25 : ASt → Option X25
 | ⟨[(3, .ptr 0 0), (6, .ptr 1 0), (8, .v (.int .u64 e)), (12, .ptr 5 0), (19, .v (.int .i64 d))], [(0, some ⟨.box 115 [.arr .u64 8 a], false⟩), (1, some ⟨.box 115 [.arr .u64 8 b], false⟩), (5, some ⟨.box 115 [.arr .u64 8 c], false⟩)], 80, 137⟩ => some (e, d, a, b, c)
 | _ => none
theorem bq6 (st) (x) (h : V25 st = some x) : st = S25 x := by
 unfold V25 at h
 split at h
 · cases h; rfl
 · cases h
abbrev Y25 := P.b2p
def E11 (K : AExit → ASt → Option R) : Y11 → Option R := (fun x => K (.exit 0) (S11 x))
noncomputable def L11 : qc := fun st K => adi (V11 st) fun x => P.bzf x (E11 K)
def E25 (K : AExit → ASt → Option R) : Y25 → Option R := (fun x => K (.exit 2) (S25 x))
noncomputable def L25 : qc := fun st K => adi (V25 st) fun x => P.b1e x (E25 K)
noncomputable def D : Ctx := ({ P := Tryz.prog, G := [(134, wm.spec), (135, wh.spec), (136, abt.spec), (137, yt.spec)], globs := GLO.gx, hints := [(25, ⟨[3, 6, 8, 12, 19], [], [6], [], some (80, [0, 1, 5]), [], []⟩), (11, ⟨[2, 3, 6, 7, 8, 9, 10, 11, 12, 13], [], [6], [], none, [], []⟩)], loops := [(11, L11), (25, L25)], inl := [] } : Ctx)
theorem bbz (K) (next) (x) : kr D (dn Tryz.f118 11) K next (S11 x) = P.bp2 x (fun x => next (S11 x)) (E11 K) := by kernel_rfl
theorem bic : jr D (dn Tryz.f118 11) := fu S11 biv (by kernel_rfl) P.b3s bbz
theorem bnp (K) (next) (x) : kr D (dn Tryz.f118 25) K next (S25 x) = P.bp0 x (fun x => next (S25 x)) (E25 K) := by kernel_rfl
theorem bqg : jr D (dn Tryz.f118 25) := fu S25 bq6 (by kernel_rfl) P.b4j bnp
theorem loops : cu (Tryz.f118.body.getD .skip) = [dn Tryz.f118 11, dn Tryz.f118 25] := by kernel_rfl
noncomputable def ay : Abs.Spec := fun args K => match args with
 | [.arr .u64 8 a, .sl (.ints .u8 b), .v (.bool c)] => P.acu a b c (fun d => K (.arr .u64 8 d))
 | _ => none
noncomputable def spec : Abs.Spec := fun args K => ay (om [.any, .sl (.ints .u8 []), .any] args) K
theorem ok0 : Proved Tryz.prog GLO.gx 118 ay := by
 refine bq (D := D) (fn := Tryz.f118) (c := Tryz.f118.body.getD .skip) [.any] (by kernel_rfl) (au (by kernel_rfl)) (by kernel_rfl) (by kernel_rfl) (by kernel_rfl) ⟨wm.ok, wh.ok, abt.ok, yt.ok, trivial⟩ trivial ?_ ?_
 · rw [loops]; exact ⟨bic, bqg, trivial⟩
 · intro args K r h
   unfold ay at h
   split at h
   · rw [P.aln] at h; exact Eq.trans (by kernel_rfl) h
   · cases h
theorem ok : Proved Tryz.prog GLO.gx 118 spec := d9 _ ok0
end acu

namespace ab3
abbrev X4 := P.bt1
def S4 : X4 → ASt := fun (h, i, a, b, c, d, e, f, g) => ⟨[(2, .ptr 0 0), (4, .ptr 1 0), (5, .v (.int .i64 h)), (6, .sl (.ints .u8 i))], [(0, some ⟨.box 117 [.v (.int .i64 a), .arr .u64 8 b, .sl (.ints .u8 c), .v (.int .u64 d)], false⟩), (1, some ⟨.box 117 [.v (.int .i64 e), .arr .u64 8 f, .v (.slice none 0 0), .v (.int .u64 g)], false⟩)], 40, 41⟩
def V4 : ASt → Option X4
 | ⟨[(2, .ptr 0 0), (4, .ptr 1 0), (5, .v (.int .i64 h)), (6, .sl (.ints .u8 i))], [(0, some ⟨.box 117 [.v (.int .i64 a), .arr .u64 8 b, .sl (.ints .u8 c), .v (.int .u64 d)], false⟩), (1, some ⟨.box 117 [.v (.int .i64 e), .arr .u64 8 f, .v (.slice none 0 0), .v (.int .u64 g)], false⟩)], 40, 41⟩ => some (h, i, a, b, c, d, e, f, g)
 | _ => none
theorem aqn (st) (x) (h : V4 st = some x) : st = S4 x := by
 unfold V4 at h
 split at h
 · cases h; rfl
 · cases h
abbrev Y4 := P.b09
def E4 (K : AExit → ASt → Option R) : Y4 → Option R := (fun x => K (.exit 0) (S4 x))
noncomputable def L4 : qc := fun st K => adi (V4 st) fun x => P.byp x (E4 K)
noncomputable def D : Ctx := ({ P := Tryz.prog, G := [(44, l8.spec), (117, xq.spec), (118, acu.spec)], globs := GLO.gx, hints := [(4, ⟨[2, 4, 5, 6], [], [4], [(6, .sl (.ints .u8 []))], some (40, [0, 1]), [], []⟩)], loops := [(4, L4)], inl := [] } : Ctx)
theorem ai3 (K) (next) (x) : kr D (dn Tryz.f102 4) K next (S4 x) = P.bp4 x (fun x => next (S4 x)) (E4 K) := by kernel_rfl
theorem aqr : jr D (dn Tryz.f102 4) := fu S4 aqn (by kernel_rfl) P.b23 ai3
theorem loops : cu (Tryz.f102.body.getD .skip) = [dn Tryz.f102 4] := by kernel_rfl
noncomputable def ay : Abs.Spec := fun args K => match args with
 | [.agg [.v (.int .i64 c), .arr .u64 8 a, .sl (.ints .u8 d), .v (.int .u64 e)], .sl (.ints .u8 i)] => P.ab3 c a d e i (fun f b g h => K (.agg [.v (.int .i64 f), .arr .u64 8 b, .sl (.ints .u8 g), .v (.int .u64 h)]))
 | _ => none
noncomputable def spec : Abs.Spec := fun args K => ay (om [.agg [.any, .any, .sl (.ints .u8 []), .any], .sl (.ints .u8 [])] args) K
theorem ok0 : Proved Tryz.prog GLO.gx 102 ay := by
 refine bq (D := D) (fn := Tryz.f102) (c := Tryz.f102.body.getD .skip) [.agg [.any, .any, .sl (.ints .u8 []), .any]] (by kernel_rfl) (au (by kernel_rfl)) (by kernel_rfl) (by kernel_rfl) (by kernel_rfl) ⟨l8.ok, xq.ok, acu.ok, trivial⟩ trivial ?_ ?_
 · rw [loops]; exact ⟨aqr, trivial⟩
 · intro args K r h
   unfold ay at h
   split at h
   · rw [P.av9] at h; exact Eq.trans (by kernel_rfl) h
   · cases h
theorem ok : Proved Tryz.prog GLO.gx 102 spec := d9 _ ok0
end ab3

namespace yu
abbrev X5 := P.bqs
def S5 : X5 → ASt := fun (a, b, c) => ⟨[(0, .v (.int .u64 a)), (5, .own 0), (6, .v (.int .i64 b))], [(0, some ⟨.row 5 (.ints .u8 c), false⟩)], 1, 30⟩
def V5 : ASt → Option X5
 | ⟨[(0, .v (.int .u64 a)), (5, .own 0), (6, .v (.int .i64 b))], [(0, some ⟨.row 5 (.ints .u8 c), false⟩)], 1, 30⟩ => some (a, b, c)
 | _ => none
theorem bds (st) (x) (h : V5 st = some x) : st = S5 x := by
 unfold V5 at h
 split at h
 · cases h; rfl
 · cases h
abbrev Y5 := P.byf
def E5 (K : AExit → ASt → Option R) : Y5 → Option R := (fun x => K (.exit 0) (S5 x))
noncomputable def L5 : qc := fun st K => adi (V5 st) fun x => P.b0p x (E5 K)
noncomputable def D : Ctx := ({ P := Tryz.prog, G := [], globs := GLO.gx, hints := [(5, ⟨[0, 5, 6], [], [4], [], none, [], []⟩)], loops := [(5, L5)], inl := [] } : Ctx)
theorem as8 (K) (next) (x) : kr D (dn Tryz.f104 5) K next (S5 x) = P.bqf x (fun x => next (S5 x)) (E5 K) := by kernel_rfl
theorem bcq : jr D (dn Tryz.f104 5) := fu S5 bds (by kernel_rfl) P.b4h as8
theorem loops : cu (Tryz.f104.body.getD .skip) = [dn Tryz.f104 5] := by kernel_rfl
noncomputable def ay : Abs.Spec := fun args K => match args with
 | [.v (.int .u64 a), .v (.int .i64 b)] => P.yu a b (fun c => K (.fr 5 (.ints .u8 c)))
 | _ => none
noncomputable def spec : Abs.Spec := ay
theorem ok0 : Proved Tryz.prog GLO.gx 104 ay := by
 refine bq (D := D) (fn := Tryz.f104) (c := Tryz.f104.body.getD .skip) [.fr 5 (.ints .u8 [])] (by kernel_rfl) (au (by kernel_rfl)) (by kernel_rfl) (by kernel_rfl) (by kernel_rfl) trivial trivial ?_ ?_
 · rw [loops]; exact ⟨bcq, trivial⟩
 · intro args K r h
   unfold ay at h
   split at h
   · rw [P.bbq] at h; exact Eq.trans (by kernel_rfl) h
   · cases h
theorem ok : Proved Tryz.prog GLO.gx 104 spec := ok0
end yu

namespace ahc
abbrev X4 := P.bso
def S4 : X4 → ASt := fun (f, g, e, a, b, c, d) => ⟨[(5, .own 40), (1, .ptr 0 0), (3, .v (.int .i64 f)), (4, .v (.int .u64 g))], [(40, some ⟨.row 5 (.ints .u8 e), false⟩), (0, some ⟨.box 117 [.v (.int .i64 a), .arr .u64 8 b, .sl (.ints .u8 c), .v (.int .u64 d)], false⟩)], 41, 77⟩
def V4 : ASt → Option X4
 | ⟨[(5, .own 40), (1, .ptr 0 0), (3, .v (.int .i64 f)), (4, .v (.int .u64 g))], [(40, some ⟨.row 5 (.ints .u8 e), false⟩), (0, some ⟨.box 117 [.v (.int .i64 a), .arr .u64 8 b, .sl (.ints .u8 c), .v (.int .u64 d)], false⟩)], 41, 77⟩ => some (f, g, e, a, b, c, d)
 | _ => none
theorem aqn (st) (x) (h : V4 st = some x) : st = S4 x := by
 unfold V4 at h
 split at h
 · cases h; rfl
 · cases h
abbrev Y4 := P.b0e
abbrev X8 := P.bsk
def S8 : X8 → ASt := fun (f, g, e, a, b, c, d) => ⟨[(5, .own 80), (1, .ptr 0 0), (3, .v (.int .i64 f)), (4, .v (.int .u64 g))], [(80, some ⟨.row 5 (.ints .u8 e), false⟩), (0, some ⟨.box 117 [.v (.int .i64 a), .arr .u64 8 b, .sl (.ints .u8 c), .v (.int .u64 d)], false⟩)], 81, 77⟩
def V8 : ASt → Option X8
 | ⟨[(5, .own 80), (1, .ptr 0 0), (3, .v (.int .i64 f)), (4, .v (.int .u64 g))], [(80, some ⟨.row 5 (.ints .u8 e), false⟩), (0, some ⟨.box 117 [.v (.int .i64 a), .arr .u64 8 b, .sl (.ints .u8 c), .v (.int .u64 d)], false⟩)], 81, 77⟩ => some (f, g, e, a, b, c, d)
 | _ => none
theorem bcr (st) (x) (h : V8 st = some x) : st = S8 x := by
 unfold V8 at h
 split at h
 · cases h; rfl
 · cases h
abbrev Y8 := P.bwu
abbrev X14 := P.brz
def S14 : X14 → ASt := fun (f, g, a, b, c, d, e) => ⟨[(6, .own 120), (1, .ptr 0 0), (3, .v (.int .i64 f)), (7, .v (.int .i64 g))], [(120, some ⟨.row 5 (.ints .u8 a), false⟩), (0, some ⟨.box 117 [.v (.int .i64 b), .arr .u64 8 c, .sl (.ints .u8 d), .v (.int .u64 e)], false⟩)], 121, 77⟩
def V14 : ASt → Option X14
 | ⟨[(6, .own 120), (1, .ptr 0 0), (3, .v (.int .i64 f)), (7, .v (.int .i64 g))], [(120, some ⟨.row 5 (.ints .u8 a), false⟩), (0, some ⟨.box 117 [.v (.int .i64 b), .arr .u64 8 c, .sl (.ints .u8 d), .v (.int .u64 e)], false⟩)], 121, 77⟩ => some (f, g, a, b, c, d, e)
 | _ => none
theorem bti (st) (x) (h : V14 st = some x) : st = S14 x := by
 unfold V14 at h
 split at h
 · cases h; rfl
 · cases h
abbrev Y14 := P.bwr
def E4 (K : AExit → ASt → Option R) : Y4 → Option R := (fun x => K (.exit 0) (S4 x))
noncomputable def L4 : qc := fun st K => adi (V4 st) fun x => P.bz7 x (E4 K)
def E8 (K : AExit → ASt → Option R) : Y8 → Option R := (fun x => K (.exit 2) (S8 x))
noncomputable def L8 : qc := fun st K => adi (V8 st) fun x => P.bzj x (E8 K)
def E14 (K : AExit → ASt → Option R) : Y14 → Option R := (fun x => K (.exit 4) (S14 x))
noncomputable def L14 : qc := fun st K => adi (V14 st) fun x => P.bw6 x (E14 K)
noncomputable def D : Ctx := ({ P := Tryz.prog, G := [(102, ab3.spec), (104, yu.spec), (117, xq.spec)], globs := GLO.gx, hints := [(14, ⟨[1, 3, 7], [(6, 5, .ints .u8 [])], [2], [], some (120, [0]), [0], []⟩), (8, ⟨[1, 3, 4], [(5, 5, .ints .u8 [])], [2], [], some (80, [0]), [0], []⟩), (4, ⟨[1, 3, 4], [(5, 5, .ints .u8 [])], [2], [], some (40, [0]), [0], []⟩)], loops := [(4, L4), (8, L8), (14, L14)], inl := [] } : Ctx)
theorem ai3 (K) (next) (x) : kr D (dn Tryz.f101 4) K next (S4 x) = P.bs1 x (fun x => next (S4 x)) (E4 K) := by kernel_rfl
theorem aqr : jr D (dn Tryz.f101 4) := fu S4 aqn (by kernel_rfl) P.b3a ai3
theorem ate (K) (next) (x) : kr D (dn Tryz.f101 8) K next (S8 x) = P.bqn x (fun x => next (S8 x)) (E8 K) := by kernel_rfl
theorem bb5 : jr D (dn Tryz.f101 8) := fu S8 bcr (by kernel_rfl) P.b4a ate
theorem bnh (K) (next) (x) : kr D (dn Tryz.f101 14) K next (S14 x) = P.br2 x (fun x => next (S14 x)) (E14 K) := by kernel_rfl
theorem bts : jr D (dn Tryz.f101 14) := fu S14 bti (by kernel_rfl) P.b3e bnh
theorem loops : cu (Tryz.f101.body.getD .skip) = [dn Tryz.f101 4, dn Tryz.f101 8, dn Tryz.f101 14] := by kernel_rfl
noncomputable def ay : Abs.Spec := fun args K => match args with
 | [.agg [.v (.int .i64 b), .arr .u64 8 a, .sl (.ints .u8 c), .v (.int .u64 d)]] => P.ahc b a c d (fun e => K (.fr 5 (.ints .u8 e)))
 | _ => none
noncomputable def spec : Abs.Spec := fun args K => ay (om [.agg [.any, .any, .sl (.ints .u8 []), .any]] args) K
theorem ok0 : Proved Tryz.prog GLO.gx 101 ay := by
 refine aqd (D := D) (fn := Tryz.f101) (c := Tryz.f101.body.getD .skip) 5 (.ints .u8 []) (by kernel_rfl) (au (by kernel_rfl)) (by kernel_rfl) (by kernel_rfl) (by kernel_rfl) ⟨ab3.ok, yu.ok, xq.ok, trivial⟩ trivial ?_ ?_
 · rw [loops]; exact ⟨aqr, bb5, bts, trivial⟩
 · intro args K r h
   unfold ay at h
   split at h
   · rw [P.awg] at h; exact Eq.trans (by kernel_rfl) h
   · cases h
theorem ok : Proved Tryz.prog GLO.gx 101 spec := d9 _ ok0
end ahc

namespace ahf
noncomputable def D : Ctx := ({ P := Tryz.prog, G := [], globs := GLO.gx, hints := [], loops := [], inl := [] } : Ctx)
theorem loops : cu (Tryz.f100.body.getD .skip) = [] := by kernel_rfl
noncomputable def ay : Abs.Spec := fun args K => match args with
 | [.v (.int .i64 e)] => P.ahf e (fun b a c d f => K (.tuple [.agg [.v (.int .i64 b), .arr .u64 8 a, .fr 5 (.ints .u8 c), .v (.int .u64 d)], .v (.int .i64 f)]))
 | _ => none
noncomputable def spec : Abs.Spec := ay
theorem ok0 : Proved Tryz.prog GLO.gx 100 ay := by
 refine bq (D := D) (fn := Tryz.f100) (c := Tryz.f100.body.getD .skip) [.agg [.any, .any, .fr 5 (.ints .u8 []), .any], .any] (by kernel_rfl) (au (by kernel_rfl)) (by kernel_rfl) (by kernel_rfl) (by kernel_rfl) trivial trivial ?_ ?_
 · rw [loops]; exact trivial
 · intro args K r h
   unfold ay at h
   split at h
   · rw [P.awi] at h; exact Eq.trans (by kernel_rfl) h
   · cases h
theorem ok : Proved Tryz.prog GLO.gx 100 spec := ok0
end ahf

namespace adz
noncomputable def D : Ctx := ({ P := Tryz.prog, G := [(100, ahf.spec), (101, ahc.spec), (102, ab3.spec)], globs := GLO.gx, hints := [], loops := [], inl := [] } : Ctx)
theorem loops : cu (Tryz.f70.body.getD .skip) = [] := by kernel_rfl
noncomputable def ay : Abs.Spec := fun args K => match args with
 | [.v (.int .i64 a), .sl (.ints .u8 b)] => P.adz a b (fun c d => K (.tuple [.fr 5 (.ints .u8 c), .v (.int .i64 d)]))
 | _ => none
noncomputable def spec : Abs.Spec := fun args K => ay (om [.any, .sl (.ints .u8 [])] args) K
theorem ok0 : Proved Tryz.prog GLO.gx 70 ay := by
 refine bq (D := D) (fn := Tryz.f70) (c := Tryz.f70.body.getD .skip) [.fr 5 (.ints .u8 []), .any] (by kernel_rfl) (au (by kernel_rfl)) (by kernel_rfl) (by kernel_rfl) (by kernel_rfl) ⟨ahf.ok, ahc.ok, ab3.ok, trivial⟩ trivial ?_ ?_
 · rw [loops]; exact trivial
 · intro args K r h
   unfold ay at h
   split at h
   · rw [P.av7] at h; exact Eq.trans (by kernel_rfl) h
   · cases h
theorem ok : Proved Tryz.prog GLO.gx 70 spec := d9 _ ok0
end adz

namespace u7
abbrev X4 := P.bt5
def S4 : X4 → ASt := fun (c, d, a, b) => ⟨[(0, .ptr 0 0), (1, .ptr 1 0), (2, .v (.int .u64 c)), (3, .v (.int .i64 d))], [(0, some ⟨.box 138 [.arr .u64 24 a], false⟩), (1, some ⟨.box 138 [.arr .u64 24 b], false⟩)], 2, 32⟩
def V4 : ASt → Option X4
 | ⟨[(0, .ptr 0 0), (1, .ptr 1 0), (2, .v (.int .u64 c)), (3, .v (.int .i64 d))], [(0, some ⟨.box 138 [.arr .u64 24 a], false⟩), (1, some ⟨.box 138 [.arr .u64 24 b], false⟩)], 2, 32⟩ => some (c, d, a, b)
 | _ => none
theorem aqn (st) (x) (h : V4 st = some x) : st = S4 x := by
 unfold V4 at h
 split at h
 · cases h; rfl
 · cases h
abbrev Y4 := P.by3
def E4 (K : AExit → ASt → Option R) : Y4 → Option R := (fun x => K (.exit 0) (S4 x))
noncomputable def L4 : qc := fun st K => adi (V4 st) fun x => P.b2n x (E4 K)
noncomputable def D : Ctx := ({ P := Tryz.prog, G := [], globs := GLO.gx, hints := [(4, ⟨[0, 1, 2, 3], [], [0], [], none, [], []⟩)], loops := [(4, L4)], inl := [] } : Ctx)
theorem ai3 (K) (next) (x) : kr D (dn Tryz.f131 4) K next (S4 x) = P.bpq x (fun x => next (S4 x)) (E4 K) := by kernel_rfl
theorem aqr : jr D (dn Tryz.f131 4) := fu S4 aqn (by kernel_rfl) P.b4b ai3
theorem loops : cu (Tryz.f131.body.getD .skip) = [dn Tryz.f131 4] := by kernel_rfl
noncomputable def ay : Abs.Spec := fun args K => match args with
 | [] => P.u7 (fun a => K (.arr .u64 24 a))
 | _ => none
noncomputable def spec : Abs.Spec := ay
theorem ok0 : Proved Tryz.prog GLO.gx 131 ay := by
 refine bq (D := D) (fn := Tryz.f131) (c := Tryz.f131.body.getD .skip) [.any] (by kernel_rfl) (au (by kernel_rfl)) (by kernel_rfl) (by kernel_rfl) (by kernel_rfl) trivial trivial ?_ ?_
 · rw [loops]; exact ⟨aqr, trivial⟩
 · intro args K r h
   unfold ay at h
   split at h
   · rw [P.akf] at h; exact Eq.trans (by kernel_rfl) h
   · cases h
theorem ok : Proved Tryz.prog GLO.gx 131 spec := ok0
end u7

namespace ad1
noncomputable def D : Ctx := ({ P := Tryz.prog, G := [], globs := GLO.gx, hints := [], loops := [], inl := [] } : Ctx)
theorem loops : cu (Tryz.f149.body.getD .skip) = [] := by kernel_rfl
noncomputable def ay : Abs.Spec := fun args K => match args with
 | [.v (.int .u64 a), .v (.int .i64 b)] => P.ad1 a b (fun c => K (.v (.int .u64 c)))
 | _ => none
noncomputable def spec : Abs.Spec := ay
theorem ok0 : Proved Tryz.prog GLO.gx 149 ay := by
 refine bq (D := D) (fn := Tryz.f149) (c := Tryz.f149.body.getD .skip) [.any] (by kernel_rfl) (au (by kernel_rfl)) (by kernel_rfl) (by kernel_rfl) (by kernel_rfl) trivial trivial ?_ ?_
 · rw [loops]; exact trivial
 · intro args K r h
   unfold ay at h
   split at h
   · rw [P.ac5] at h; exact Eq.trans (by kernel_rfl) h
   · cases h
theorem ok : Proved Tryz.prog GLO.gx 149 spec := ok0
end ad1

namespace agp
abbrev X6 := P.br7
def S6 : X6 → ASt := fun (d, e, f, a, b, c) => ⟨[(1, .ptr 0 0), (2, .ptr 1 0), (3, .ptr 2 0), (4, .v (.int .i64 d)), (5, .v (.int .i64 e)), (6, .v (.int .i64 f))], [(0, some ⟨.box 107 [.arr .u64 25 a], false⟩), (1, some ⟨.box 107 [.arr .u64 25 b], false⟩), (2, some ⟨.box 107 [.arr .u64 25 c], false⟩)], 3, 44⟩
def V6 : ASt → Option X6
 | ⟨[(1, .ptr 0 0), (2, .ptr 1 0), (3, .ptr 2 0), (4, .v (.int .i64 d)), (5, .v (.int .i64 e)), (6, .v (.int .i64 f))], [(0, some ⟨.box 107 [.arr .u64 25 a], false⟩), (1, some ⟨.box 107 [.arr .u64 25 b], false⟩), (2, some ⟨.box 107 [.arr .u64 25 c], false⟩)], 3, 44⟩ => some (d, e, f, a, b, c)
 | _ => none
theorem bcm (st) (x) (h : V6 st = some x) : st = S6 x := by
 unfold V6 at h
 split at h
 · cases h; rfl
 · cases h
abbrev Y6 := P.bz0
def E6 (K : AExit → ASt → Option R) : Y6 → Option R := (fun x => K (.exit 0) (S6 x))
noncomputable def L6 : qc := fun st K => adi (V6 st) fun x => P.bwi x (E6 K)
noncomputable def D : Ctx := ({ P := Tryz.prog, G := [(149, ad1.spec)], globs := GLO.gx, hints := [(6, ⟨[1, 2, 3, 4, 5, 6], [], [2], [], none, [], []⟩)], loops := [(6, L6)], inl := [] } : Ctx)
theorem au9 (K) (next) (x) : kr D (dn Tryz.f132 6) K next (S6 x) = P.bpw x (fun x => next (S6 x)) (E6 K) := by kernel_rfl
theorem bdj : jr D (dn Tryz.f132 6) := fu S6 bcm (by kernel_rfl) P.b34 au9
theorem loops : cu (Tryz.f132.body.getD .skip) = [dn Tryz.f132 6] := by kernel_rfl
noncomputable def ay : Abs.Spec := fun args K => match args with
 | [.arr .u64 25 a] => P.agp a (fun b => K (.arr .u64 25 b))
 | _ => none
noncomputable def spec : Abs.Spec := ay
theorem ok0 : Proved Tryz.prog GLO.gx 132 ay := by
 refine bq (D := D) (fn := Tryz.f132) (c := Tryz.f132.body.getD .skip) [.any] (by kernel_rfl) (au (by kernel_rfl)) (by kernel_rfl) (by kernel_rfl) (by kernel_rfl) ⟨ad1.ok, trivial⟩ trivial ?_ ?_
 · rw [loops]; exact ⟨bdj, trivial⟩
 · intro args K r h
   unfold ay at h
   split at h
   · rw [P.as2] at h; exact Eq.trans (by kernel_rfl) h
   · cases h
theorem ok : Proved Tryz.prog GLO.gx 132 spec := ok0
end agp

namespace ab9
abbrev X3 := P.bsq
def S3 : X3 → ASt := fun (d, a, b, c) => ⟨[(1, .ptr 0 0), (2, .ptr 1 0), (3, .ptr 2 0), (4, .v (.int .i64 d))], [(0, some ⟨.box 107 [.arr .u64 25 a], false⟩), (1, some ⟨.box 107 [.arr .u64 25 b], false⟩), (2, some ⟨.box 167 [.arr .u64 5 c], false⟩)], 3, 44⟩
def V3 : ASt → Option X3
 | ⟨[(1, .ptr 0 0), (2, .ptr 1 0), (3, .ptr 2 0), (4, .v (.int .i64 d))], [(0, some ⟨.box 107 [.arr .u64 25 a], false⟩), (1, some ⟨.box 107 [.arr .u64 25 b], false⟩), (2, some ⟨.box 167 [.arr .u64 5 c], false⟩)], 3, 44⟩ => some (d, a, b, c)
 | _ => none
theorem alq (st) (x) (h : V3 st = some x) : st = S3 x := by
 unfold V3 at h
 split at h
 · cases h; rfl
 · cases h
abbrev Y3 := P.bz3
abbrev X7 := P.bqd
def S7 : X7 → ASt := fun (d, a, b, c) => ⟨[(1, .ptr 0 0), (2, .ptr 1 0), (3, .ptr 2 0), (5, .v (.int .i64 d))], [(2, some ⟨.box 167 [.arr .u64 5 a], false⟩), (1, some ⟨.box 107 [.arr .u64 25 b], false⟩), (0, some ⟨.box 107 [.arr .u64 25 c], false⟩)], 3, 44⟩
def V7 : ASt → Option X7
 | ⟨[(1, .ptr 0 0), (2, .ptr 1 0), (3, .ptr 2 0), (5, .v (.int .i64 d))], [(2, some ⟨.box 167 [.arr .u64 5 a], false⟩), (1, some ⟨.box 107 [.arr .u64 25 b], false⟩), (0, some ⟨.box 107 [.arr .u64 25 c], false⟩)], 3, 44⟩ => some (d, a, b, c)
 | _ => none
theorem bdn (st) (x) (h : V7 st = some x) : st = S7 x := by
 unfold V7 at h
 split at h
 · cases h; rfl
 · cases h
abbrev Y7 := P.bxo
def E3 (K : AExit → ASt → Option R) : Y3 → Option R := (fun x => K (.exit 0) (S3 x))
noncomputable def L3 : qc := fun st K => adi (V3 st) fun x => P.bw3 x (E3 K)
def E7 (K : AExit → ASt → Option R) : Y7 → Option R := (fun x => K (.exit 2) (S7 x))
noncomputable def L7 : qc := fun st K => adi (V7 st) fun x => P.by5 x (E7 K)
noncomputable def D : Ctx := ({ P := Tryz.prog, G := [(149, ad1.spec)], globs := GLO.gx, hints := [(7, ⟨[1, 2, 3, 5], [], [2], [], none, [], []⟩), (3, ⟨[1, 2, 3, 4], [], [2], [], none, [], []⟩)], loops := [(3, L3), (7, L7)], inl := [] } : Ctx)
theorem afj (K) (next) (x) : kr D (dn Tryz.f133 3) K next (S3 x) = P.bpt x (fun x => next (S3 x)) (E3 K) := by kernel_rfl
theorem ak7 : jr D (dn Tryz.f133 3) := fu S3 alq (by kernel_rfl) P.b3p afj
theorem au4 (K) (next) (x) : kr D (dn Tryz.f133 7) K next (S7 x) = P.bpv x (fun x => next (S7 x)) (E7 K) := by kernel_rfl
theorem bcl : jr D (dn Tryz.f133 7) := fu S7 bdn (by kernel_rfl) P.b4n au4
theorem loops : cu (Tryz.f133.body.getD .skip) = [dn Tryz.f133 3, dn Tryz.f133 7] := by kernel_rfl
noncomputable def ay : Abs.Spec := fun args K => match args with
 | [.arr .u64 25 a] => P.ab9 a (fun b => K (.arr .u64 25 b))
 | _ => none
noncomputable def spec : Abs.Spec := ay
theorem ok0 : Proved Tryz.prog GLO.gx 133 ay := by
 refine bq (D := D) (fn := Tryz.f133) (c := Tryz.f133.body.getD .skip) [.any] (by kernel_rfl) (au (by kernel_rfl)) (by kernel_rfl) (by kernel_rfl) (by kernel_rfl) ⟨ad1.ok, trivial⟩ trivial ?_ ?_
 · rw [loops]; exact ⟨ak7, bcl, trivial⟩
 · intro args K r h
   unfold ay at h
   split at h
   · rw [P.aow] at h; exact Eq.trans (by kernel_rfl) h
   · cases h
theorem ok : Proved Tryz.prog GLO.gx 133 spec := ok0
end ab9

namespace mo
abbrev X7 := P.bra
def S7 : X7 → ASt := fun (e, f, a, b, c, d) => ⟨[(1, .ptr 0 0), (2, .ptr 1 0), (3, .ptr 2 0), (4, .v (.int .i64 e)), (5, .ptr 3 0), (6, .v (.int .i64 f))], [(2, some ⟨.box 138 [.arr .u64 24 a], false⟩), (1, some ⟨.box 107 [.arr .u64 25 b], false⟩), (0, some ⟨.box 107 [.arr .u64 25 c], false⟩), (3, some ⟨.box 107 [.arr .u64 25 d], false⟩)], 4, 53⟩
def V7 : ASt → Option X7
 | ⟨[(1, .ptr 0 0), (2, .ptr 1 0), (3, .ptr 2 0), (4, .v (.int .i64 e)), (5, .ptr 3 0), (6, .v (.int .i64 f))], [(2, some ⟨.box 138 [.arr .u64 24 a], false⟩), (1, some ⟨.box 107 [.arr .u64 25 b], false⟩), (0, some ⟨.box 107 [.arr .u64 25 c], false⟩), (3, some ⟨.box 107 [.arr .u64 25 d], false⟩)], 4, 53⟩ => some (e, f, a, b, c, d)
 | _ => none
theorem bdn (st) (x) (h : V7 st = some x) : st = S7 x := by
 unfold V7 at h
 split at h
 · cases h; rfl
 · cases h
abbrev Y7 := P.bye
abbrev X3 := P.bs8
def S3 : X3 → ASt := fun (d, a, b, c) => ⟨[(1, .ptr 0 0), (2, .ptr 1 0), (3, .ptr 2 0), (4, .v (.int .i64 d))], [(0, some ⟨.box 107 [.arr .u64 25 a], false⟩), (1, some ⟨.box 107 [.arr .u64 25 b], false⟩), (2, some ⟨.box 138 [.arr .u64 24 c], false⟩)], 3, 53⟩
def V3 : ASt → Option X3
 | ⟨[(1, .ptr 0 0), (2, .ptr 1 0), (3, .ptr 2 0), (4, .v (.int .i64 d))], [(0, some ⟨.box 107 [.arr .u64 25 a], false⟩), (1, some ⟨.box 107 [.arr .u64 25 b], false⟩), (2, some ⟨.box 138 [.arr .u64 24 c], false⟩)], 3, 53⟩ => some (d, a, b, c)
 | _ => none
theorem alq (st) (x) (h : V3 st = some x) : st = S3 x := by
 unfold V3 at h
 split at h
 · cases h; rfl
 · cases h
abbrev Y3 := P.b0q
def E7 (K : AExit → ASt → Option R) : Y7 → Option R := (fun x => K (.exit 2) (S7 x))
noncomputable def L7 : qc := fun st K => adi (V7 st) fun x => P.byc x (E7 K)
def E3 (K : AExit → ASt → Option R) : Y3 → Option R := (fun x => K (.exit 0) (S3 x))
noncomputable def L3 : qc := fun st K => adi (V3 st) fun x => P.b2b x (E3 K)
noncomputable def D : Ctx := ({ P := Tryz.prog, G := [(131, u7.spec), (132, agp.spec), (133, ab9.spec)], globs := GLO.gx, hints := [(7, ⟨[1, 2, 3, 4, 5, 6], [], [2], [], none, [], []⟩), (3, ⟨[1, 2, 3, 4], [], [2], [], none, [], []⟩)], loops := [(7, L7), (3, L3)], inl := [] } : Ctx)
theorem au4 (K) (next) (x) : kr D (dn Tryz.f115 7) K next (S7 x) = P.brf x (fun x => next (S7 x)) (E7 K) := by kernel_rfl
theorem bcl : jr D (dn Tryz.f115 7) := fu S7 bdn (by kernel_rfl) P.b33 au4
theorem afj (K) (next) (x) : kr D (dn Tryz.f115 3) K next (S3 x) = P.bql x (fun x => next (S3 x)) (E3 K) := by kernel_rfl
theorem ak7 : jr D (dn Tryz.f115 3) := fu S3 alq (by kernel_rfl) P.b31 afj
theorem loops : cu (Tryz.f115.body.getD .skip) = [dn Tryz.f115 3, dn Tryz.f115 7] := by kernel_rfl
noncomputable def ay : Abs.Spec := fun args K => match args with
 | [.arr .u64 25 a] => P.mo a (fun b => K (.arr .u64 25 b))
 | _ => none
noncomputable def spec : Abs.Spec := ay
theorem ok0 : Proved Tryz.prog GLO.gx 115 ay := by
 refine bq (D := D) (fn := Tryz.f115) (c := Tryz.f115.body.getD .skip) [.any] (by kernel_rfl) (au (by kernel_rfl)) (by kernel_rfl) (by kernel_rfl) (by kernel_rfl) ⟨u7.ok, agp.ok, ab9.ok, trivial⟩ trivial ?_ ?_
 · rw [loops]; exact ⟨ak7, bcl, trivial⟩
 · intro args K r h
   unfold ay at h
   split at h
   · rw [P.am0] at h; exact Eq.trans (by kernel_rfl) h
   · cases h
theorem ok : Proved Tryz.prog GLO.gx 115 spec := ok0
end mo

namespace aak
noncomputable def D : Ctx := ({ P := Tryz.prog, G := [], globs := GLO.gx, hints := [], loops := [], inl := [] } : Ctx)
theorem loops : cu (Tryz.f114.body.getD .skip) = [] := by kernel_rfl
noncomputable def ay : Abs.Spec := fun args K => match args with
 | [.v (.int .i64 a)] => P.aak a (fun b => K (.v (.int .i64 b)))
 | _ => none
noncomputable def spec : Abs.Spec := ay
theorem ok0 : Proved Tryz.prog GLO.gx 114 ay := by
 refine bq (D := D) (fn := Tryz.f114) (c := Tryz.f114.body.getD .skip) [.any] (by kernel_rfl) (au (by kernel_rfl)) (by kernel_rfl) (by kernel_rfl) (by kernel_rfl) trivial trivial ?_ ?_
 · rw [loops]; exact trivial
 · intro args K r h
   unfold ay at h
   split at h
   · rw [P.au8] at h; exact Eq.trans (by kernel_rfl) h
   · cases h
theorem ok : Proved Tryz.prog GLO.gx 114 spec := ok0
end aak

end
