/-
  ForsSigns, part 18: an interpreter of my own over abstract values, the pure functions, the walks and the plain law.
-/

import Derived.Test.YtjhnljhjpnjieaaGreatDoorForsSignsL
import Derived.Test.YtjhnljhjpnjieaaGreatDoorForsSignsG
import Derived.Test.YtjhnljhjpnjieaaGreatDoorProg
import Derived.Test.YtjhnljhjpnjieaaGreatDoorForsSignsJ
import Derived.Test.YtjhnljhjpnjieaaGreatDoorForsSignsQ
import Derived.KernelRfl
import Derived.Test.YtjhnljhjpnjieaaGreatDoorForsSignsK

section
open Go Go.Abs Go.Proofs
set_option maxRecDepth 100000
set_option maxHeartbeats 0
set_option linter.unusedVariables false

namespace ab9
abbrev X6 := P.bsd
def S6 : X6 → ASt := fun (b, c, d, e, f, a, g) => ⟨[(10, .own 0), (0, .sl (.ints .u8 b)), (1, .v (.bool c)), (2, .v (.int .i64 d)), (3, .v (.int .u64 e)), (9, .v (.int .i64 f)), (11, .v (.int .i64 a))], [(0, some ⟨.row 27 (.ints .u64 g), false⟩)], 1, 82⟩
def V6 : ASt → Option X6
 | ⟨[(10, .own 0), (0, .sl (.ints .u8 b)), (1, .v (.bool c)), (2, .v (.int .i64 d)), (3, .v (.int .u64 e)), (9, .v (.int .i64 f)), (11, .v (.int .i64 a))], [(0, some ⟨.row 27 (.ints .u64 g), false⟩)], 1, 82⟩ => some (b, c, d, e, f, a, g)
 | _ => none
theorem bk5 (st) (x) (h : V6 st = some x) : st = S6 x := by
 unfold V6 at h
 split at h
 · cases h; rfl
 · cases h
abbrev Y6 := P.b1u
def E6 (K : AExit → ASt → Option R) : Y6 → Option R := (fun x => K (.exit 0) (S6 x))
noncomputable def L6 : qc := fun st K => ac6 (V6 st) fun x => P.by5 x (E6 K)
noncomputable def D : Ctx := ({ P := Tryz.prog, G := [(105, ac3.spec), (137, ze.spec)], globs := GLO.gx, hints := [(6, ⟨[0, 1, 2, 3, 9, 11], [(10, 27, .ints .u64 [])], [8], [], none, [], []⟩)], loops := [(6, L6)], inl := [] } : Ctx)
theorem bcl (K) (next) (x) : kg D (dh Tryz.f136 6) K next (S6 x) = P.brc x (fun x => next (S6 x)) (E6 K) := by kernel_rfl
theorem bic : ji D (dh Tryz.f136 6) := fu S6 bk5 (by kernel_rfl) P.b7i bcl
theorem loops : cu (Tryz.f136.body.getD .skip) = [dh Tryz.f136 6] := by kernel_rfl
noncomputable def ay : Abs.Spec := fun args K => match args with
 | [.sl (.ints .u8 a), .v (.bool b), .v (.int .i64 c), .v (.int .u64 d)] => P.ab9 a b c d (fun e => K (.fr 27 (.ints .u64 e)))
 | _ => none
noncomputable def spec : Abs.Spec := fun args K => ay (ou [.sl (.ints .u8 []), .any, .any, .any] args) K
theorem ok0 : Proved Tryz.prog GLO.gx 136 ay := by
 refine bq (D := D) (fn := Tryz.f136) (c := Tryz.f136.body.getD .skip) [.fr 27 (.ints .u64 [])] (by kernel_rfl) (au (by kernel_rfl)) (by kernel_rfl) (by kernel_rfl) (by kernel_rfl) ⟨ac3.ok, ze.ok, trivial⟩ trivial ?_ ?_
 · rw [loops]; exact ⟨bic, trivial⟩
 · intro args K r h
   unfold ay at h
   split at h
   · rw [P.amb] at h; exact Eq.trans (by kernel_rfl) h
   · cases h
theorem ok : Proved Tryz.prog GLO.gx 136 spec := d9 _ ok0
end ab9

namespace ac5
abbrev X11 := P.bse
def S11 : X11 → ASt := fun (g, h, i, f, a, b, c, d, j, e) => ⟨[(2, .v (.bool g)), (3, .ptr 0 0), (6, .ptr 1 0), (7, .v (.int .i64 h)), (8, .v (.int .u64 i)), (9, .ptr 2 0), (10, .ptr 3 0), (11, .own 4), (12, .ptr 5 0), (13, .v (.int .i64 f))], [(0, some ⟨.box 115 [.arr .u64 8 a], false⟩), (1, some ⟨.box 115 [.arr .u64 8 b], false⟩), (2, some ⟨.box 140 [.arr .u64 64 c], false⟩), (3, some ⟨.box 142 [.arr .u64 80 d], false⟩), (4, some ⟨.row 27 (.ints .u64 j), false⟩), (5, some ⟨.box 115 [.arr .u64 8 e], false⟩)], 6, 137⟩
def V11 : ASt → Option X11
 | ⟨[(2, .v (.bool g)), (3, .ptr 0 0), (6, .ptr 1 0), (7, .v (.int .i64 h)), (8, .v (.int .u64 i)), (9, .ptr 2 0), (10, .ptr 3 0), (11, .own 4), (12, .ptr 5 0), (13, .v (.int .i64 f))], [(0, some ⟨.box 115 [.arr .u64 8 a], false⟩), (1, some ⟨.box 115 [.arr .u64 8 b], false⟩), (2, some ⟨.box 140 [.arr .u64 64 c], false⟩), (3, some ⟨.box 142 [.arr .u64 80 d], false⟩), (4, some ⟨.row 27 (.ints .u64 j), false⟩), (5, some ⟨.box 115 [.arr .u64 8 e], false⟩)], 6, 137⟩ => some (g, h, i, f, a, b, c, d, j, e)
 | _ => none
theorem bj9 (st) (x) (h : V11 st = some x) : st = S11 x := by
 unfold V11 at h
 split at h
 · cases h; rfl
 · cases h
abbrev Y11 := P.bzx
abbrev X25 := P.bup
def S25 : X25 → ASt := fun (e, d, a, b, c) => ⟨[(3, .ptr 0 0), (6, .ptr 1 0), (8, .v (.int .u64 e)), (12, .ptr 5 0), (19, .v (.int .i64 d))], [(0, some ⟨.box 115 [.arr .u64 8 a], false⟩), (1, some ⟨.box 115 [.arr .u64 8 b], false⟩), (5, some ⟨.box 115 [.arr .u64 8 c], false⟩)], 80, 137⟩
def V25 : ASt → Option X25
 | ⟨[(3, .ptr 0 0), (6, .ptr 1 0), (8, .v (.int .u64 e)), (12, .ptr 5 0), (19, .v (.int .i64 d))], [(0, some ⟨.box 115 [.arr .u64 8 a], false⟩), (1, some ⟨.box 115 [.arr .u64 8 b], false⟩), (5, some ⟨.box 115 [.arr .u64 8 c], false⟩)], 80, 137⟩ => some (e, d, a, b, c)
 | _ => none
theorem br3 (st) (x) (h : V25 st = some x) : st = S25 x := by
 unfold V25 at h
 split at h
 · cases h; rfl
 · cases h
abbrev Y25 := P.b05
def E11 (K : AExit → ASt → Option R) : Y11 → Option R := (fun x => K (.exit 0) (S11 x))
noncomputable def L11 : qc := fun st K => ac6 (V11 st) fun x => P.b1f x (E11 K)
def E25 (K : AExit → ASt → Option R) : Y25 → Option R := (fun x => K (.exit 2) (S25 x))
noncomputable def L25 : qc := fun st K => ac6 (V25 st) fun x => P.b5a x (E25 K)
noncomputable def D : Ctx := ({ P := Tryz.prog, G := [(134, x9.spec), (135, xw.spec), (136, ab9.spec), (137, ze.spec)], globs := GLO.gx, hints := [(25, ⟨[3, 6, 8, 12, 19], [], [6], [], some (80, [0, 1, 5]), [], []⟩), (11, ⟨[2, 3, 6, 7, 8, 9, 10, 11, 12, 13], [], [6], [], none, [], []⟩)], loops := [(11, L11), (25, L25)], inl := [] } : Ctx)
theorem bed (K) (next) (x) : kg D (dh Tryz.f118 11) K next (S11 x) = P.brl x (fun x => next (S11 x)) (E11 K) := by kernel_rfl
theorem bj5 : ji D (dh Tryz.f118 11) := fu S11 bj9 (by kernel_rfl) P.b65 bed
theorem boz (K) (next) (x) : kg D (dh Tryz.f118 25) K next (S25 x) = P.brg x (fun x => next (S25 x)) (E25 K) := by kernel_rfl
theorem btl : ji D (dh Tryz.f118 25) := fu S25 br3 (by kernel_rfl) P.b60 boz
theorem loops : cu (Tryz.f118.body.getD .skip) = [dh Tryz.f118 11, dh Tryz.f118 25] := by kernel_rfl
noncomputable def ay : Abs.Spec := fun args K => match args with
 | [.arr .u64 8 a, .sl (.ints .u8 b), .v (.bool c)] => P.ac5 a b c (fun d => K (.arr .u64 8 d))
 | _ => none
noncomputable def spec : Abs.Spec := fun args K => ay (ou [.any, .sl (.ints .u8 []), .any] args) K
theorem ok0 : Proved Tryz.prog GLO.gx 118 ay := by
 refine bq (D := D) (fn := Tryz.f118) (c := Tryz.f118.body.getD .skip) [.any] (by kernel_rfl) (au (by kernel_rfl)) (by kernel_rfl) (by kernel_rfl) (by kernel_rfl) ⟨x9.ok, xw.ok, ab9.ok, ze.ok, trivial⟩ trivial ?_ ?_
 · rw [loops]; exact ⟨bj5, btl, trivial⟩
 · intro args K r h
   unfold ay at h
   split at h
   · rw [P.amm] at h; exact Eq.trans (by kernel_rfl) h
   · cases h
theorem ok : Proved Tryz.prog GLO.gx 118 spec := d9 _ ok0
end ac5

namespace ab0
abbrev X4 := P.bv7
def S4 : X4 → ASt := fun (h, i, a, b, c, d, e, f, g) => ⟨[(2, .ptr 0 0), (4, .ptr 1 0), (5, .v (.int .i64 h)), (6, .sl (.ints .u8 i))], [(0, some ⟨.box 117 [.v (.int .i64 a), .arr .u64 8 b, .sl (.ints .u8 c), .v (.int .u64 d)], false⟩), (1, some ⟨.box 117 [.v (.int .i64 e), .arr .u64 8 f, .v (.slice none 0 0), .v (.int .u64 g)], false⟩)], 40, 41⟩
def V4 : ASt → Option X4
 | ⟨[(2, .ptr 0 0), (4, .ptr 1 0), (5, .v (.int .i64 h)), (6, .sl (.ints .u8 i))], [(0, some ⟨.box 117 [.v (.int .i64 a), .arr .u64 8 b, .sl (.ints .u8 c), .v (.int .u64 d)], false⟩), (1, some ⟨.box 117 [.v (.int .i64 e), .arr .u64 8 f, .v (.slice none 0 0), .v (.int .u64 g)], false⟩)], 40, 41⟩ => some (h, i, a, b, c, d, e, f, g)
 | _ => none
theorem ar7 (st) (x) (h : V4 st = some x) : st = S4 x := by
 unfold V4 at h
 split at h
 · cases h; rfl
 · cases h
abbrev Y4 := P.b5g
def E4 (K : AExit → ASt → Option R) : Y4 → Option R := (fun x => K (.exit 0) (S4 x))
noncomputable def L4 : qc := fun st K => ac6 (V4 st) fun x => P.bzt x (E4 K)
noncomputable def D : Ctx := ({ P := Tryz.prog, G := [(44, jv.spec), (117, za.spec), (118, ac5.spec)], globs := GLO.gx, hints := [(4, ⟨[2, 4, 5, 6], [], [4], [(6, .sl (.ints .u8 []))], some (40, [0, 1]), [], []⟩)], loops := [(4, L4)], inl := [] } : Ctx)
theorem ajq (K) (next) (x) : kg D (dh Tryz.f102 4) K next (S4 x) = P.bq9 x (fun x => next (S4 x)) (E4 K) := by kernel_rfl
theorem arb : ji D (dh Tryz.f102 4) := fu S4 ar7 (by kernel_rfl) P.b7e ajq
theorem loops : cu (Tryz.f102.body.getD .skip) = [dh Tryz.f102 4] := by kernel_rfl
noncomputable def ay : Abs.Spec := fun args K => match args with
 | [.agg [.v (.int .i64 c), .arr .u64 8 a, .sl (.ints .u8 d), .v (.int .u64 e)], .sl (.ints .u8 i)] => P.ab0 c a d e i (fun f b g h => K (.agg [.v (.int .i64 f), .arr .u64 8 b, .sl (.ints .u8 g), .v (.int .u64 h)]))
 | _ => none
noncomputable def spec : Abs.Spec := fun args K => ay (ou [.agg [.any, .any, .sl (.ints .u8 []), .any], .sl (.ints .u8 [])] args) K
theorem ok0 : Proved Tryz.prog GLO.gx 102 ay := by
 refine bq (D := D) (fn := Tryz.f102) (c := Tryz.f102.body.getD .skip) [.agg [.any, .any, .sl (.ints .u8 []), .any]] (by kernel_rfl) (au (by kernel_rfl)) (by kernel_rfl) (by kernel_rfl) (by kernel_rfl) ⟨jv.ok, za.ok, ac5.ok, trivial⟩ trivial ?_ ?_
 · rw [loops]; exact ⟨arb, trivial⟩
 · intro args K r h
   unfold ay at h
   split at h
   · rw [P.ax8] at h; exact Eq.trans (by kernel_rfl) h
   · cases h
theorem ok : Proved Tryz.prog GLO.gx 102 spec := d9 _ ok0
end ab0

namespace zi
abbrev X5 := P.br7
def S5 : X5 → ASt := fun (a, b, c) => ⟨[(0, .v (.int .u64 a)), (5, .own 0), (6, .v (.int .i64 b))], [(0, some ⟨.row 5 (.ints .u8 c), false⟩)], 1, 30⟩
def V5 : ASt → Option X5
 | ⟨[(0, .v (.int .u64 a)), (5, .own 0), (6, .v (.int .i64 b))], [(0, some ⟨.row 5 (.ints .u8 c), false⟩)], 1, 30⟩ => some (a, b, c)
 | _ => none
theorem bei (st) (x) (h : V5 st = some x) : st = S5 x := by
 unfold V5 at h
 split at h
 · cases h; rfl
 · cases h
abbrev Y5 := P.b2s
def E5 (K : AExit → ASt → Option R) : Y5 → Option R := (fun x => K (.exit 0) (S5 x))
noncomputable def L5 : qc := fun st K => ac6 (V5 st) fun x => P.b4j x (E5 K)
noncomputable def D : Ctx := ({ P := Tryz.prog, G := [], globs := GLO.gx, hints := [(5, ⟨[0, 5, 6], [], [4], [], none, [], []⟩)], loops := [(5, L5)], inl := [] } : Ctx)
theorem av9 (K) (next) (x) : kg D (dh Tryz.f104 5) K next (S5 x) = P.bvj x (fun x => next (S5 x)) (E5 K) := by kernel_rfl
theorem bep : ji D (dh Tryz.f104 5) := fu S5 bei (by kernel_rfl) P.b7p av9
theorem loops : cu (Tryz.f104.body.getD .skip) = [dh Tryz.f104 5] := by kernel_rfl
noncomputable def ay : Abs.Spec := fun args K => match args with
 | [.v (.int .u64 a), .v (.int .i64 b)] => P.zi a b (fun c => K (.fr 5 (.ints .u8 c)))
 | _ => none
noncomputable def spec : Abs.Spec := ay
theorem ok0 : Proved Tryz.prog GLO.gx 104 ay := by
 refine bq (D := D) (fn := Tryz.f104) (c := Tryz.f104.body.getD .skip) [.fr 5 (.ints .u8 [])] (by kernel_rfl) (au (by kernel_rfl)) (by kernel_rfl) (by kernel_rfl) (by kernel_rfl) trivial trivial ?_ ?_
 · rw [loops]; exact ⟨bep, trivial⟩
 · intro args K r h
   unfold ay at h
   split at h
   · rw [P.bbl] at h; exact Eq.trans (by kernel_rfl) h
   · cases h
theorem ok : Proved Tryz.prog GLO.gx 104 spec := ok0
end zi

namespace ahj
abbrev X4 := P.bt2
def S4 : X4 → ASt := fun (f, g, e, a, b, c, d) => ⟨[(5, .own 40), (1, .ptr 0 0), (3, .v (.int .i64 f)), (4, .v (.int .u64 g))], [(40, some ⟨.row 5 (.ints .u8 e), false⟩), (0, some ⟨.box 117 [.v (.int .i64 a), .arr .u64 8 b, .sl (.ints .u8 c), .v (.int .u64 d)], false⟩)], 41, 77⟩
def V4 : ASt → Option X4
 | ⟨[(5, .own 40), (1, .ptr 0 0), (3, .v (.int .i64 f)), (4, .v (.int .u64 g))], [(40, some ⟨.row 5 (.ints .u8 e), false⟩), (0, some ⟨.box 117 [.v (.int .i64 a), .arr .u64 8 b, .sl (.ints .u8 c), .v (.int .u64 d)], false⟩)], 41, 77⟩ => some (f, g, e, a, b, c, d)
 | _ => none
theorem ar7 (st) (x) (h : V4 st = some x) : st = S4 x := by
 unfold V4 at h
 split at h
 · cases h; rfl
 · cases h
abbrev Y4 := P.b0t
abbrev X8 := P.bs3
def S8 : X8 → ASt := fun (f, g, e, a, b, c, d) => ⟨[(5, .own 80), (1, .ptr 0 0), (3, .v (.int .i64 f)), (4, .v (.int .u64 g))], [(80, some ⟨.row 5 (.ints .u8 e), false⟩), (0, some ⟨.box 117 [.v (.int .i64 a), .arr .u64 8 b, .sl (.ints .u8 c), .v (.int .u64 d)], false⟩)], 81, 77⟩
def V8 : ASt → Option X8
 | ⟨[(5, .own 80), (1, .ptr 0 0), (3, .v (.int .i64 f)), (4, .v (.int .u64 g))], [(80, some ⟨.row 5 (.ints .u8 e), false⟩), (0, some ⟨.box 117 [.v (.int .i64 a), .arr .u64 8 b, .sl (.ints .u8 c), .v (.int .u64 d)], false⟩)], 81, 77⟩ => some (f, g, e, a, b, c, d)
 | _ => none
theorem bd5 (st) (x) (h : V8 st = some x) : st = S8 x := by
 unfold V8 at h
 split at h
 · cases h; rfl
 · cases h
abbrev Y8 := P.b40
abbrev X14 := P.bwx
def S14 : X14 → ASt := fun (f, g, a, b, c, d, e) => ⟨[(6, .own 120), (1, .ptr 0 0), (3, .v (.int .i64 f)), (7, .v (.int .i64 g))], [(120, some ⟨.row 5 (.ints .u8 a), false⟩), (0, some ⟨.box 117 [.v (.int .i64 b), .arr .u64 8 c, .sl (.ints .u8 d), .v (.int .u64 e)], false⟩)], 121, 77⟩
def V14 : ASt → Option X14
 | ⟨[(6, .own 120), (1, .ptr 0 0), (3, .v (.int .i64 f)), (7, .v (.int .i64 g))], [(120, some ⟨.row 5 (.ints .u8 a), false⟩), (0, some ⟨.box 117 [.v (.int .i64 b), .arr .u64 8 c, .sl (.ints .u8 d), .v (.int .u64 e)], false⟩)], 121, 77⟩ => some (f, g, a, b, c, d, e)
 | _ => none
theorem bvo (st) (x) (h : V14 st = some x) : st = S14 x := by
 unfold V14 at h
 split at h
 · cases h; rfl
 · cases h
abbrev Y14 := P.b0c
def E4 (K : AExit → ASt → Option R) : Y4 → Option R := (fun x => K (.exit 0) (S4 x))
noncomputable def L4 : qc := fun st K => ac6 (V4 st) fun x => P.b1m x (E4 K)
def E8 (K : AExit → ASt → Option R) : Y8 → Option R := (fun x => K (.exit 2) (S8 x))
noncomputable def L8 : qc := fun st K => ac6 (V8 st) fun x => P.b1v x (E8 K)
def E14 (K : AExit → ASt → Option R) : Y14 → Option R := (fun x => K (.exit 4) (S14 x))
noncomputable def L14 : qc := fun st K => ac6 (V14 st) fun x => P.b1i x (E14 K)
noncomputable def D : Ctx := ({ P := Tryz.prog, G := [(102, ab0.spec), (104, zi.spec), (117, za.spec)], globs := GLO.gx, hints := [(14, ⟨[1, 3, 7], [(6, 5, .ints .u8 [])], [2], [], some (120, [0]), [0], []⟩), (8, ⟨[1, 3, 4], [(5, 5, .ints .u8 [])], [2], [], some (80, [0]), [0], []⟩), (4, ⟨[1, 3, 4], [(5, 5, .ints .u8 [])], [2], [], some (40, [0]), [0], []⟩)], loops := [(4, L4), (8, L8), (14, L14)], inl := [] } : Ctx)
theorem ajq (K) (next) (x) : kg D (dh Tryz.f101 4) K next (S4 x) = P.bu4 x (fun x => next (S4 x)) (E4 K) := by kernel_rfl
theorem arb : ji D (dh Tryz.f101 4) := fu S4 ar7 (by kernel_rfl) P.b6k ajq
theorem avk (K) (next) (x) : kg D (dh Tryz.f101 8) K next (S8 x) = P.bvv x (fun x => next (S8 x)) (E8 K) := by kernel_rfl
theorem bey : ji D (dh Tryz.f101 8) := fu S8 bd5 (by kernel_rfl) P.b7m avk
theorem bp6 (K) (next) (x) : kg D (dh Tryz.f101 14) K next (S14 x) = P.bwc x (fun x => next (S14 x)) (E14 K) := by kernel_rfl
theorem btc : ji D (dh Tryz.f101 14) := fu S14 bvo (by kernel_rfl) P.b52 bp6
theorem loops : cu (Tryz.f101.body.getD .skip) = [dh Tryz.f101 4, dh Tryz.f101 8, dh Tryz.f101 14] := by kernel_rfl
noncomputable def ay : Abs.Spec := fun args K => match args with
 | [.agg [.v (.int .i64 b), .arr .u64 8 a, .sl (.ints .u8 c), .v (.int .u64 d)]] => P.ahj b a c d (fun e => K (.fr 5 (.ints .u8 e)))
 | _ => none
noncomputable def spec : Abs.Spec := fun args K => ay (ou [.agg [.any, .any, .sl (.ints .u8 []), .any]] args) K
theorem ok0 : Proved Tryz.prog GLO.gx 101 ay := by
 refine arj (D := D) (fn := Tryz.f101) (c := Tryz.f101.body.getD .skip) 5 (.ints .u8 []) (by kernel_rfl) (au (by kernel_rfl)) (by kernel_rfl) (by kernel_rfl) (by kernel_rfl) ⟨ab0.ok, zi.ok, za.ok, trivial⟩ trivial ?_ ?_
 · rw [loops]; exact ⟨arb, bey, btc, trivial⟩
 · intro args K r h
   unfold ay at h
   split at h
   · rw [P.axt] at h; exact Eq.trans (by kernel_rfl) h
   · cases h
theorem ok : Proved Tryz.prog GLO.gx 101 spec := d9 _ ok0
end ahj

namespace ahp
noncomputable def D : Ctx := ({ P := Tryz.prog, G := [], globs := GLO.gx, hints := [], loops := [], inl := [] } : Ctx)
theorem loops : cu (Tryz.f100.body.getD .skip) = [] := by kernel_rfl
noncomputable def ay : Abs.Spec := fun args K => match args with
 | [.v (.int .i64 e)] => P.ahp e (fun b a c d f => K (.tuple [.agg [.v (.int .i64 b), .arr .u64 8 a, .fr 5 (.ints .u8 c), .v (.int .u64 d)], .v (.int .i64 f)]))
 | _ => none
noncomputable def spec : Abs.Spec := ay
theorem ok0 : Proved Tryz.prog GLO.gx 100 ay := by
 refine bq (D := D) (fn := Tryz.f100) (c := Tryz.f100.body.getD .skip) [.agg [.any, .any, .fr 5 (.ints .u8 []), .any], .any] (by kernel_rfl) (au (by kernel_rfl)) (by kernel_rfl) (by kernel_rfl) (by kernel_rfl) trivial trivial ?_ ?_
 · rw [loops]; exact trivial
 · intro args K r h
   unfold ay at h
   split at h
   · rw [P.ay0] at h; exact Eq.trans (by kernel_rfl) h
   · cases h
theorem ok : Proved Tryz.prog GLO.gx 100 spec := ok0
end ahp

namespace aek
noncomputable def D : Ctx := ({ P := Tryz.prog, G := [(100, ahp.spec), (101, ahj.spec), (102, ab0.spec)], globs := GLO.gx, hints := [], loops := [], inl := [] } : Ctx)
theorem loops : cu (Tryz.f70.body.getD .skip) = [] := by kernel_rfl
noncomputable def ay : Abs.Spec := fun args K => match args with
 | [.v (.int .i64 a), .sl (.ints .u8 b)] => P.aek a b (fun c d => K (.tuple [.fr 5 (.ints .u8 c), .v (.int .i64 d)]))
 | _ => none
noncomputable def spec : Abs.Spec := fun args K => ay (ou [.any, .sl (.ints .u8 [])] args) K
theorem ok0 : Proved Tryz.prog GLO.gx 70 ay := by
 refine bq (D := D) (fn := Tryz.f70) (c := Tryz.f70.body.getD .skip) [.fr 5 (.ints .u8 []), .any] (by kernel_rfl) (au (by kernel_rfl)) (by kernel_rfl) (by kernel_rfl) (by kernel_rfl) ⟨ahp.ok, ahj.ok, ab0.ok, trivial⟩ trivial ?_ ?_
 · rw [loops]; exact trivial
 · intro args K r h
   unfold ay at h
   split at h
   · rw [P.ayi] at h; exact Eq.trans (by kernel_rfl) h
   · cases h
theorem ok : Proved Tryz.prog GLO.gx 70 spec := d9 _ ok0
end aek

namespace xu
abbrev X4 := P.buj
def S4 : X4 → ASt := fun (c, d, a, b) => ⟨[(0, .ptr 0 0), (1, .ptr 1 0), (2, .v (.int .u64 c)), (3, .v (.int .i64 d))], [(0, some ⟨.box 138 [.arr .u64 24 a], false⟩), (1, some ⟨.box 138 [.arr .u64 24 b], false⟩)], 2, 32⟩
def V4 : ASt → Option X4
 | ⟨[(0, .ptr 0 0), (1, .ptr 1 0), (2, .v (.int .u64 c)), (3, .v (.int .i64 d))], [(0, some ⟨.box 138 [.arr .u64 24 a], false⟩), (1, some ⟨.box 138 [.arr .u64 24 b], false⟩)], 2, 32⟩ => some (c, d, a, b)
 | _ => none
theorem ar7 (st) (x) (h : V4 st = some x) : st = S4 x := by
 unfold V4 at h
 split at h
 · cases h; rfl
 · cases h
abbrev Y4 := P.b0y
def E4 (K : AExit → ASt → Option R) : Y4 → Option R := (fun x => K (.exit 0) (S4 x))
noncomputable def L4 : qc := fun st K => ac6 (V4 st) fun x => P.bzk x (E4 K)
noncomputable def D : Ctx := ({ P := Tryz.prog, G := [], globs := GLO.gx, hints := [(4, ⟨[0, 1, 2, 3], [], [0], [], none, [], []⟩)], loops := [(4, L4)], inl := [] } : Ctx)
theorem ajq (K) (next) (x) : kg D (dh Tryz.f131 4) K next (S4 x) = P.bq8 x (fun x => next (S4 x)) (E4 K) := by kernel_rfl
theorem arb : ji D (dh Tryz.f131 4) := fu S4 ar7 (by kernel_rfl) P.b6c ajq
theorem loops : cu (Tryz.f131.body.getD .skip) = [dh Tryz.f131 4] := by kernel_rfl
noncomputable def ay : Abs.Spec := fun args K => match args with
 | [] => P.xu (fun a => K (.arr .u64 24 a))
 | _ => none
noncomputable def spec : Abs.Spec := ay
theorem ok0 : Proved Tryz.prog GLO.gx 131 ay := by
 refine bq (D := D) (fn := Tryz.f131) (c := Tryz.f131.body.getD .skip) [.any] (by kernel_rfl) (au (by kernel_rfl)) (by kernel_rfl) (by kernel_rfl) (by kernel_rfl) trivial trivial ?_ ?_
 · rw [loops]; exact ⟨arb, trivial⟩
 · intro args K r h
   unfold ay at h
   split at h
   · rw [P.ak7] at h; exact Eq.trans (by kernel_rfl) h
   · cases h
theorem ok : Proved Tryz.prog GLO.gx 131 spec := ok0
end xu

namespace ad5
noncomputable def D : Ctx := ({ P := Tryz.prog, G := [], globs := GLO.gx, hints := [], loops := [], inl := [] } : Ctx)
theorem loops : cu (Tryz.f149.body.getD .skip) = [] := by kernel_rfl
noncomputable def ay : Abs.Spec := fun args K => match args with
 | [.v (.int .u64 a), .v (.int .i64 b)] => P.ad5 a b (fun c => K (.v (.int .u64 c)))
 | _ => none
noncomputable def spec : Abs.Spec := ay
theorem ok0 : Proved Tryz.prog GLO.gx 149 ay := by
 refine bq (D := D) (fn := Tryz.f149) (c := Tryz.f149.body.getD .skip) [.any] (by kernel_rfl) (au (by kernel_rfl)) (by kernel_rfl) (by kernel_rfl) (by kernel_rfl) trivial trivial ?_ ?_
 · rw [loops]; exact trivial
 · intro args K r h
   unfold ay at h
   split at h
   · rw [P.adk] at h; exact Eq.trans (by kernel_rfl) h
   · cases h
theorem ok : Proved Tryz.prog GLO.gx 149 spec := ok0
end ad5

namespace ag2
abbrev X6 := P.bwj
def S6 : X6 → ASt := fun (d, e, f, a, b, c) => ⟨[(1, .ptr 0 0), (2, .ptr 1 0), (3, .ptr 2 0), (4, .v (.int .i64 d)), (5, .v (.int .i64 e)), (6, .v (.int .i64 f))], [(0, some ⟨.box 107 [.arr .u64 25 a], false⟩), (1, some ⟨.box 107 [.arr .u64 25 b], false⟩), (2, some ⟨.box 107 [.arr .u64 25 c], false⟩)], 3, 44⟩
def V6 : ASt → Option X6
 | ⟨[(1, .ptr 0 0), (2, .ptr 1 0), (3, .ptr 2 0), (4, .v (.int .i64 d)), (5, .v (.int .i64 e)), (6, .v (.int .i64 f))], [(0, some ⟨.box 107 [.arr .u64 25 a], false⟩), (1, some ⟨.box 107 [.arr .u64 25 b], false⟩), (2, some ⟨.box 107 [.arr .u64 25 c], false⟩)], 3, 44⟩ => some (d, e, f, a, b, c)
 | _ => none
theorem bk5 (st) (x) (h : V6 st = some x) : st = S6 x := by
 unfold V6 at h
 split at h
 · cases h; rfl
 · cases h
abbrev Y6 := P.b5d
def E6 (K : AExit → ASt → Option R) : Y6 → Option R := (fun x => K (.exit 0) (S6 x))
noncomputable def L6 : qc := fun st K => ac6 (V6 st) fun x => P.b3o x (E6 K)
noncomputable def D : Ctx := ({ P := Tryz.prog, G := [(149, ad5.spec)], globs := GLO.gx, hints := [(6, ⟨[1, 2, 3, 4, 5, 6], [], [2], [], none, [], []⟩)], loops := [(6, L6)], inl := [] } : Ctx)
theorem bcl (K) (next) (x) : kg D (dh Tryz.f132 6) K next (S6 x) = P.brh x (fun x => next (S6 x)) (E6 K) := by kernel_rfl
theorem bic : ji D (dh Tryz.f132 6) := fu S6 bk5 (by kernel_rfl) P.b6g bcl
theorem loops : cu (Tryz.f132.body.getD .skip) = [dh Tryz.f132 6] := by kernel_rfl
noncomputable def ay : Abs.Spec := fun args K => match args with
 | [.arr .u64 25 a] => P.ag2 a (fun b => K (.arr .u64 25 b))
 | _ => none
noncomputable def spec : Abs.Spec := ay
theorem ok0 : Proved Tryz.prog GLO.gx 132 ay := by
 refine bq (D := D) (fn := Tryz.f132) (c := Tryz.f132.body.getD .skip) [.any] (by kernel_rfl) (au (by kernel_rfl)) (by kernel_rfl) (by kernel_rfl) (by kernel_rfl) ⟨ad5.ok, trivial⟩ trivial ?_ ?_
 · rw [loops]; exact ⟨bic, trivial⟩
 · intro args K r h
   unfold ay at h
   split at h
   · rw [P.aug] at h; exact Eq.trans (by kernel_rfl) h
   · cases h
theorem ok : Proved Tryz.prog GLO.gx 132 spec := ok0
end ag2

namespace ach
abbrev X3 := P.bt5
def S3 : X3 → ASt := fun (d, a, b, c) => ⟨[(1, .ptr 0 0), (2, .ptr 1 0), (3, .ptr 2 0), (4, .v (.int .i64 d))], [(0, some ⟨.box 107 [.arr .u64 25 a], false⟩), (1, some ⟨.box 107 [.arr .u64 25 b], false⟩), (2, some ⟨.box 167 [.arr .u64 5 c], false⟩)], 3, 44⟩
def V3 : ASt → Option X3
 | ⟨[(1, .ptr 0 0), (2, .ptr 1 0), (3, .ptr 2 0), (4, .v (.int .i64 d))], [(0, some ⟨.box 107 [.arr .u64 25 a], false⟩), (1, some ⟨.box 107 [.arr .u64 25 b], false⟩), (2, some ⟨.box 167 [.arr .u64 5 c], false⟩)], 3, 44⟩ => some (d, a, b, c)
 | _ => none
theorem akt (st) (x) (h : V3 st = some x) : st = S3 x := by
 unfold V3 at h
 split at h
 · cases h; rfl
 · cases h
abbrev Y3 := P.b21
abbrev X7 := P.bum
def S7 : X7 → ASt := fun (d, a, b, c) => ⟨[(1, .ptr 0 0), (2, .ptr 1 0), (3, .ptr 2 0), (5, .v (.int .i64 d))], [(2, some ⟨.box 167 [.arr .u64 5 a], false⟩), (1, some ⟨.box 107 [.arr .u64 25 b], false⟩), (0, some ⟨.box 107 [.arr .u64 25 c], false⟩)], 3, 44⟩
def V7 : ASt → Option X7
 | ⟨[(1, .ptr 0 0), (2, .ptr 1 0), (3, .ptr 2 0), (5, .v (.int .i64 d))], [(2, some ⟨.box 167 [.arr .u64 5 a], false⟩), (1, some ⟨.box 107 [.arr .u64 25 b], false⟩), (0, some ⟨.box 107 [.arr .u64 25 c], false⟩)], 3, 44⟩ => some (d, a, b, c)
 | _ => none
theorem avr (st) (x) (h : V7 st = some x) : st = S7 x := by
 unfold V7 at h
 split at h
 · cases h; rfl
 · cases h
abbrev Y7 := P.by0
def E3 (K : AExit → ASt → Option R) : Y3 → Option R := (fun x => K (.exit 0) (S3 x))
noncomputable def L3 : qc := fun st K => ac6 (V3 st) fun x => P.byz x (E3 K)
def E7 (K : AExit → ASt → Option R) : Y7 → Option R := (fun x => K (.exit 2) (S7 x))
noncomputable def L7 : qc := fun st K => ac6 (V7 st) fun x => P.b0q x (E7 K)
noncomputable def D : Ctx := ({ P := Tryz.prog, G := [(149, ad5.spec)], globs := GLO.gx, hints := [(7, ⟨[1, 2, 3, 5], [], [2], [], none, [], []⟩), (3, ⟨[1, 2, 3, 4], [], [2], [], none, [], []⟩)], loops := [(3, L3), (7, L7)], inl := [] } : Ctx)
theorem ad2 (K) (next) (x) : kg D (dh Tryz.f133 3) K next (S3 x) = P.bre x (fun x => next (S3 x)) (E3 K) := by kernel_rfl
theorem akn : ji D (dh Tryz.f133 3) := fu S3 akt (by kernel_rfl) P.b6w ad2
theorem amd (K) (next) (x) : kg D (dh Tryz.f133 7) K next (S7 x) = P.bra x (fun x => next (S7 x)) (E7 K) := by kernel_rfl
theorem at7 : ji D (dh Tryz.f133 7) := fu S7 avr (by kernel_rfl) P.b6t amd
theorem loops : cu (Tryz.f133.body.getD .skip) = [dh Tryz.f133 3, dh Tryz.f133 7] := by kernel_rfl
noncomputable def ay : Abs.Spec := fun args K => match args with
 | [.arr .u64 25 a] => P.ach a (fun b => K (.arr .u64 25 b))
 | _ => none
noncomputable def spec : Abs.Spec := ay
theorem ok0 : Proved Tryz.prog GLO.gx 133 ay := by
 refine bq (D := D) (fn := Tryz.f133) (c := Tryz.f133.body.getD .skip) [.any] (by kernel_rfl) (au (by kernel_rfl)) (by kernel_rfl) (by kernel_rfl) (by kernel_rfl) ⟨ad5.ok, trivial⟩ trivial ?_ ?_
 · rw [loops]; exact ⟨akn, at7, trivial⟩
 · intro args K r h
   unfold ay at h
   split at h
   · rw [P.ap2] at h; exact Eq.trans (by kernel_rfl) h
   · cases h
theorem ok : Proved Tryz.prog GLO.gx 133 spec := ok0
end ach

end
