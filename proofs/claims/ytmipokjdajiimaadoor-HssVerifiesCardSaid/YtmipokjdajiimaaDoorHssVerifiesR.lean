/-
  HssVerifies, part 18: an interpreter of my own over abstract values, the pure functions, the walks and the plain law.
-/

import Derived.Test.YtmipokjdajiimaaDoorHssVerifiesK
import Derived.Test.YtmipokjdajiimaaDoorHssVerifiesH
import Derived.Test.YtmipokjdajiimaaDoorProg
import Derived.Test.YtmipokjdajiimaaDoorHssVerifiesJ
import Derived.Test.YtmipokjdajiimaaDoorHssVerifiesQ
import Derived.KernelRfl
import Derived.Test.YtmipokjdajiimaaDoorHssVerifiesL
import Derived.Test.YtmipokjdajiimaaDoorHssVerifiesP

section
open Go Go.Abs Go.Proofs
set_option maxRecDepth 100000
set_option maxHeartbeats 0
set_option linter.unusedVariables false

namespace aa0
abbrev X4 := P.bq7
def S4 : X4 → ASt := fun (h, i, a, b, c, d, e, f, g) => ⟨[(2, .ptr 0 0), (4, .ptr 1 0), (5, .v (.int .i64 h)), (6, .sl (.ints .u8 i))], [(0, some ⟨.box 125 [.v (.int .i64 a), .arr .u64 8 b, .sl (.ints .u8 c), .v (.int .u64 d)], false⟩), (1, some ⟨.box 125 [.v (.int .i64 e), .arr .u64 8 f, .v (.slice none 0 0), .v (.int .u64 g)], false⟩)], 40, 41⟩
def V4 : ASt → Option X4
 | ⟨[(2, .ptr 0 0), (4, .ptr 1 0), (5, .v (.int .i64 h)), (6, .sl (.ints .u8 i))], [(0, some ⟨.box 125 [.v (.int .i64 a), .arr .u64 8 b, .sl (.ints .u8 c), .v (.int .u64 d)], false⟩), (1, some ⟨.box 125 [.v (.int .i64 e), .arr .u64 8 f, .v (.slice none 0 0), .v (.int .u64 g)], false⟩)], 40, 41⟩ => some (h, i, a, b, c, d, e, f, g)
 | _ => none
theorem ax8 (st) (x) (h : V4 st = some x) : st = S4 x := by
 unfold V4 at h
 split at h
 · cases h; rfl
 · cases h
abbrev Y4 := P.bvv
def E4 (K : AExit → ASt → Option R) : Y4 → Option R := (fun x => K (.exit 0) (S4 x))
noncomputable def L4 : sj := fun st K => ad3 (V4 st) fun x => P.bva x (E4 K)
noncomputable def D : Ctx := ({ P := Tryd.prog, G := [(93, qg.spec), (112, wo.spec), (113, ab2.spec)], globs := GLO.gB, hints := [(4, ⟨[2, 4, 5, 6], [], [4], [(6, .sl (.ints .u8 []))], some (40, [0, 1]), [], [], []⟩)], loops := [(4, L4)], inl := [] } : Ctx)
theorem am8 (K) (next) (x) : ko D (dw Tryd.f106 4) K next (S4 x) = P.bon x (fun x => next (S4 x)) (E4 K) := by kernel_rfl
theorem aw2 : jm D (dw Tryd.f106 4) := fq S4 ax8 (by kernel_rfl) P.bz0 am8
theorem loops : dh (Tryd.f106.body.getD .skip) = [dw Tryd.f106 4] := by kernel_rfl
noncomputable def au : Abs.Spec := fun args K => match args with
 | [.agg [.v (.int .i64 c), .arr .u64 8 a, .sl (.ints .u8 d), .v (.int .u64 e)], .sl (.ints .u8 i)] => P.aa0 c a d e i (fun f b g h => K (.agg [.v (.int .i64 f), .arr .u64 8 b, .sl (.ints .u8 g), .v (.int .u64 h)]))
 | _ => none
noncomputable def spec : Abs.Spec := fun args K => au (mo [.agg [.any, .any, .sl (.ints .u8 []), .any], .sl (.ints .u8 [])] args) K
theorem ok0 : Proved Tryd.prog GLO.gB 106 au := by
 refine cu (D := D) (fn := Tryd.f106) (c := Tryd.f106.body.getD .skip) [.agg [.any, .any, .sl (.ints .u8 []), .any]] (by kernel_rfl) (aj (by kernel_rfl)) (by kernel_rfl) (by kernel_rfl) (by kernel_rfl) ⟨qg.ok, wo.ok, ab2.ok, trivial⟩ trivial ?_ ?_
 · rw [loops]; exact ⟨aw2, trivial⟩
 · intro args K r h
   unfold au at h
   split at h
   · rw [P.av9] at h; exact Eq.trans (by kernel_rfl) h
   · cases h
theorem ok : Proved Tryd.prog GLO.gB 106 spec := dz _ ok0
end aa0

namespace afj
abbrev X4 := P.bp2
def S4 : X4 → ASt := fun (f, g, e, a, b, c, d) => ⟨[(5, .own 40), (1, .ptr 0 0), (3, .v (.int .i64 f)), (4, .v (.int .u64 g))], [(40, some ⟨.row 5 (.ints .u8 e), false⟩), (0, some ⟨.box 125 [.v (.int .i64 a), .arr .u64 8 b, .sl (.ints .u8 c), .v (.int .u64 d)], false⟩)], 41, 77⟩
def V4 : ASt → Option X4
 | ⟨[(5, .own 40), (1, .ptr 0 0), (3, .v (.int .i64 f)), (4, .v (.int .u64 g))], [(40, some ⟨.row 5 (.ints .u8 e), false⟩), (0, some ⟨.box 125 [.v (.int .i64 a), .arr .u64 8 b, .sl (.ints .u8 c), .v (.int .u64 d)], false⟩)], 41, 77⟩ => some (f, g, e, a, b, c, d)
 | _ => none
theorem ax8 (st) (x) (h : V4 st = some x) : st = S4 x := by
 unfold V4 at h
 split at h
 · cases h; rfl
 · cases h
abbrev Y4 := P.bx3
abbrev X8 := P.bqq
def S8 : X8 → ASt := fun (f, g, e, a, b, c, d) => ⟨[(5, .own 80), (1, .ptr 0 0), (3, .v (.int .i64 f)), (4, .v (.int .u64 g))], [(80, some ⟨.row 5 (.ints .u8 e), false⟩), (0, some ⟨.box 125 [.v (.int .i64 a), .arr .u64 8 b, .sl (.ints .u8 c), .v (.int .u64 d)], false⟩)], 81, 77⟩
def V8 : ASt → Option X8
 | ⟨[(5, .own 80), (1, .ptr 0 0), (3, .v (.int .i64 f)), (4, .v (.int .u64 g))], [(80, some ⟨.row 5 (.ints .u8 e), false⟩), (0, some ⟨.box 125 [.v (.int .i64 a), .arr .u64 8 b, .sl (.ints .u8 c), .v (.int .u64 d)], false⟩)], 81, 77⟩ => some (f, g, e, a, b, c, d)
 | _ => none
theorem ayd (st) (x) (h : V8 st = some x) : st = S8 x := by
 unfold V8 at h
 split at h
 · cases h; rfl
 · cases h
abbrev Y8 := P.bvl
abbrev X14 := P.bqs
def S14 : X14 → ASt := fun (f, g, a, b, c, d, e) => ⟨[(6, .own 120), (1, .ptr 0 0), (3, .v (.int .i64 f)), (7, .v (.int .i64 g))], [(120, some ⟨.row 5 (.ints .u8 a), false⟩), (0, some ⟨.box 125 [.v (.int .i64 b), .arr .u64 8 c, .sl (.ints .u8 d), .v (.int .u64 e)], false⟩)], 121, 77⟩
def V14 : ASt → Option X14
 | ⟨[(6, .own 120), (1, .ptr 0 0), (3, .v (.int .i64 f)), (7, .v (.int .i64 g))], [(120, some ⟨.row 5 (.ints .u8 a), false⟩), (0, some ⟨.box 125 [.v (.int .i64 b), .arr .u64 8 c, .sl (.ints .u8 d), .v (.int .u64 e)], false⟩)], 121, 77⟩ => some (f, g, a, b, c, d, e)
 | _ => none
theorem bry (st) (x) (h : V14 st = some x) : st = S14 x := by
 unfold V14 at h
 split at h
 · cases h; rfl
 · cases h
abbrev Y14 := P.bvj
def E4 (K : AExit → ASt → Option R) : Y4 → Option R := (fun x => K (.exit 0) (S4 x))
noncomputable def L4 : sj := fun st K => ad3 (V4 st) fun x => P.byl x (E4 K)
def E8 (K : AExit → ASt → Option R) : Y8 → Option R := (fun x => K (.exit 2) (S8 x))
noncomputable def L8 : sj := fun st K => ad3 (V8 st) fun x => P.bys x (E8 K)
def E14 (K : AExit → ASt → Option R) : Y14 → Option R := (fun x => K (.exit 4) (S14 x))
noncomputable def L14 : sj := fun st K => ad3 (V14 st) fun x => P.buc x (E14 K)
noncomputable def D : Ctx := ({ P := Tryd.prog, G := [(77, j5.spec), (106, aa0.spec), (112, wo.spec)], globs := GLO.gB, hints := [(14, ⟨[1, 3, 7], [(6, 5, .ints .u8 [])], [2], [], some (120, [0]), [0], [], []⟩), (8, ⟨[1, 3, 4], [(5, 5, .ints .u8 [])], [2], [], some (80, [0]), [0], [], []⟩), (4, ⟨[1, 3, 4], [(5, 5, .ints .u8 [])], [2], [], some (40, [0]), [0], [], []⟩)], loops := [(4, L4), (8, L8), (14, L14)], inl := [] } : Ctx)
theorem am8 (K) (next) (x) : ko D (dw Tryd.f105 4) K next (S4 x) = P.brm x (fun x => next (S4 x)) (E4 K) := by kernel_rfl
theorem aw2 : jm D (dw Tryd.f105 4) := fq S4 ax8 (by kernel_rfl) P.bzo am8
theorem amj (K) (next) (x) : ko D (dw Tryd.f105 8) K next (S8 x) = P.bpi x (fun x => next (S8 x)) (E8 K) := by kernel_rfl
theorem axb : jm D (dw Tryd.f105 8) := fq S8 ayd (by kernel_rfl) P.b0c amj
theorem bmc (K) (next) (x) : ko D (dw Tryd.f105 14) K next (S14 x) = P.boz x (fun x => next (S14 x)) (E14 K) := by kernel_rfl
theorem bqh : jm D (dw Tryd.f105 14) := fq S14 bry (by kernel_rfl) P.by8 bmc
theorem loops : dh (Tryd.f105.body.getD .skip) = [dw Tryd.f105 4, dw Tryd.f105 8, dw Tryd.f105 14] := by kernel_rfl
noncomputable def au : Abs.Spec := fun args K => match args with
 | [.agg [.v (.int .i64 b), .arr .u64 8 a, .sl (.ints .u8 c), .v (.int .u64 d)]] => P.afj b a c d (fun e => K (.fr 5 (.ints .u8 e)))
 | _ => none
noncomputable def spec : Abs.Spec := fun args K => au (mo [.agg [.any, .any, .sl (.ints .u8 []), .any]] args) K
theorem ok0 : Proved Tryd.prog GLO.gB 105 au := by
 refine apr (D := D) (fn := Tryd.f105) (c := Tryd.f105.body.getD .skip) 5 (.ints .u8 []) (by kernel_rfl) (aj (by kernel_rfl)) (by kernel_rfl) (by kernel_rfl) (by kernel_rfl) ⟨j5.ok, aa0.ok, wo.ok, trivial⟩ trivial ?_ ?_
 · rw [loops]; exact ⟨aw2, axb, bqh, trivial⟩
 · intro args K r h
   unfold au at h
   split at h
   · rw [P.avn] at h; exact Eq.trans (by kernel_rfl) h
   · cases h
theorem ok : Proved Tryd.prog GLO.gB 105 spec := dz _ ok0
end afj

namespace afv
noncomputable def D : Ctx := ({ P := Tryd.prog, G := [], globs := GLO.gB, hints := [], loops := [], inl := [] } : Ctx)
theorem loops : dh (Tryd.f104.body.getD .skip) = [] := by kernel_rfl
noncomputable def au : Abs.Spec := fun args K => match args with
 | [.v (.int .i64 e)] => P.afv e (fun b a c d f => K (.tuple [.agg [.v (.int .i64 b), .arr .u64 8 a, .fr 5 (.ints .u8 c), .v (.int .u64 d)], .v (.int .i64 f)]))
 | _ => none
noncomputable def spec : Abs.Spec := au
theorem ok0 : Proved Tryd.prog GLO.gB 104 au := by
 refine cu (D := D) (fn := Tryd.f104) (c := Tryd.f104.body.getD .skip) [.agg [.any, .any, .fr 5 (.ints .u8 []), .any], .any] (by kernel_rfl) (aj (by kernel_rfl)) (by kernel_rfl) (by kernel_rfl) (by kernel_rfl) trivial trivial ?_ ?_
 · rw [loops]; exact trivial
 · intro args K r h
   unfold au at h
   split at h
   · rw [P.awf] at h; exact Eq.trans (by kernel_rfl) h
   · cases h
theorem ok : Proved Tryd.prog GLO.gB 104 spec := ok0
end afv

namespace afc
noncomputable def D : Ctx := ({ P := Tryd.prog, G := [(104, afv.spec), (105, afj.spec), (106, aa0.spec)], globs := GLO.gB, hints := [], loops := [], inl := [] } : Ctx)
theorem loops : dh (Tryd.f94.body.getD .skip) = [] := by kernel_rfl
noncomputable def au : Abs.Spec := fun args K => match args with
 | [.v (.int .i64 a), .sl (.ints .u8 b)] => P.afc a b (fun c d => K (.tuple [.fr 5 (.ints .u8 c), .v (.int .i64 d)]))
 | _ => none
noncomputable def spec : Abs.Spec := fun args K => au (mo [.any, .sl (.ints .u8 [])] args) K
theorem ok0 : Proved Tryd.prog GLO.gB 94 au := by
 refine cu (D := D) (fn := Tryd.f94) (c := Tryd.f94.body.getD .skip) [.fr 5 (.ints .u8 []), .any] (by kernel_rfl) (aj (by kernel_rfl)) (by kernel_rfl) (by kernel_rfl) (by kernel_rfl) ⟨afv.ok, afj.ok, aa0.ok, trivial⟩ trivial ?_ ?_
 · rw [loops]; exact trivial
 · intro args K r h
   unfold au at h
   split at h
   · rw [P.awm] at h; exact Eq.trans (by kernel_rfl) h
   · cases h
theorem ok : Proved Tryd.prog GLO.gB 94 spec := dz _ ok0
end afc

namespace af0
noncomputable def D : Ctx := ({ P := Tryd.prog, G := [(93, qg.spec), (94, afc.spec)], globs := GLO.gB, hints := [], loops := [], inl := [] } : Ctx)
theorem loops : dh (Tryd.f82.body.getD .skip) = [] := by kernel_rfl
noncomputable def au : Abs.Spec := fun args K => match args with
 | [.sl (.rows .u8 a)] => P.af0 a (fun b => K (.fr 5 (.ints .u8 b)))
 | _ => none
noncomputable def spec : Abs.Spec := fun args K => au (mo [.sl (.rows .u8 [])] args) K
theorem ok0 : Proved Tryd.prog GLO.gB 82 au := by
 refine cu (D := D) (fn := Tryd.f82) (c := Tryd.f82.body.getD .skip) [.fr 5 (.ints .u8 [])] (by kernel_rfl) (aj (by kernel_rfl)) (by kernel_rfl) (by kernel_rfl) (by kernel_rfl) ⟨qg.ok, afc.ok, trivial⟩ trivial ?_ ?_
 · rw [loops]; exact trivial
 · intro args K r h
   unfold au at h
   split at h
   · rw [P.ben] at h; exact Eq.trans (by kernel_rfl) h
   · cases h
theorem ok : Proved Tryd.prog GLO.gB 82 spec := dz _ ok0
end af0

namespace ac3
abbrev X2 := P.bq9
def S2 : X2 → ASt := fun (b, c, d, e, f, a) => ⟨[(0, .sl (.ints .u8 b)), (1, .v (.int .u32 c)), (2, .v (.int .i64 d)), (4, .v (.int .i64 e)), (5, .sl (.ints .u8 f)), (13, .v (.int .i64 a))], [], 0, 34⟩
def V2 : ASt → Option X2
 | ⟨[(0, .sl (.ints .u8 b)), (1, .v (.int .u32 c)), (2, .v (.int .i64 d)), (4, .v (.int .i64 e)), (5, .sl (.ints .u8 f)), (13, .v (.int .i64 a))], [], 0, 34⟩ => some (b, c, d, e, f, a)
 | _ => none
theorem ax7 (st) (x) (h : V2 st = some x) : st = S2 x := by
 unfold V2 at h
 split at h
 · cases h; rfl
 · cases h
abbrev Y2 := P.bx5
def E2 (K : AExit → ASt → Option R) : Y2 → Option R := (fun x => K (.exit 0) (S2 x))
noncomputable def L2 : sj := fun st K => ad3 (V2 st) fun x => P.bt8 x (E2 K)
noncomputable def D : Ctx := ({ P := Tryd.prog, G := [(77, j5.spec), (82, af0.spec)], globs := GLO.gB, hints := [(2, ⟨[0, 1, 2, 4, 5, 13], [], [12], [(5, .sl (.ints .u8 []))], none, [], [], []⟩)], loops := [(2, L2)], inl := [] } : Ctx)
theorem ane (K) (next) (x) : ko D (dw Tryd.f80 2) K next (S2 x) = P.bq8 x (fun x => next (S2 x)) (E2 K) := by kernel_rfl
theorem axh : jm D (dw Tryd.f80 2) := fq S2 ax7 (by kernel_rfl) P.bz1 ane
theorem loops : dh (Tryd.f80.body.getD .skip) = [dw Tryd.f80 2] := by kernel_rfl
noncomputable def au : Abs.Spec := fun args K => match args with
 | [.sl (.ints .u8 a), .v (.int .u32 b), .v (.int .i64 c), .v (.int .i64 d), .v (.int .i64 e), .sl (.ints .u8 f)] => P.ac3 a b c d e f (fun g => K (.sl (.ints .u8 g)))
 | _ => none
noncomputable def spec : Abs.Spec := fun args K => au (mo [.sl (.ints .u8 []), .any, .any, .any, .any, .sl (.ints .u8 [])] args) K
theorem ok0 : Proved Tryd.prog GLO.gB 80 au := by
 refine cu (D := D) (fn := Tryd.f80) (c := Tryd.f80.body.getD .skip) [.sl (.ints .u8 [])] (by kernel_rfl) (aj (by kernel_rfl)) (by kernel_rfl) (by kernel_rfl) (by kernel_rfl) ⟨j5.ok, af0.ok, trivial⟩ trivial ?_ ?_
 · rw [loops]; exact ⟨axh, trivial⟩
 · intro args K r h
   unfold au at h
   split at h
   · rw [P.aqm] at h; exact Eq.trans (by kernel_rfl) h
   · cases h
theorem ok : Proved Tryd.prog GLO.gB 80 spec := dz _ ok0
end ac3

namespace abv
noncomputable def D : Ctx := ({ P := Tryd.prog, G := [(77, j5.spec), (82, af0.spec)], globs := GLO.gB, hints := [], loops := [], inl := [] } : Ctx)
theorem loops : dh (Tryd.f79.body.getD .skip) = [] := by kernel_rfl
noncomputable def au : Abs.Spec := fun args K => match args with
 | [.sl (.ints .u8 a), .v (.int .u32 b), .sl (.ints .u8 c), .sl (.ints .u8 d)] => P.abv a b c d (fun e => K (.fr 5 (.ints .u8 e)))
 | _ => none
noncomputable def spec : Abs.Spec := fun args K => au (mo [.sl (.ints .u8 []), .any, .sl (.ints .u8 []), .sl (.ints .u8 [])] args) K
theorem ok0 : Proved Tryd.prog GLO.gB 79 au := by
 refine cu (D := D) (fn := Tryd.f79) (c := Tryd.f79.body.getD .skip) [.fr 5 (.ints .u8 [])] (by kernel_rfl) (aj (by kernel_rfl)) (by kernel_rfl) (by kernel_rfl) (by kernel_rfl) ⟨j5.ok, af0.ok, trivial⟩ trivial ?_ ?_
 · rw [loops]; exact trivial
 · intro args K r h
   unfold au at h
   split at h
   · rw [P.anj] at h; exact Eq.trans (by kernel_rfl) h
   · cases h
theorem ok : Proved Tryd.prog GLO.gB 79 spec := dz _ ok0
end abv

namespace ahw
noncomputable def D : Ctx := ({ P := Tryd.prog, G := [(77, j5.spec), (82, af0.spec), (93, qg.spec)], globs := GLO.gB, hints := [], loops := [], inl := [] } : Ctx)
theorem loops : dh (Tryd.f81.body.getD .skip) = [] := by kernel_rfl
noncomputable def au : Abs.Spec := fun args K => match args with
 | [.sl (.ints .u8 a), .v (.int .u32 b), .sl (.rows .u8 c)] => P.ahw a b c (fun d => K (.fr 5 (.ints .u8 d)))
 | _ => none
noncomputable def spec : Abs.Spec := fun args K => au (mo [.sl (.ints .u8 []), .any, .sl (.rows .u8 [])] args) K
theorem ok0 : Proved Tryd.prog GLO.gB 81 au := by
 refine cu (D := D) (fn := Tryd.f81) (c := Tryd.f81.body.getD .skip) [.fr 5 (.ints .u8 [])] (by kernel_rfl) (aj (by kernel_rfl)) (by kernel_rfl) (by kernel_rfl) (by kernel_rfl) ⟨j5.ok, af0.ok, qg.ok, trivial⟩ trivial ?_ ?_
 · rw [loops]; exact trivial
 · intro args K r h
   unfold au at h
   split at h
   · rw [P.auz] at h; exact Eq.trans (by kernel_rfl) h
   · cases h
theorem ok : Proved Tryd.prog GLO.gB 81 spec := dz _ ok0
end ahw

namespace u6
abbrev X11 := P.bsd
def S11 : X11 → ASt := fun (d, e, f, g, a, b, c, h) => ⟨[(17, .own 40), (0, .v (.int .i64 d)), (1, .sl (.ints .u8 e)), (2, .v (.int .u32 f)), (4, .sl (.ints .u8 g)), (12, .v (.int .i64 a)), (15, .own 1), (18, .v (.int .i64 b))], [(40, some ⟨.row 23 (.rows .u8 c), false⟩), (1, some ⟨.row 42 (.ints .u32 h), false⟩)], 41, 85⟩
def V11 : ASt → Option X11
 | ⟨[(17, .own 40), (0, .v (.int .i64 d)), (1, .sl (.ints .u8 e)), (2, .v (.int .u32 f)), (4, .sl (.ints .u8 g)), (12, .v (.int .i64 a)), (15, .own 1), (18, .v (.int .i64 b))], [(40, some ⟨.row 23 (.rows .u8 c), false⟩), (1, some ⟨.row 42 (.ints .u32 h), false⟩)], 41, 85⟩ => some (d, e, f, g, a, b, c, h)
 | _ => none
theorem azp (st) (x) (h : V11 st = some x) : st = S11 x := by
 unfold V11 at h
 split at h
 · cases h; rfl
 · cases h
abbrev Y11 := P.bur
def E11 (K : AExit → ASt → Option R) : Y11 → Option R := (fun x => K (.exit 0) (S11 x))
noncomputable def L11 : sj := fun st K => ad3 (V11 st) fun x => P.byo x (E11 K)
noncomputable def D : Ctx := ({ P := Tryd.prog, G := [(34, oh.spec), (55, qp.spec), (76, ny.spec), (78, abk.spec), (79, abv.spec), (80, ac3.spec), (81, ahw.spec)], globs := GLO.gB, hints := [(11, ⟨[0, 1, 2, 4, 12, 15, 18], [(17, 23, .rows .u8 [])], [10, 11], [], some (40, [1]), [], [], []⟩)], loops := [(11, L11)], inl := [] } : Ctx)
theorem arx (K) (next) (x) : ko D (dw Tryd.f59 11) K next (S11 x) = P.bp9 x (fun x => next (S11 x)) (E11 K) := by kernel_rfl
theorem azc : jm D (dw Tryd.f59 11) := fq S11 azp (by kernel_rfl) P.b0h arx
theorem loops : dh (Tryd.f59.body.getD .skip) = [dw Tryd.f59 11] := by kernel_rfl
noncomputable def au : Abs.Spec := fun args K => match args with
 | [.v (.int .i64 a), .sl (.ints .u8 b), .v (.int .u32 c), .sl (.ints .u8 d), .sl (.ints .u8 e)] => P.u6 a b c d e (fun f g => K (.tuple [.fr 5 (.ints .u8 f), .v (.int .i64 g)]))
 | _ => none
noncomputable def spec : Abs.Spec := fun args K => au (mo [.any, .sl (.ints .u8 []), .any, .sl (.ints .u8 []), .sl (.ints .u8 [])] args) K
theorem ok0 : Proved Tryd.prog GLO.gB 59 au := by
 refine cu (D := D) (fn := Tryd.f59) (c := Tryd.f59.body.getD .skip) [.fr 5 (.ints .u8 []), .any] (by kernel_rfl) (aj (by kernel_rfl)) (by kernel_rfl) (by kernel_rfl) (by kernel_rfl) ⟨oh.ok, qp.ok, ny.ok, abk.ok, abv.ok, ac3.ok, ahw.ok, trivial⟩ trivial ?_ ?_
 · rw [loops]; exact ⟨azc, trivial⟩
 · intro args K r h
   unfold au at h
   split at h
   · rw [P.aiv] at h; exact Eq.trans (by kernel_rfl) h
   · cases h
theorem ok : Proved Tryd.prog GLO.gB 59 spec := dz _ ok0
end u6

namespace ae5
noncomputable def D : Ctx := ({ P := Tryd.prog, G := [(54, uo.spec), (76, ny.spec), (77, j5.spec)], globs := GLO.gB, hints := [], loops := [], inl := [] } : Ctx)
theorem loops : dh (Tryd.f58.body.getD .skip) = [] := by kernel_rfl
noncomputable def au : Abs.Spec := fun args K => match args with
 | [.agg [.v (.int .i64 a), .v (.int .i64 b)]] => P.ae5 a b (fun c => K (.fr 5 (.ints .u8 c)))
 | _ => none
noncomputable def spec : Abs.Spec := au
theorem ok0 : Proved Tryd.prog GLO.gB 58 au := by
 refine cu (D := D) (fn := Tryd.f58) (c := Tryd.f58.body.getD .skip) [.fr 5 (.ints .u8 [])] (by kernel_rfl) (aj (by kernel_rfl)) (by kernel_rfl) (by kernel_rfl) (by kernel_rfl) ⟨uo.ok, ny.ok, j5.ok, trivial⟩ trivial ?_ ?_
 · rw [loops]; exact trivial
 · intro args K r h
   unfold au at h
   split at h
   · rw [P.ar3] at h; exact Eq.trans (by kernel_rfl) h
   · cases h
theorem ok : Proved Tryd.prog GLO.gB 58 spec := ok0
end ae5

namespace uw
noncomputable def D : Ctx := ({ P := Tryd.prog, G := [(77, j5.spec), (82, af0.spec)], globs := GLO.gB, hints := [], loops := [], inl := [] } : Ctx)
theorem loops : dh (Tryd.f60.body.getD .skip) = [] := by kernel_rfl
noncomputable def au : Abs.Spec := fun args K => match args with
 | [.sl (.ints .u8 a), .v (.int .u64 b), .sl (.ints .u8 c)] => P.uw a b c (fun d => K (.fr 5 (.ints .u8 d)))
 | _ => none
noncomputable def spec : Abs.Spec := fun args K => au (mo [.sl (.ints .u8 []), .any, .sl (.ints .u8 [])] args) K
theorem ok0 : Proved Tryd.prog GLO.gB 60 au := by
 refine cu (D := D) (fn := Tryd.f60) (c := Tryd.f60.body.getD .skip) [.fr 5 (.ints .u8 [])] (by kernel_rfl) (aj (by kernel_rfl)) (by kernel_rfl) (by kernel_rfl) (by kernel_rfl) ⟨j5.ok, af0.ok, trivial⟩ trivial ?_ ?_
 · rw [loops]; exact trivial
 · intro args K r h
   unfold au at h
   split at h
   · rw [P.akx] at h; exact Eq.trans (by kernel_rfl) h
   · cases h
theorem ok : Proved Tryd.prog GLO.gB 60 spec := dz _ ok0
end uw

namespace abu
noncomputable def D : Ctx := ({ P := Tryd.prog, G := [(77, j5.spec), (82, af0.spec)], globs := GLO.gB, hints := [], loops := [], inl := [] } : Ctx)
theorem loops : dh (Tryd.f61.body.getD .skip) = [] := by kernel_rfl
noncomputable def au : Abs.Spec := fun args K => match args with
 | [.sl (.ints .u8 a), .v (.int .u64 b), .sl (.ints .u8 c), .sl (.ints .u8 d)] => P.abu a b c d (fun e => K (.fr 5 (.ints .u8 e)))
 | _ => none
noncomputable def spec : Abs.Spec := fun args K => au (mo [.sl (.ints .u8 []), .any, .sl (.ints .u8 []), .sl (.ints .u8 [])] args) K
theorem ok0 : Proved Tryd.prog GLO.gB 61 au := by
 refine cu (D := D) (fn := Tryd.f61) (c := Tryd.f61.body.getD .skip) [.fr 5 (.ints .u8 [])] (by kernel_rfl) (aj (by kernel_rfl)) (by kernel_rfl) (by kernel_rfl) (by kernel_rfl) ⟨j5.ok, af0.ok, trivial⟩ trivial ?_ ?_
 · rw [loops]; exact trivial
 · intro args K r h
   unfold au at h
   split at h
   · rw [P.ar9] at h; exact Eq.trans (by kernel_rfl) h
   · cases h
theorem ok : Proved Tryd.prog GLO.gB 61 spec := dz _ ok0
end abu

namespace yt
abbrev X17 := P.bp5
def S17 : X17 → ASt := fun (e, a, b, c, d) => ⟨[(0, .sl (.ints .u8 e)), (12, .sl (.ints .u8 a)), (16, .v (.int .u64 b)), (17, .sl (.ints .u8 c)), (18, .sl (.ints .u8 d))], [], 40, 125⟩
def V17 : ASt → Option X17
 | ⟨[(0, .sl (.ints .u8 e)), (12, .sl (.ints .u8 a)), (16, .v (.int .u64 b)), (17, .sl (.ints .u8 c)), (18, .sl (.ints .u8 d))], [], 40, 125⟩ => some (e, a, b, c, d)
 | _ => none
theorem bpy (st) (x) (h : V17 st = some x) : st = S17 x := by
 unfold V17 at h
 split at h
 · cases h; rfl
 · cases h
abbrev Y17 := P.bt0
def E17 (K : AExit → ASt → Option R) : Y17 → Option R := (fun x => K (.exit 0) (S17 x))
noncomputable def L17 : sj := fun st K => ad3 (V17 st) fun x => P.buy x (E17 K)
noncomputable def D : Ctx := ({ P := Tryd.prog, G := [(28, yw.spec), (34, oh.spec), (35, zm.spec), (55, qp.spec), (56, ou.spec), (57, ku.spec), (58, ae5.spec), (59, u6.spec), (60, uw.spec), (61, abu.spec)], globs := GLO.gB, hints := [(17, ⟨[0, 12, 16, 17, 18], [], [6], [(17, .sl (.ints .u8 [])), (18, .sl (.ints .u8 []))], some (40, []), [], [], []⟩)], loops := [(17, L17)], inl := [] } : Ctx)
theorem bms (K) (next) (x) : ko D (dw Tryd.f36 17) K next (S17 x) = P.boy x (fun x => next (S17 x)) (E17 K) := by kernel_rfl
theorem br3 : jm D (dw Tryd.f36 17) := fq S17 bpy (by kernel_rfl) P.bzm bms
theorem loops : dh (Tryd.f36.body.getD .skip) = [dw Tryd.f36 17] := by kernel_rfl
noncomputable def au : Abs.Spec := fun args K => match args with
 | [.sl (.ints .u8 a), .sl (.ints .u8 b), .sl (.ints .u8 c)] => P.yt a b c (fun d => K (.v (.int .i64 d)))
 | _ => none
noncomputable def spec : Abs.Spec := fun args K => au (mo [.sl (.ints .u8 []), .sl (.ints .u8 []), .sl (.ints .u8 [])] args) K
theorem ok0 : Proved Tryd.prog GLO.gB 36 au := by
 refine cu (D := D) (fn := Tryd.f36) (c := Tryd.f36.body.getD .skip) [.any] (by kernel_rfl) (aj (by kernel_rfl)) (by kernel_rfl) (by kernel_rfl) (by kernel_rfl) ⟨yw.ok, oh.ok, zm.ok, qp.ok, ou.ok, ku.ok, ae5.ok, u6.ok, uw.ok, abu.ok, trivial⟩ trivial ?_ ?_
 · rw [loops]; exact ⟨br3, trivial⟩
 · intro args K r h
   unfold au at h
   split at h
   · rw [P.aoc] at h; exact Eq.trans (by kernel_rfl) h
   · cases h
theorem ok : Proved Tryd.prog GLO.gB 36 spec := dz _ ok0
end yt

namespace yj
abbrev X9 := P.bth
def S9 : X9 → ASt := fun (b, c, d, e, a) => ⟨[(1, .sl (.ints .u8 b)), (7, .v (.int .u64 c)), (8, .sl (.ints .u8 d)), (9, .sl (.ints .u8 e)), (10, .v (.int .u64 a))], [], 0, 88⟩
def V9 : ASt → Option X9
 | ⟨[(1, .sl (.ints .u8 b)), (7, .v (.int .u64 c)), (8, .sl (.ints .u8 d)), (9, .sl (.ints .u8 e)), (10, .v (.int .u64 a))], [], 0, 88⟩ => some (b, c, d, e, a)
 | _ => none
theorem arv (st) (x) (h : V9 st = some x) : st = S9 x := by
 unfold V9 at h
 split at h
 · cases h; rfl
 · cases h
abbrev Y9 := P.bxb
def E9 (K : AExit → ASt → Option R) : Y9 → Option R := (Sum.elim (fun x => K (.exit 0) (S9 x)) (fun (e, c, d, a, b) => K .ret ⟨[(6, .v (.int .i64 e))], [(0, some ⟨.box 44 [.v (.int .i64 c), .v (.int .i64 d)], false⟩), (0, some ⟨.box 44 [.v (.int .i64 a), .v (.int .i64 b)], false⟩)], 1, 88⟩))
noncomputable def L9 : sj := fun st K => ad3 (V9 st) fun x => P.bum x (E9 K)
noncomputable def D : Ctx := ({ P := Tryd.prog, G := [(34, oh.spec), (35, zm.spec), (36, yt.spec)], globs := GLO.gB, hints := [(9, ⟨[1, 7, 8, 9, 10], [], [6], [(8, .sl (.ints .u8 [])), (9, .sl (.ints .u8 []))], none, [], [], []⟩)], loops := [(9, L9)], inl := [] } : Ctx)
theorem ajg (K) (next) (x) : ko D (dw Tryd.f18 9) K next (S9 x) = P.bqy x (fun x => next (S9 x)) (E9 K) := by kernel_rfl
theorem ati : jm D (dw Tryd.f18 9) := fq S9 arv (by kernel_rfl) P.bza ajg
theorem loops : dh (Tryd.f18.body.getD .skip) = [dw Tryd.f18 9] := by kernel_rfl
noncomputable def au : Abs.Spec := fun args K => match args with
 | [.sl (.ints .u8 a), .sl (.ints .u8 b), .sl (.ints .u8 c)] => P.yj a b c (fun d => K (.v (.int .i64 d)))
 | _ => none
noncomputable def spec : Abs.Spec := fun args K => au (mo [.sl (.ints .u8 []), .sl (.ints .u8 []), .sl (.ints .u8 [])] args) K
theorem ok0 : Proved Tryd.prog GLO.gB 18 au := by
 refine cu (D := D) (fn := Tryd.f18) (c := Tryd.f18.body.getD .skip) [.any] (by kernel_rfl) (aj (by kernel_rfl)) (by kernel_rfl) (by kernel_rfl) (by kernel_rfl) ⟨oh.ok, zm.ok, yt.ok, trivial⟩ trivial ?_ ?_
 · rw [loops]; exact ⟨ati, trivial⟩
 · intro args K r h
   unfold au at h
   split at h
   · rw [P.aml] at h; exact Eq.trans (by kernel_rfl) h
   · cases h
theorem ok : Proved Tryd.prog GLO.gB 18 spec := dz _ ok0
end yj

namespace p8
noncomputable def D : Ctx := ({ P := Tryd.prog, G := [(8, aep.spec), (9, ql.spec), (17, qw.spec), (18, yj.spec)], globs := GLO.gB, hints := [], loops := [], inl := [] } : Ctx)
theorem loops : dh (Tryd.f4.body.getD .skip) = [] := by kernel_rfl
noncomputable def au : Abs.Spec := fun args K => match args with
 | [.sl (.ints .u8 a), .sl (.ints .u8 b), .sl (.ints .u8 c)] => P.p8 a b c (fun d => K (.v (.bool d)))
 | _ => none
noncomputable def spec : Abs.Spec := fun args K => au (mo [.sl (.ints .u8 []), .sl (.ints .u8 []), .sl (.ints .u8 [])] args) K
theorem ok0 : Proved Tryd.prog GLO.gB 4 au := by
 refine cu (D := D) (fn := Tryd.f4) (c := Tryd.f4.body.getD .skip) [.any] (by kernel_rfl) (aj (by kernel_rfl)) (by kernel_rfl) (by kernel_rfl) (by kernel_rfl) ⟨aep.ok, ql.ok, qw.ok, yj.ok, trivial⟩ trivial ?_ ?_
 · rw [loops]; exact trivial
 · intro args K r h
   unfold au at h
   split at h
   · rw [P.agi] at h; exact Eq.trans (by kernel_rfl) h
   · cases h
theorem ok : Proved Tryd.prog GLO.gB 4 spec := dz _ ok0
end p8

end
