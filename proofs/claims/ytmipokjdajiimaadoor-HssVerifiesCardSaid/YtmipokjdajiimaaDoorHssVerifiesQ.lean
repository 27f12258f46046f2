/-
  HssVerifies, part 17: an interpreter of my own over abstract values, the pure functions, the walks and the plain law.
-/

import Derived.Test.YtmipokjdajiimaaDoorHssVerifiesK
import Derived.Test.YtmipokjdajiimaaDoorHssVerifiesH
import Derived.Test.YtmipokjdajiimaaDoorProg
import Derived.Test.YtmipokjdajiimaaDoorHssVerifiesJ
import Derived.Test.YtmipokjdajiimaaDoorHssVerifiesP
import Derived.KernelRfl

section
open Go Go.Abs Go.Proofs
set_option maxRecDepth 100000
set_option maxHeartbeats 0
set_option linter.unusedVariables false

namespace ku
abbrev X2 := P.buv
def S2 : X2 → ASt := fun (a, b) => ⟨[(0, .v (.int .u64 a)), (3, .v (.int .i64 b))], [], 0, 17⟩
def V2 : ASt → Option X2
 | ⟨[(0, .v (.int .u64 a)), (3, .v (.int .i64 b))], [], 0, 17⟩ => some (a, b)
 | _ => none
theorem ax7 (st) (x) (h : V2 st = some x) : st = S2 x := by
 unfold V2 at h
 split at h
 · cases h; rfl
 · cases h
abbrev Y2 := P.bvt
def E2 (K : AExit → ASt → Option R) : Y2 → Option R := (Sum.elim (fun x => K (.exit 0) (S2 x)) (fun a => K .ret ⟨[(2, .v (.int .i64 a))], [], 0, 17⟩))
noncomputable def L2 : sj := fun st K => ad3 (V2 st) fun x => P.bwh x (E2 K)
noncomputable def D : Ctx := ({ P := Tryd.prog, G := [(54, uo.spec)], globs := GLO.gB, hints := [(2, ⟨[0, 3], [], [2], [], none, [], [], []⟩)], loops := [(2, L2)], inl := [] } : Ctx)
theorem ane (K) (next) (x) : ko D (dw Tryd.f57 2) K next (S2 x) = P.bp1 x (fun x => next (S2 x)) (E2 K) := by kernel_rfl
theorem axh : jm D (dw Tryd.f57 2) := fq S2 ax7 (by kernel_rfl) P.b0g ane
theorem loops : dh (Tryd.f57.body.getD .skip) = [dw Tryd.f57 2] := by kernel_rfl
noncomputable def au : Abs.Spec := fun args K => match args with
 | [.v (.int .u64 a)] => P.ku a (fun b => K (.v (.int .i64 b)))
 | _ => none
noncomputable def spec : Abs.Spec := au
theorem ok0 : Proved Tryd.prog GLO.gB 57 au := by
 refine cu (D := D) (fn := Tryd.f57) (c := Tryd.f57.body.getD .skip) [.any] (by kernel_rfl) (aj (by kernel_rfl)) (by kernel_rfl) (by kernel_rfl) (by kernel_rfl) ⟨uo.ok, trivial⟩ trivial ?_ ?_
 · rw [loops]; exact ⟨axh, trivial⟩
 · intro args K r h
   unfold au at h
   split at h
   · rw [P.am0] at h; exact Eq.trans (by kernel_rfl) h
   · cases h
theorem ok : Proved Tryd.prog GLO.gB 57 spec := ok0
end ku

namespace zm
noncomputable def D : Ctx := ({ P := Tryd.prog, G := [(34, oh.spec), (55, qp.spec), (56, ou.spec), (57, ku.spec)], globs := GLO.gB, hints := [], loops := [], inl := [] } : Ctx)
theorem loops : dh (Tryd.f35.body.getD .skip) = [] := by kernel_rfl
noncomputable def au : Abs.Spec := fun args K => match args with
 | [.sl (.ints .u8 c)] => P.zm c (fun d a b e f => K (.tuple [.sl (.ints .u8 d), .agg [.v (.int .i64 a), .v (.int .i64 b)], .sl (.ints .u8 e), .v (.int .i64 f)]))
 | _ => none
noncomputable def spec : Abs.Spec := fun args K => au (mo [.sl (.ints .u8 [])] args) K
theorem ok0 : Proved Tryd.prog GLO.gB 35 au := by
 refine cu (D := D) (fn := Tryd.f35) (c := Tryd.f35.body.getD .skip) [.sl (.ints .u8 []), .any, .sl (.ints .u8 []), .any] (by kernel_rfl) (aj (by kernel_rfl)) (by kernel_rfl) (by kernel_rfl) (by kernel_rfl) ⟨oh.ok, qp.ok, ou.ok, ku.ok, trivial⟩ trivial ?_ ?_
 · rw [loops]; exact trivial
 · intro args K r h
   unfold au at h
   split at h
   · rw [P.avq] at h; exact Eq.trans (by kernel_rfl) h
   · cases h
theorem ok : Proved Tryd.prog GLO.gB 35 spec := dz _ ok0
end zm

namespace yw
abbrev X4 := P.bsv
def S4 : X4 → ASt := fun (a, b, c) => ⟨[(0, .sl (.ints .u8 a)), (1, .sl (.ints .u8 b)), (5, .v (.int .i64 c))], [], 0, 26⟩
def V4 : ASt → Option X4
 | ⟨[(0, .sl (.ints .u8 a)), (1, .sl (.ints .u8 b)), (5, .v (.int .i64 c))], [], 0, 26⟩ => some (a, b, c)
 | _ => none
theorem ax8 (st) (x) (h : V4 st = some x) : st = S4 x := by
 unfold V4 at h
 split at h
 · cases h; rfl
 · cases h
abbrev Y4 := P.bul
def E4 (K : AExit → ASt → Option R) : Y4 → Option R := (Sum.elim (fun x => K (.exit 0) (S4 x)) (fun a => K .ret ⟨[(4, .v (.bool a))], [], 0, 26⟩))
noncomputable def L4 : sj := fun st K => ad3 (V4 st) fun x => P.bwi x (E4 K)
noncomputable def D : Ctx := ({ P := Tryd.prog, G := [], globs := GLO.gB, hints := [(4, ⟨[0, 1, 5], [], [4], [], none, [], [], []⟩)], loops := [(4, L4)], inl := [] } : Ctx)
theorem am8 (K) (next) (x) : ko D (dw Tryd.f28 4) K next (S4 x) = P.bp7 x (fun x => next (S4 x)) (E4 K) := by kernel_rfl
theorem aw2 : jm D (dw Tryd.f28 4) := fq S4 ax8 (by kernel_rfl) P.bz5 am8
theorem loops : dh (Tryd.f28.body.getD .skip) = [dw Tryd.f28 4] := by kernel_rfl
noncomputable def au : Abs.Spec := fun args K => match args with
 | [.sl (.ints .u8 a), .sl (.ints .u8 b)] => P.yw a b (fun c => K (.v (.bool c)))
 | _ => none
noncomputable def spec : Abs.Spec := fun args K => au (mo [.sl (.ints .u8 []), .sl (.ints .u8 [])] args) K
theorem ok0 : Proved Tryd.prog GLO.gB 28 au := by
 refine cu (D := D) (fn := Tryd.f28) (c := Tryd.f28.body.getD .skip) [.any] (by kernel_rfl) (aj (by kernel_rfl)) (by kernel_rfl) (by kernel_rfl) (by kernel_rfl) trivial trivial ?_ ?_
 · rw [loops]; exact ⟨aw2, trivial⟩
 · intro args K r h
   unfold au at h
   split at h
   · rw [P.at6] at h; exact Eq.trans (by kernel_rfl) h
   · cases h
theorem ok : Proved Tryd.prog GLO.gB 28 spec := dz _ ok0
end yw

namespace j5
abbrev X5 := P.bpr
def S5 : X5 → ASt := fun (a, b, c) => ⟨[(0, .v (.int .u64 a)), (5, .own 0), (6, .v (.int .i64 b))], [(0, some ⟨.row 5 (.ints .u8 c), false⟩)], 1, 30⟩
def V5 : ASt → Option X5
 | ⟨[(0, .v (.int .u64 a)), (5, .own 0), (6, .v (.int .i64 b))], [(0, some ⟨.row 5 (.ints .u8 c), false⟩)], 1, 30⟩ => some (a, b, c)
 | _ => none
theorem axn (st) (x) (h : V5 st = some x) : st = S5 x := by
 unfold V5 at h
 split at h
 · cases h; rfl
 · cases h
abbrev Y5 := P.byf
def E5 (K : AExit → ASt → Option R) : Y5 → Option R := (fun x => K (.exit 0) (S5 x))
noncomputable def L5 : sj := fun st K => ad3 (V5 st) fun x => P.bvm x (E5 K)
noncomputable def D : Ctx := ({ P := Tryd.prog, G := [], globs := GLO.gB, hints := [(5, ⟨[0, 5, 6], [], [4], [], none, [], [], []⟩)], loops := [(5, L5)], inl := [] } : Ctx)
theorem anq (K) (next) (x) : ko D (dw Tryd.f77 5) K next (S5 x) = P.bqj x (fun x => next (S5 x)) (E5 K) := by kernel_rfl
theorem ax5 : jm D (dw Tryd.f77 5) := fq S5 axn (by kernel_rfl) P.bzg anq
theorem loops : dh (Tryd.f77.body.getD .skip) = [dw Tryd.f77 5] := by kernel_rfl
noncomputable def au : Abs.Spec := fun args K => match args with
 | [.v (.int .u64 a), .v (.int .i64 b)] => P.j5 a b (fun c => K (.fr 5 (.ints .u8 c)))
 | _ => none
noncomputable def spec : Abs.Spec := au
theorem ok0 : Proved Tryd.prog GLO.gB 77 au := by
 refine cu (D := D) (fn := Tryd.f77) (c := Tryd.f77.body.getD .skip) [.fr 5 (.ints .u8 [])] (by kernel_rfl) (aj (by kernel_rfl)) (by kernel_rfl) (by kernel_rfl) (by kernel_rfl) trivial trivial ?_ ?_
 · rw [loops]; exact ⟨ax5, trivial⟩
 · intro args K r h
   unfold au at h
   split at h
   · rw [P.azk] at h; exact Eq.trans (by kernel_rfl) h
   · cases h
theorem ok : Proved Tryd.prog GLO.gB 77 spec := ok0
end j5

namespace aci
noncomputable def D : Ctx := ({ P := Tryd.prog, G := [], globs := GLO.gB, hints := [], loops := [], inl := [] } : Ctx)
theorem loops : dh (Tryd.f103.body.getD .skip) = [] := by kernel_rfl
noncomputable def au : Abs.Spec := fun args K => match args with
 | [.sl (.ints .u8 a), .v (.int .i64 b), .v (.int .i64 c)] => P.aci a b c (fun d => K (.v (.bool d)))
 | _ => none
noncomputable def spec : Abs.Spec := fun args K => au (mo [.sl (.ints .u8 []), .any, .any] args) K
theorem ok0 : Proved Tryd.prog GLO.gB 103 au := by
 refine cu (D := D) (fn := Tryd.f103) (c := Tryd.f103.body.getD .skip) [.any] (by kernel_rfl) (aj (by kernel_rfl)) (by kernel_rfl) (by kernel_rfl) (by kernel_rfl) trivial trivial ?_ ?_
 · rw [loops]; exact trivial
 · intro args K r h
   unfold au at h
   split at h
   · rw [P.att] at h; exact Eq.trans (by kernel_rfl) h
   · cases h
theorem ok : Proved Tryd.prog GLO.gB 103 spec := dz _ ok0
end aci

namespace vv
abbrev X9 := P.bp8
def S9 : X9 → ASt := fun (b, c, d, e, f, a, g) => ⟨[(0, .sl (.ints .u8 b)), (1, .v (.int .i64 c)), (2, .v (.int .i64 d)), (7, .own 0), (8, .v (.int .i64 e)), (9, .v (.int .u32 f)), (10, .v (.int .i64 a))], [(0, some ⟨.row 42 (.ints .u32 g), false⟩)], 1, 51⟩
def V9 : ASt → Option X9
 | ⟨[(0, .sl (.ints .u8 b)), (1, .v (.int .i64 c)), (2, .v (.int .i64 d)), (7, .own 0), (8, .v (.int .i64 e)), (9, .v (.int .u32 f)), (10, .v (.int .i64 a))], [(0, some ⟨.row 42 (.ints .u32 g), false⟩)], 1, 51⟩ => some (b, c, d, e, f, a, g)
 | _ => none
theorem arv (st) (x) (h : V9 st = some x) : st = S9 x := by
 unfold V9 at h
 split at h
 · cases h; rfl
 · cases h
abbrev Y9 := P.bxv
abbrev X5 := P.bq6
def S5 : X5 → ASt := fun (a, b, c, d, e) => ⟨[(7, .own 0), (0, .sl (.ints .u8 a)), (1, .v (.int .i64 b)), (2, .v (.int .i64 c)), (8, .v (.int .i64 d))], [(0, some ⟨.row 42 (.ints .u32 e), false⟩)], 1, 51⟩
def V5 : ASt → Option X5
 | ⟨[(7, .own 0), (0, .sl (.ints .u8 a)), (1, .v (.int .i64 b)), (2, .v (.int .i64 c)), (8, .v (.int .i64 d))], [(0, some ⟨.row 42 (.ints .u32 e), false⟩)], 1, 51⟩ => some (a, b, c, d, e)
 | _ => none
theorem axn (st) (x) (h : V5 st = some x) : st = S5 x := by
 unfold V5 at h
 split at h
 · cases h; rfl
 · cases h
abbrev Y5 := P.bwn
def E9 (K : AExit → ASt → Option R) : Y9 → Option R := (fun x => K (.exit 2) (S9 x))
noncomputable def L9 : sj := fun st K => ad3 (V9 st) fun x => P.byd x (E9 K)
def E5 (K : AExit → ASt → Option R) : Y5 → Option R := (fun x => K (.exit 0) (S5 x))
noncomputable def L5 : sj := fun st K => ad3 (V5 st) fun x => P.byr x (E5 K)
noncomputable def D : Ctx := ({ P := Tryd.prog, G := [(103, aci.spec)], globs := GLO.gB, hints := [(9, ⟨[0, 1, 2, 7, 8, 9, 10], [], [6], [], none, [], [], []⟩), (5, ⟨[0, 1, 2, 8], [(7, 42, .ints .u32 [])], [6], [], none, [], [], []⟩)], loops := [(9, L9), (5, L5)], inl := [] } : Ctx)
theorem ajg (K) (next) (x) : ko D (dw Tryd.f92 9) K next (S9 x) = P.bru x (fun x => next (S9 x)) (E9 K) := by kernel_rfl
theorem ati : jm D (dw Tryd.f92 9) := fq S9 arv (by kernel_rfl) P.bz2 ajg
theorem anq (K) (next) (x) : ko D (dw Tryd.f92 5) K next (S5 x) = P.brc x (fun x => next (S5 x)) (E5 K) := by kernel_rfl
theorem ax5 : jm D (dw Tryd.f92 5) := fq S5 axn (by kernel_rfl) P.bz6 anq
theorem loops : dh (Tryd.f92.body.getD .skip) = [dw Tryd.f92 5, dw Tryd.f92 9] := by kernel_rfl
noncomputable def au : Abs.Spec := fun args K => match args with
 | [.sl (.ints .u8 a), .v (.int .i64 b), .v (.int .i64 c)] => P.vv a b c (fun d => K (.fr 42 (.ints .u32 d)))
 | _ => none
noncomputable def spec : Abs.Spec := fun args K => au (mo [.sl (.ints .u8 []), .any, .any] args) K
theorem ok0 : Proved Tryd.prog GLO.gB 92 au := by
 refine cu (D := D) (fn := Tryd.f92) (c := Tryd.f92.body.getD .skip) [.fr 42 (.ints .u32 [])] (by kernel_rfl) (aj (by kernel_rfl)) (by kernel_rfl) (by kernel_rfl) (by kernel_rfl) ⟨aci.ok, trivial⟩ trivial ?_ ?_
 · rw [loops]; exact ⟨ax5, ati, trivial⟩
 · intro args K r h
   unfold au at h
   split at h
   · rw [P.am7] at h; exact Eq.trans (by kernel_rfl) h
   · cases h
theorem ok : Proved Tryd.prog GLO.gB 92 spec := dz _ ok0
end vv

namespace qg
abbrev X3 := P.bqo
def S3 : X3 → ASt := fun (a, b, c) => ⟨[(3, .own 0), (0, .sl (.rows .u8 a)), (4, .v (.int .i64 b))], [(0, some ⟨.row 5 (.ints .u8 c), false⟩)], 1, 18⟩
def V3 : ASt → Option X3
 | ⟨[(3, .own 0), (0, .sl (.rows .u8 a)), (4, .v (.int .i64 b))], [(0, some ⟨.row 5 (.ints .u8 c), false⟩)], 1, 18⟩ => some (a, b, c)
 | _ => none
theorem apk (st) (x) (h : V3 st = some x) : st = S3 x := by
 unfold V3 at h
 split at h
 · cases h; rfl
 · cases h
abbrev Y3 := P.bv6
def E3 (K : AExit → ASt → Option R) : Y3 → Option R := (fun x => K (.exit 0) (S3 x))
noncomputable def L3 : sj := fun st K => ad3 (V3 st) fun x => P.bux x (E3 K)
noncomputable def D : Ctx := ({ P := Tryd.prog, G := [], globs := GLO.gB, hints := [(3, ⟨[0, 4], [(3, 5, .ints .u8 [])], [2], [], none, [], [], []⟩)], loops := [(3, L3)], inl := [] } : Ctx)
theorem ahc (K) (next) (x) : ko D (dw Tryd.f93 3) K next (S3 x) = P.br4 x (fun x => next (S3 x)) (E3 K) := by kernel_rfl
theorem ao0 : jm D (dw Tryd.f93 3) := fq S3 apk (by kernel_rfl) P.b0b ahc
theorem loops : dh (Tryd.f93.body.getD .skip) = [dw Tryd.f93 3] := by kernel_rfl
noncomputable def au : Abs.Spec := fun args K => match args with
 | [.sl (.rows .u8 a)] => P.qg a (fun b => K (.fr 5 (.ints .u8 b)))
 | _ => none
noncomputable def spec : Abs.Spec := fun args K => au (mo [.sl (.rows .u8 [])] args) K
theorem ok0 : Proved Tryd.prog GLO.gB 93 au := by
 refine cu (D := D) (fn := Tryd.f93) (c := Tryd.f93.body.getD .skip) [.fr 5 (.ints .u8 [])] (by kernel_rfl) (aj (by kernel_rfl)) (by kernel_rfl) (by kernel_rfl) (by kernel_rfl) trivial trivial ?_ ?_
 · rw [loops]; exact ⟨ao0, trivial⟩
 · intro args K r h
   unfold au at h
   split at h
   · rw [P.ark] at h; exact Eq.trans (by kernel_rfl) h
   · cases h
theorem ok : Proved Tryd.prog GLO.gB 93 spec := dz _ ok0
end qg

namespace abk
abbrev X9 := P.bq0
def S9 : X9 → ASt := fun (c, d, e, f, a, b, g) => ⟨[(0, .v (.int .i64 c)), (1, .sl (.ints .u8 d)), (6, .v (.int .i64 e)), (7, .v (.int .i64 f)), (9, .own 0), (10, .v (.int .u64 a)), (11, .v (.int .i64 b))], [(0, some ⟨.row 42 (.ints .u32 g), false⟩)], 1, 55⟩
def V9 : ASt → Option X9
 | ⟨[(0, .v (.int .i64 c)), (1, .sl (.ints .u8 d)), (6, .v (.int .i64 e)), (7, .v (.int .i64 f)), (9, .own 0), (10, .v (.int .u64 a)), (11, .v (.int .i64 b))], [(0, some ⟨.row 42 (.ints .u32 g), false⟩)], 1, 55⟩ => some (c, d, e, f, a, b, g)
 | _ => none
theorem arv (st) (x) (h : V9 st = some x) : st = S9 x := by
 unfold V9 at h
 split at h
 · cases h; rfl
 · cases h
abbrev Y9 := P.bx6
def E9 (K : AExit → ASt → Option R) : Y9 → Option R := (fun x => K (.exit 0) (S9 x))
noncomputable def L9 : sj := fun st K => ad3 (V9 st) fun x => P.btz x (E9 K)
noncomputable def D : Ctx := ({ P := Tryd.prog, G := [(76, ny.spec), (77, j5.spec), (92, vv.spec), (93, qg.spec)], globs := GLO.gB, hints := [(9, ⟨[0, 1, 6, 7, 9, 10, 11], [], [4, 5], [], none, [], [], []⟩)], loops := [(9, L9)], inl := [] } : Ctx)
theorem ajg (K) (next) (x) : ko D (dw Tryd.f78 9) K next (S9 x) = P.bpt x (fun x => next (S9 x)) (E9 K) := by kernel_rfl
theorem ati : jm D (dw Tryd.f78 9) := fq S9 arv (by kernel_rfl) P.by7 ajg
theorem loops : dh (Tryd.f78.body.getD .skip) = [dw Tryd.f78 9] := by kernel_rfl
noncomputable def au : Abs.Spec := fun args K => match args with
 | [.v (.int .i64 a), .sl (.ints .u8 b)] => P.abk a b (fun c d => K (.tuple [.fr 42 (.ints .u32 c), .v (.int .i64 d)]))
 | _ => none
noncomputable def spec : Abs.Spec := fun args K => au (mo [.any, .sl (.ints .u8 [])] args) K
theorem ok0 : Proved Tryd.prog GLO.gB 78 au := by
 refine cu (D := D) (fn := Tryd.f78) (c := Tryd.f78.body.getD .skip) [.fr 42 (.ints .u32 []), .any] (by kernel_rfl) (aj (by kernel_rfl)) (by kernel_rfl) (by kernel_rfl) (by kernel_rfl) ⟨ny.ok, j5.ok, vv.ok, qg.ok, trivial⟩ trivial ?_ ?_
 · rw [loops]; exact ⟨ati, trivial⟩
 · intro args K r h
   unfold au at h
   split at h
   · rw [P.ant] at h; exact Eq.trans (by kernel_rfl) h
   · cases h
theorem ok : Proved Tryd.prog GLO.gB 78 spec := dz _ ok0
end abk

namespace wo
noncomputable def D : Ctx := ({ P := Tryd.prog, G := [], globs := GLO.gB, hints := [], loops := [], inl := [] } : Ctx)
theorem loops : dh (Tryd.f112.body.getD .skip) = [] := by kernel_rfl
noncomputable def au : Abs.Spec := fun args K => match args with
 | [.v (.int .i64 a)] => P.wo a (fun b => K (.v (.int .i64 b)))
 | _ => none
noncomputable def spec : Abs.Spec := au
theorem ok0 : Proved Tryd.prog GLO.gB 112 au := by
 refine cu (D := D) (fn := Tryd.f112) (c := Tryd.f112.body.getD .skip) [.any] (by kernel_rfl) (aj (by kernel_rfl)) (by kernel_rfl) (by kernel_rfl) (by kernel_rfl) trivial trivial ?_ ?_
 · rw [loops]; exact trivial
 · intro args K r h
   unfold au at h
   split at h
   · rw [P.ap7] at h; exact Eq.trans (by kernel_rfl) h
   · cases h
theorem ok : Proved Tryd.prog GLO.gB 112 spec := ok0
end wo

namespace wm
noncomputable def D : Ctx := ({ P := Tryd.prog, G := [], globs := GLO.gB, hints := [], loops := [], inl := [] } : Ctx)
theorem loops : dh (Tryd.f124.body.getD .skip) = [] := by kernel_rfl
noncomputable def au : Abs.Spec := fun args K => match args with
 | [.v (.int .u64 a), .v (.int .i64 b), .v (.bool c)] => P.wm a b c (fun d => K (.v (.int .u64 d)))
 | _ => none
noncomputable def spec : Abs.Spec := au
theorem ok0 : Proved Tryd.prog GLO.gB 124 au := by
 refine cu (D := D) (fn := Tryd.f124) (c := Tryd.f124.body.getD .skip) [.any] (by kernel_rfl) (aj (by kernel_rfl)) (by kernel_rfl) (by kernel_rfl) (by kernel_rfl) trivial trivial ?_ ?_
 · rw [loops]; exact trivial
 · intro args K r h
   unfold au at h
   split at h
   · rw [P.agm] at h; exact Eq.trans (by kernel_rfl) h
   · cases h
theorem ok : Proved Tryd.prog GLO.gB 124 spec := ok0
end wm

namespace w9
noncomputable def D : Ctx := ({ P := Tryd.prog, G := [(124, wm.spec)], globs := GLO.gB, hints := [], loops := [], inl := [] } : Ctx)
theorem loops : dh (Tryd.f121.body.getD .skip) = [] := by kernel_rfl
noncomputable def au : Abs.Spec := fun args K => match args with
 | [.v (.int .u64 a), .v (.int .i64 b), .v (.int .i64 c), .v (.int .i64 d), .v (.bool e), .v (.bool f)] => P.w9 a b c d e f (fun g => K (.v (.int .u64 g)))
 | _ => none
noncomputable def spec : Abs.Spec := au
theorem ok0 : Proved Tryd.prog GLO.gB 121 au := by
 refine cu (D := D) (fn := Tryd.f121) (c := Tryd.f121.body.getD .skip) [.any] (by kernel_rfl) (aj (by kernel_rfl)) (by kernel_rfl) (by kernel_rfl) (by kernel_rfl) ⟨wm.ok, trivial⟩ trivial ?_ ?_
 · rw [loops]; exact trivial
 · intro args K r h
   unfold au at h
   split at h
   · rw [P.adi] at h; exact Eq.trans (by kernel_rfl) h
   · cases h
theorem ok : Proved Tryd.prog GLO.gB 121 spec := ok0
end w9

namespace u7
noncomputable def D : Ctx := ({ P := Tryd.prog, G := [], globs := GLO.gB, hints := [], loops := [], inl := [] } : Ctx)
theorem loops : dh (Tryd.f118.body.getD .skip) = [] := by kernel_rfl
noncomputable def au : Abs.Spec := fun args K => match args with
 | [] => P.u7 (fun a => K (.arr .u64 64 a))
 | _ => none
noncomputable def spec : Abs.Spec := au
theorem ok0 : Proved Tryd.prog GLO.gB 118 au := by
 refine cu (D := D) (fn := Tryd.f118) (c := Tryd.f118.body.getD .skip) [.any] (by kernel_rfl) (aj (by kernel_rfl)) (by kernel_rfl) (by kernel_rfl) (by kernel_rfl) trivial trivial ?_ ?_
 · rw [loops]; exact trivial
 · intro args K r h
   unfold au at h
   split at h
   · rw [P.afx] at h; exact Eq.trans (by kernel_rfl) h
   · cases h
theorem ok : Proved Tryd.prog GLO.gB 118 spec := ok0
end u7

namespace vg
noncomputable def D : Ctx := ({ P := Tryd.prog, G := [], globs := GLO.gB, hints := [], loops := [], inl := [] } : Ctx)
theorem loops : dh (Tryd.f119.body.getD .skip) = [] := by kernel_rfl
noncomputable def au : Abs.Spec := fun args K => match args with
 | [] => P.vg (fun a => K (.arr .u64 80 a))
 | _ => none
noncomputable def spec : Abs.Spec := au
theorem ok0 : Proved Tryd.prog GLO.gB 119 au := by
 refine cu (D := D) (fn := Tryd.f119) (c := Tryd.f119.body.getD .skip) [.any] (by kernel_rfl) (aj (by kernel_rfl)) (by kernel_rfl) (by kernel_rfl) (by kernel_rfl) trivial trivial ?_ ?_
 · rw [loops]; exact trivial
 · intro args K r h
   unfold au at h
   split at h
   · rw [P.afp] at h; exact Eq.trans (by kernel_rfl) h
   · cases h
theorem ok : Proved Tryd.prog GLO.gB 119 spec := ok0
end vg

namespace aa9
abbrev X6 := P.bqc
def S6 : X6 → ASt := fun (b, c, d, e, f, a, g) => ⟨[(10, .own 0), (0, .sl (.ints .u8 b)), (1, .v (.bool c)), (2, .v (.int .i64 d)), (3, .v (.int .u64 e)), (9, .v (.int .i64 f)), (11, .v (.int .i64 a))], [(0, some ⟨.row 26 (.ints .u64 g), false⟩)], 1, 82⟩
def V6 : ASt → Option X6
 | ⟨[(10, .own 0), (0, .sl (.ints .u8 b)), (1, .v (.bool c)), (2, .v (.int .i64 d)), (3, .v (.int .u64 e)), (9, .v (.int .i64 f)), (11, .v (.int .i64 a))], [(0, some ⟨.row 26 (.ints .u64 g), false⟩)], 1, 82⟩ => some (b, c, d, e, f, a, g)
 | _ => none
theorem bmp (st) (x) (h : V6 st = some x) : st = S6 x := by
 unfold V6 at h
 split at h
 · cases h; rfl
 · cases h
abbrev Y6 := P.bww
def E6 (K : AExit → ASt → Option R) : Y6 → Option R := (fun x => K (.exit 0) (S6 x))
noncomputable def L6 : sj := fun st K => ad3 (V6 st) fun x => P.bu2 x (E6 K)
noncomputable def D : Ctx := ({ P := Tryd.prog, G := [(34, oh.spec), (121, w9.spec)], globs := GLO.gB, hints := [(6, ⟨[0, 1, 2, 3, 9, 11], [(10, 26, .ints .u64 [])], [8], [], none, [], [], []⟩)], loops := [(6, L6)], inl := [] } : Ctx)
theorem bil (K) (next) (x) : ko D (dw Tryd.f120 6) K next (S6 x) = P.bov x (fun x => next (S6 x)) (E6 K) := by kernel_rfl
theorem bnp : jm D (dw Tryd.f120 6) := fq S6 bmp (by kernel_rfl) P.bz3 bil
theorem loops : dh (Tryd.f120.body.getD .skip) = [dw Tryd.f120 6] := by kernel_rfl
noncomputable def au : Abs.Spec := fun args K => match args with
 | [.sl (.ints .u8 a), .v (.bool b), .v (.int .i64 c), .v (.int .u64 d)] => P.aa9 a b c d (fun e => K (.fr 26 (.ints .u64 e)))
 | _ => none
noncomputable def spec : Abs.Spec := fun args K => au (mo [.sl (.ints .u8 []), .any, .any, .any] args) K
theorem ok0 : Proved Tryd.prog GLO.gB 120 au := by
 refine cu (D := D) (fn := Tryd.f120) (c := Tryd.f120.body.getD .skip) [.fr 26 (.ints .u64 [])] (by kernel_rfl) (aj (by kernel_rfl)) (by kernel_rfl) (by kernel_rfl) (by kernel_rfl) ⟨oh.ok, w9.ok, trivial⟩ trivial ?_ ?_
 · rw [loops]; exact ⟨bnp, trivial⟩
 · intro args K r h
   unfold au at h
   split at h
   · rw [P.ai2] at h; exact Eq.trans (by kernel_rfl) h
   · cases h
theorem ok : Proved Tryd.prog GLO.gB 120 spec := dz _ ok0
end aa9

namespace ab2
abbrev X11 := P.bo5
def S11 : X11 → ASt := fun (g, h, i, f, a, b, c, d, j, e) => ⟨[(2, .v (.bool g)), (3, .ptr 0 0), (6, .ptr 1 0), (7, .v (.int .i64 h)), (8, .v (.int .u64 i)), (9, .ptr 2 0), (10, .ptr 3 0), (11, .own 4), (12, .ptr 5 0), (13, .v (.int .i64 f))], [(0, some ⟨.box 123 [.arr .u64 8 a], false⟩), (1, some ⟨.box 123 [.arr .u64 8 b], false⟩), (2, some ⟨.box 163 [.arr .u64 64 c], false⟩), (3, some ⟨.box 162 [.arr .u64 80 d], false⟩), (4, some ⟨.row 26 (.ints .u64 j), false⟩), (5, some ⟨.box 123 [.arr .u64 8 e], false⟩)], 6, 137⟩
def V11 : ASt → Option X11
 | ⟨[(2, .v (.bool g)), (3, .ptr 0 0), (6, .ptr 1 0), (7, .v (.int .i64 h)), (8, .v (.int .u64 i)), (9, .ptr 2 0), (10, .ptr 3 0), (11, .own 4), (12, .ptr 5 0), (13, .v (.int .i64 f))], [(0, some ⟨.box 123 [.arr .u64 8 a], false⟩), (1, some ⟨.box 123 [.arr .u64 8 b], false⟩), (2, some ⟨.box 163 [.arr .u64 64 c], false⟩), (3, some ⟨.box 162 [.arr .u64 80 d], false⟩), (4, some ⟨.row 26 (.ints .u64 j), false⟩), (5, some ⟨.box 123 [.arr .u64 8 e], false⟩)], 6, 137⟩ => some (g, h, i, f, a, b, c, d, j, e)
 | _ => none
theorem azp (st) (x) (h : V11 st = some x) : st = S11 x := by
 unfold V11 at h
 split at h
 · cases h; rfl
 · cases h
abbrev Y11 := P.bvs
abbrev X25 := P.bo6
def S25 : X25 → ASt := fun (e, d, a, b, c) => ⟨[(3, .ptr 0 0), (6, .ptr 1 0), (8, .v (.int .u64 e)), (12, .ptr 5 0), (19, .v (.int .i64 d))], [(0, some ⟨.box 123 [.arr .u64 8 a], false⟩), (1, some ⟨.box 123 [.arr .u64 8 b], false⟩), (5, some ⟨.box 123 [.arr .u64 8 c], false⟩)], 80, 137⟩
def V25 : ASt → Option X25
 | ⟨[(3, .ptr 0 0), (6, .ptr 1 0), (8, .v (.int .u64 e)), (12, .ptr 5 0), (19, .v (.int .i64 d))], [(0, some ⟨.box 123 [.arr .u64 8 a], false⟩), (1, some ⟨.box 123 [.arr .u64 8 b], false⟩), (5, some ⟨.box 123 [.arr .u64 8 c], false⟩)], 80, 137⟩ => some (e, d, a, b, c)
 | _ => none
theorem bo2 (st) (x) (h : V25 st = some x) : st = S25 x := by
 unfold V25 at h
 split at h
 · cases h; rfl
 · cases h
abbrev Y25 := P.buq
def E11 (K : AExit → ASt → Option R) : Y11 → Option R := (fun x => K (.exit 0) (S11 x))
noncomputable def L11 : sj := fun st K => ad3 (V11 st) fun x => P.bw6 x (E11 K)
def E25 (K : AExit → ASt → Option R) : Y25 → Option R := (fun x => K (.exit 2) (S25 x))
noncomputable def L25 : sj := fun st K => ad3 (V25 st) fun x => P.bya x (E25 K)
noncomputable def D : Ctx := ({ P := Tryd.prog, G := [(118, u7.spec), (119, vg.spec), (120, aa9.spec), (121, w9.spec)], globs := GLO.gB, hints := [(25, ⟨[3, 6, 8, 12, 19], [], [6], [], some (80, [0, 1, 5]), [], [], []⟩), (11, ⟨[2, 3, 6, 7, 8, 9, 10, 11, 12, 13], [], [6], [], none, [], [], []⟩)], loops := [(11, L11), (25, L25)], inl := [] } : Ctx)
theorem arx (K) (next) (x) : ko D (dw Tryd.f113 11) K next (S11 x) = P.bos x (fun x => next (S11 x)) (E11 K) := by kernel_rfl
theorem azc : jm D (dw Tryd.f113 11) := fq S11 azp (by kernel_rfl) P.bzk arx
theorem boa (K) (next) (x) : ko D (dw Tryd.f113 25) K next (S25 x) = P.bor x (fun x => next (S25 x)) (E25 K) := by kernel_rfl
theorem bqi : jm D (dw Tryd.f113 25) := fq S25 bo2 (by kernel_rfl) P.bzc boa
theorem loops : dh (Tryd.f113.body.getD .skip) = [dw Tryd.f113 11, dw Tryd.f113 25] := by kernel_rfl
noncomputable def au : Abs.Spec := fun args K => match args with
 | [.arr .u64 8 a, .sl (.ints .u8 b), .v (.bool c)] => P.ab2 a b c (fun d => K (.arr .u64 8 d))
 | _ => none
noncomputable def spec : Abs.Spec := fun args K => au (mo [.any, .sl (.ints .u8 []), .any] args) K
theorem ok0 : Proved Tryd.prog GLO.gB 113 au := by
 refine cu (D := D) (fn := Tryd.f113) (c := Tryd.f113.body.getD .skip) [.any] (by kernel_rfl) (aj (by kernel_rfl)) (by kernel_rfl) (by kernel_rfl) (by kernel_rfl) ⟨u7.ok, vg.ok, aa9.ok, w9.ok, trivial⟩ trivial ?_ ?_
 · rw [loops]; exact ⟨azc, bqi, trivial⟩
 · intro args K r h
   unfold au at h
   split at h
   · rw [P.ajh] at h; exact Eq.trans (by kernel_rfl) h
   · cases h
theorem ok : Proved Tryd.prog GLO.gB 113 spec := dz _ ok0
end ab2

end
