/-
  ForsRight, part 13: an interpreter of my own over abstract values, the pure functions, the walks and the plain law.
-/

import Derived.Test.YtjhnljhjpnjieaaDoorForsRightI
import Derived.Test.YtjhnljhjpnjieaaDoorForsRightG
import Derived.Test.YtjhnljhjpnjieaaDoorProg
import Derived.Test.YtjhnljhjpnjieaaDoorForsRightJ
import Derived.KernelRfl
import Derived.Test.YtjhnljhjpnjieaaDoorForsRightK

section
open Go Go.Abs Go.Proofs
set_option maxRecDepth 100000
set_option maxHeartbeats 0
set_option linter.unusedVariables false

namespace aa0
noncomputable def D : Ctx := ({ P := Tryd.prog, G := [], globs := GLO.gx, hints := [], loops := [], inl := [] } : Ctx)
theorem loops : bq (Tryd.f106.body.getD .skip) = [] := by kernel_rfl
noncomputable def bg : Abs.Spec := fun args K => match args with
 | [.sl (.ints .u8 a), .v (.int .i64 b), .v (.int .i64 c)] => P.aa0 a b c (fun d => K (.v (.bool d)))
 | _ => none
noncomputable def spec : Abs.Spec := fun args K => bg (tu [.sl (.ints .u8 []), .any, .any] args) K
theorem ok0 : Proved Tryd.prog GLO.gx 106 bg := by
 refine dn (D := D) (fn := Tryd.f106) (c := Tryd.f106.body.getD .skip) [.any] (by kernel_rfl) (au (by kernel_rfl)) (by kernel_rfl) (by kernel_rfl) (by kernel_rfl) trivial trivial ?_ ?_
 · rw [loops]; exact trivial
 · intro args K r h
   unfold bg at h
   split at h
   · rw [P.am6] at h; exact Eq.trans (by kernel_rfl) h
   · cases h
theorem ok : Proved Tryd.prog GLO.gx 106 spec := eu _ ok0
end aa0

namespace jk
abbrev X8 := P.zt2
def S8 : X8 → ASt := fun (d, e, f, g, a, b, c, h) => ⟨[(0, .sl (.ints .u8 d)), (1, .v (.int .i64 e)), (7, .own 0), (8, .v (.int .u64 f)), (9, .v (.int .i64 g)), (10, .v (.int .i64 a)), (19, .v (.int .i64 b)), (20, .v (.int .i64 c))], [(0, some ⟨.row 77 (.ints .u32 h), false⟩)], 1, 53⟩
def V8 : ASt → Option X8
 | ⟨[(0, .sl (.ints .u8 d)), (1, .v (.int .i64 e)), (7, .own 0), (8, .v (.int .u64 f)), (9, .v (.int .i64 g)), (10, .v (.int .i64 a)), (19, .v (.int .i64 b)), (20, .v (.int .i64 c))], [(0, some ⟨.row 77 (.ints .u32 h), false⟩)], 1, 53⟩ => some (d, e, f, g, a, b, c, h)
 | _ => none
theorem azs (st) (x) (h : V8 st = some x) : st = S8 x := by
 unfold V8 at h
 split at h
 · cases h; rfl
 · cases h
abbrev Y8 := P.zy2
abbrev X6 := P.zt3
def S6 : X6 → ASt := fun (c, d, e, f, a, b, g) => ⟨[(0, .sl (.ints .u8 c)), (1, .v (.int .i64 d)), (7, .own 0), (8, .v (.int .u64 e)), (9, .v (.int .i64 f)), (19, .v (.int .i64 a)), (20, .v (.int .i64 b))], [(0, some ⟨.row 77 (.ints .u32 g), false⟩)], 1, 53⟩
def V6 : ASt → Option X6
 | ⟨[(0, .sl (.ints .u8 c)), (1, .v (.int .i64 d)), (7, .own 0), (8, .v (.int .u64 e)), (9, .v (.int .i64 f)), (19, .v (.int .i64 a)), (20, .v (.int .i64 b))], [(0, some ⟨.row 77 (.ints .u32 g), false⟩)], 1, 53⟩ => some (c, d, e, f, a, b, g)
 | _ => none
theorem bhn (st) (x) (h : V6 st = some x) : st = S6 x := by
 unfold V6 at h
 split at h
 · cases h; rfl
 · cases h
abbrev Y6 := P.zy3
def E8 (K : AExit → ASt → Option R) : Y8 → Option R := (fun x => K (.exit 2) (S8 x))
noncomputable def L8 : xw := fun st K => ag4 (V8 st) fun x => P.zm2 x (E8 K)
def E6 (K : AExit → ASt → Option R) : Y6 → Option R := (fun x => K (.exit 0) (S6 x))
noncomputable def L6 : xw := fun st K => ag4 (V6 st) fun x => P.zm3 x (E6 K)
noncomputable def D : Ctx := ({ P := Tryd.prog, G := [(106, aa0.spec)], globs := GLO.gx, hints := [(8, ⟨[0, 1, 7, 8, 9, 10, 19, 20], [], [6], [(0, .sl (.ints .u8 []))], none, [], []⟩), (6, ⟨[0, 1, 7, 8, 9, 19, 20], [], [6], [(0, .sl (.ints .u8 []))], none, [], []⟩)], loops := [(8, L8), (6, L6)], inl := [] } : Ctx)
theorem at1 (K) (next) (x) : qb D (dw Tryd.f64 8) K next (S8 x) = P.zs2 x (fun x => next (S8 x)) (E8 K) := by kernel_rfl
theorem bat : ou D (dw Tryd.f64 8) := jf S8 azs (by kernel_rfl) P.ze2 at1
theorem bak (K) (next) (x) : qb D (dw Tryd.f64 6) K next (S6 x) = P.zs3 x (fun x => next (S6 x)) (E6 K) := by kernel_rfl
theorem bhq : ou D (dw Tryd.f64 6) := jf S6 bhn (by kernel_rfl) P.ze3 bak
theorem loops : bq (Tryd.f64.body.getD .skip) = [dw Tryd.f64 6, dw Tryd.f64 8] := by kernel_rfl
noncomputable def bg : Abs.Spec := fun args K => match args with
 | [.sl (.ints .u8 a), .v (.int .i64 b), .v (.int .i64 c)] => P.jk a b c (fun d => K (.fr 77 (.ints .u32 d)))
 | _ => none
noncomputable def spec : Abs.Spec := fun args K => bg (tu [.sl (.ints .u8 []), .any, .any] args) K
theorem ok0 : Proved Tryd.prog GLO.gx 64 bg := by
 refine dn (D := D) (fn := Tryd.f64) (c := Tryd.f64.body.getD .skip) [.fr 77 (.ints .u32 [])] (by kernel_rfl) (au (by kernel_rfl)) (by kernel_rfl) (by kernel_rfl) (by kernel_rfl) ⟨aa0.ok, trivial⟩ trivial ?_ ?_
 · rw [loops]; exact ⟨bhq, bat, trivial⟩
 · intro args K r h
   unfold bg at h
   split at h
   · rw [P.ajx] at h; exact Eq.trans (by kernel_rfl) h
   · cases h
theorem ok : Proved Tryd.prog GLO.gx 64 spec := eu _ ok0
end jk

namespace og
noncomputable def D : Ctx := ({ P := Tryd.prog, G := [], globs := GLO.gx, hints := [], loops := [], inl := [] } : Ctx)
theorem loops : bq (Tryd.f25.body.getD .skip) = [] := by kernel_rfl
noncomputable def bg : Abs.Spec := fun args K => match args with
 | [.agg [.v (.int .i64 b), .v (.int .i64 c), .v (.int .i64 d), .v (.int .i64 e), .v (.int .i64 f), .v (.bool a)]] => P.og b c d e f a (fun g => K (.v (.bool g)))
 | _ => none
noncomputable def spec : Abs.Spec := bg
theorem ok0 : Proved Tryd.prog GLO.gx 25 bg := by
 refine dn (D := D) (fn := Tryd.f25) (c := Tryd.f25.body.getD .skip) [.any] (by kernel_rfl) (au (by kernel_rfl)) (by kernel_rfl) (by kernel_rfl) (by kernel_rfl) trivial trivial ?_ ?_
 · rw [loops]; exact trivial
 · intro args K r h
   unfold bg at h
   split at h
   · rw [P.aoz] at h; exact Eq.trans (by kernel_rfl) h
   · cases h
theorem ok : Proved Tryd.prog GLO.gx 25 spec := ok0
end og

namespace gq
noncomputable def D : Ctx := ({ P := Tryd.prog, G := [(25, og.spec)], globs := GLO.gx, hints := [], loops := [], inl := [] } : Ctx)
theorem loops : bq (Tryd.f39.body.getD .skip) = [] := by kernel_rfl
noncomputable def bg : Abs.Spec := fun args K => match args with
 | [.agg [.v (.int .i64 b), .v (.int .i64 c), .v (.int .i64 d), .v (.int .i64 e), .v (.int .i64 f), .v (.bool a)]] => P.gq b c d e f a (fun g h => K (.tuple [.v (.int .i64 g), .v (.int .i64 h)]))
 | _ => none
noncomputable def spec : Abs.Spec := bg
theorem ok0 : Proved Tryd.prog GLO.gx 39 bg := by
 refine dn (D := D) (fn := Tryd.f39) (c := Tryd.f39.body.getD .skip) [.any, .any] (by kernel_rfl) (au (by kernel_rfl)) (by kernel_rfl) (by kernel_rfl) (by kernel_rfl) ⟨og.ok, trivial⟩ trivial ?_ ?_
 · rw [loops]; exact trivial
 · intro args K r h
   unfold bg at h
   split at h
   · rw [P.am4] at h; exact Eq.trans (by kernel_rfl) h
   · cases h
theorem ok : Proved Tryd.prog GLO.gx 39 spec := ok0
end gq

namespace su
abbrev X3 := P.bir
def S3 : X3 → ASt := fun (a, b, c, d) => ⟨[(3, .v (.int .u64 a)), (6, .sl (.ints .u8 b)), (7, .v (.int .i64 c)), (8, .v (.int .i64 d))], [], 0, 19⟩
def V3 : ASt → Option X3
 | ⟨[(3, .v (.int .u64 a)), (6, .sl (.ints .u8 b)), (7, .v (.int .i64 c)), (8, .v (.int .i64 d))], [], 0, 19⟩ => some (a, b, c, d)
 | _ => none
theorem apf (st) (x) (h : V3 st = some x) : st = S3 x := by
 unfold V3 at h
 split at h
 · cases h; rfl
 · cases h
abbrev Y3 := P.bqx
def E3 (K : AExit → ASt → Option R) : Y3 → Option R := (fun x => K (.exit 0) (S3 x))
noncomputable def L3 : xw := fun st K => ag4 (V3 st) fun x => P.bqw x (E3 K)
noncomputable def D : Ctx := ({ P := Tryd.prog, G := [], globs := GLO.gx, hints := [(3, ⟨[3, 6, 7, 8], [], [2], [], none, [], []⟩)], loops := [(3, L3)], inl := [] } : Ctx)
theorem aic (K) (next) (x) : qb D (dw Tryd.f134 3) K next (S3 x) = P.bjb x (fun x => next (S3 x)) (E3 K) := by kernel_rfl
theorem aol : ou D (dw Tryd.f134 3) := jf S3 apf (by kernel_rfl) P.bri aic
theorem loops : bq (Tryd.f134.body.getD .skip) = [dw Tryd.f134 3] := by kernel_rfl
noncomputable def bg : Abs.Spec := fun args K => match args with
 | [.sl (.ints .u8 a)] => P.su a (fun b => K (.v (.int .u64 b)))
 | _ => none
noncomputable def spec : Abs.Spec := fun args K => bg (tu [.sl (.ints .u8 [])] args) K
theorem ok0 : Proved Tryd.prog GLO.gx 134 bg := by
 refine dn (D := D) (fn := Tryd.f134) (c := Tryd.f134.body.getD .skip) [.any] (by kernel_rfl) (au (by kernel_rfl)) (by kernel_rfl) (by kernel_rfl) (by kernel_rfl) trivial trivial ?_ ?_
 · rw [loops]; exact ⟨aol, trivial⟩
 · intro args K r h
   unfold bg at h
   split at h
   · rw [P.aor] at h; exact Eq.trans (by kernel_rfl) h
   · cases h
theorem ok : Proved Tryd.prog GLO.gx 134 spec := eu _ ok0
end su

namespace adh
abbrev X5 := P.zt4
def S5 : X5 → ASt := fun (c, a, b, d) => ⟨[(0, .v (.int .u64 c)), (5, .own 0), (16, .v (.int .i64 a)), (17, .v (.int .i64 b))], [(0, some ⟨.row 5 (.ints .u8 d), false⟩)], 1, 30⟩
def V5 : ASt → Option X5
 | ⟨[(0, .v (.int .u64 c)), (5, .own 0), (16, .v (.int .i64 a)), (17, .v (.int .i64 b))], [(0, some ⟨.row 5 (.ints .u8 d), false⟩)], 1, 30⟩ => some (c, a, b, d)
 | _ => none
theorem bg5 (st) (x) (h : V5 st = some x) : st = S5 x := by
 unfold V5 at h
 split at h
 · cases h; rfl
 · cases h
abbrev Y5 := P.zy4
def E5 (K : AExit → ASt → Option R) : Y5 → Option R := (fun x => K (.exit 0) (S5 x))
noncomputable def L5 : xw := fun st K => ag4 (V5 st) fun x => P.zm4 x (E5 K)
noncomputable def D : Ctx := ({ P := Tryd.prog, G := [], globs := GLO.gx, hints := [(5, ⟨[0, 5, 16, 17], [], [4], [], none, [], []⟩)], loops := [(5, L5)], inl := [] } : Ctx)
theorem az1 (K) (next) (x) : qb D (dw Tryd.f103 5) K next (S5 x) = P.zs4 x (fun x => next (S5 x)) (E5 K) := by kernel_rfl
theorem bgl : ou D (dw Tryd.f103 5) := jf S5 bg5 (by kernel_rfl) P.ze4 az1
theorem loops : bq (Tryd.f103.body.getD .skip) = [dw Tryd.f103 5] := by kernel_rfl
noncomputable def bg : Abs.Spec := fun args K => match args with
 | [.v (.int .u64 a), .v (.int .i64 b)] => P.adh a b (fun c => K (.fr 5 (.ints .u8 c)))
 | _ => none
noncomputable def spec : Abs.Spec := bg
theorem ok0 : Proved Tryd.prog GLO.gx 103 bg := by
 refine dn (D := D) (fn := Tryd.f103) (c := Tryd.f103.body.getD .skip) [.fr 5 (.ints .u8 [])] (by kernel_rfl) (au (by kernel_rfl)) (by kernel_rfl) (by kernel_rfl) (by kernel_rfl) trivial trivial ?_ ?_
 · rw [loops]; exact ⟨bgl, trivial⟩
 · intro args K r h
   unfold bg at h
   split at h
   · rw [P.aq7] at h; exact Eq.trans (by kernel_rfl) h
   · cases h
theorem ok : Proved Tryd.prog GLO.gx 103 spec := ok0
end adh

namespace tq
abbrev br5 := P.zt5
def bi2 : br5 → ASt := fun (a, b, c) => ⟨[(0, .own 0), (2, .v (.int .i64 a)), (3, .v (.int .i64 b))], [(0, some ⟨.row 5 (.ints .u8 c), false⟩)], 1, 28⟩
def bom : ASt → Option br5
 | ⟨[(0, .own 0), (2, .v (.int .i64 a)), (3, .v (.int .i64 b))], [(0, some ⟨.row 5 (.ints .u8 c), false⟩)], 1, 28⟩ => some (a, b, c)
 | _ => none
theorem bht (st) (x) (h : bom st = some x) : st = bi2 x := by
 unfold bom at h
 split at h
 · cases h; rfl
 · cases h
abbrev Y1_1 := P.zy5
def brv (K : AExit → ASt → Option R) : Y1_1 → Option R := (fun x => K (.exit 0) (bi2 x))
noncomputable def L1_1 : xw := fun st K => ag4 (bom st) fun x => P.zm5 x (brv K)
noncomputable def D1 : Ctx := ({ P := Tryd.prog, G := [(103, adh.spec)], globs := GLO.gx, hints := [(1, ⟨[0, 2, 3], [], [], [], none, [], []⟩)], loops := [(1, L1_1)], inl := [] } : Ctx)
noncomputable def D : Ctx := ({ P := Tryd.prog, G := [(103, adh.spec)], globs := GLO.gx, hints := [], loops := [], inl := [(104, aej D1 Tryd.f104)] } : Ctx)
theorem bd5 (K) (next) (x) : qb D1 (dw Tryd.f104 1) K next (bi2 x) = P.zs5 x (fun x => next (bi2 x)) (brv K) := by kernel_rfl
theorem bf2 : ou D1 (dw Tryd.f104 1) := jf bi2 bht (by kernel_rfl) P.ze5 bd5
theorem loops : bq (Tryd.f60.body.getD .skip) = [] := by kernel_rfl
theorem ait : bq (Tryd.f104.body.getD .skip) = [dw Tryd.f104 1] := by kernel_rfl
noncomputable def bg : Abs.Spec := fun args K => match args with
 | [.v (.int .u64 a), .v (.int .i64 b)] => P.tq a b (fun c => K (.fr 5 (.ints .u8 c)))
 | _ => none
noncomputable def spec : Abs.Spec := bg
theorem ok0 : Proved Tryd.prog GLO.gx 60 bg := by
 refine dn (D := D) (fn := Tryd.f60) (c := Tryd.f60.body.getD .skip) [.fr 5 (.ints .u8 [])] (by kernel_rfl) (au (by kernel_rfl)) (by kernel_rfl) (by kernel_rfl) (by kernel_rfl) ⟨adh.ok, trivial⟩ ⟨ak3 (D := D1) (D' := D) (fn := Tryd.f104) (c := Tryd.f104.body.getD .skip) rfl rfl (by kernel_rfl) (au (by kernel_rfl)) (by kernel_rfl) (by kernel_rfl) (by kernel_rfl) ⟨adh.ok, trivial⟩ trivial (by rw [ait]; exact ⟨bf2, trivial⟩) (fun _ _ _ _ _ h => h), trivial⟩ ?_ ?_
 · rw [loops]; exact trivial
 · intro args K r h
   unfold bg at h
   split at h
   · rw [P.aq2] at h; exact Eq.trans (by kernel_rfl) h
   · cases h
theorem ok : Proved Tryd.prog GLO.gx 60 spec := ok0
end tq

namespace nu
noncomputable def D : Ctx := ({ P := Tryd.prog, G := [], globs := GLO.gx, hints := [], loops := [], inl := [] } : Ctx)
theorem loops : bq (Tryd.f129.body.getD .skip) = [] := by kernel_rfl
noncomputable def bg : Abs.Spec := fun args K => match args with
 | [.v (.slice none 0 0), .v (.int .i64 a)] => P.nu a (fun b => K (.fr 5 (.ints .u8 b)))
 | _ => none
noncomputable def spec : Abs.Spec := bg
theorem ok0 : Proved Tryd.prog GLO.gx 129 bg := by
 refine ap3 (D := D) (fn := Tryd.f129) (c := Tryd.f129.body.getD .skip) 5 (.ints .u8 []) (by kernel_rfl) (au (by kernel_rfl)) (by kernel_rfl) (by kernel_rfl) (by kernel_rfl) trivial trivial ?_ ?_
 · rw [loops]; exact trivial
 · intro args K r h
   unfold bg at h
   split at h
   · rw [P.ae6] at h; exact Eq.trans (by kernel_rfl) h
   · cases h
theorem ok : Proved Tryd.prog GLO.gx 129 spec := ok0
end nu

namespace gy
abbrev X3 := P.zt6
def S3 : X3 → ASt := fun (c, d, e, a, b) => ⟨[(0, .sl (.rows .u8 c)), (3, .v (.int .i64 d)), (9, .sl (.rows .u8 e)), (10, .v (.int .i64 a)), (11, .v (.int .i64 b))], [], 0, 36⟩
def V3 : ASt → Option X3
 | ⟨[(0, .sl (.rows .u8 c)), (3, .v (.int .i64 d)), (9, .sl (.rows .u8 e)), (10, .v (.int .i64 a)), (11, .v (.int .i64 b))], [], 0, 36⟩ => some (c, d, e, a, b)
 | _ => none
theorem apf (st) (x) (h : V3 st = some x) : st = S3 x := by
 unfold V3 at h
 split at h
 · cases h; rfl
 · cases h
abbrev Y3 := P.zy6
abbrev X11 := P.zt7
def S11 : X11 → ASt := fun (a, b, c, d) => ⟨[(6, .own 1), (25, .sl (.rows .u8 a)), (26, .v (.int .i64 b)), (27, .v (.int .i64 c))], [(1, some ⟨.row 5 (.ints .u8 d), false⟩), (0, none)], 2, 36⟩
def V11 : ASt → Option X11
 | ⟨[(6, .own 1), (25, .sl (.rows .u8 a)), (26, .v (.int .i64 b)), (27, .v (.int .i64 c))], [(1, some ⟨.row 5 (.ints .u8 d), false⟩), (0, none)], 2, 36⟩ => some (a, b, c, d)
 | _ => none
theorem biz (st) (x) (h : V11 st = some x) : st = S11 x := by
 unfold V11 at h
 split at h
 · cases h; rfl
 · cases h
abbrev Y11 := P.zy7
def E3 (K : AExit → ASt → Option R) : Y3 → Option R := (fun x => K (.exit 0) (S3 x))
noncomputable def L3 : xw := fun st K => ag4 (V3 st) fun x => P.zm6 x (E3 K)
def E11 (K : AExit → ASt → Option R) : Y11 → Option R := (fun x => K (.exit 2) (S11 x))
noncomputable def L11 : xw := fun st K => ag4 (V11 st) fun x => P.zm7 x (E11 K)
noncomputable def D : Ctx := ({ P := Tryd.prog, G := [(129, nu.spec)], globs := GLO.gx, hints := [(11, ⟨[25, 26, 27], [(6, 5, .ints .u8 [])], [2], [], none, [], []⟩), (3, ⟨[0, 3, 9, 10, 11], [], [2], [], none, [], []⟩)], loops := [(3, L3), (11, L11)], inl := [] } : Ctx)
theorem aic (K) (next) (x) : qb D (dw Tryd.f105 3) K next (S3 x) = P.zs6 x (fun x => next (S3 x)) (E3 K) := by kernel_rfl
theorem aol : ou D (dw Tryd.f105 3) := jf S3 apf (by kernel_rfl) P.ze6 aic
theorem bhe (K) (next) (x) : qb D (dw Tryd.f105 11) K next (S11 x) = P.zs7 x (fun x => next (S11 x)) (E11 K) := by kernel_rfl
theorem bi4 : ou D (dw Tryd.f105 11) := jf S11 biz (by kernel_rfl) P.ze7 bhe
theorem loops : bq (Tryd.f105.body.getD .skip) = [dw Tryd.f105 3, dw Tryd.f105 11] := by kernel_rfl
noncomputable def bg : Abs.Spec := fun args K => match args with
 | [.sl (.rows .u8 a)] => P.gy a (fun b => K (.fr 5 (.ints .u8 b)))
 | _ => none
noncomputable def spec : Abs.Spec := fun args K => bg (tu [.sl (.rows .u8 [])] args) K
theorem ok0 : Proved Tryd.prog GLO.gx 105 bg := by
 refine dn (D := D) (fn := Tryd.f105) (c := Tryd.f105.body.getD .skip) [.fr 5 (.ints .u8 [])] (by kernel_rfl) (au (by kernel_rfl)) (by kernel_rfl) (by kernel_rfl) (by kernel_rfl) ⟨nu.ok, trivial⟩ trivial ?_ ?_
 · rw [loops]; exact ⟨aol, bi4, trivial⟩
 · intro args K r h
   unfold bg at h
   split at h
   · rw [P.ad2] at h; exact Eq.trans (by kernel_rfl) h
   · cases h
theorem ok : Proved Tryd.prog GLO.gx 105 spec := eu _ ok0
end gy

namespace jq
noncomputable def D : Ctx := ({ P := Tryd.prog, G := [(105, gy.spec)], globs := GLO.gx, hints := [], loops := [], inl := [] } : Ctx)
theorem loops : bq (Tryd.f62.body.getD .skip) = [] := by kernel_rfl
noncomputable def bg : Abs.Spec := fun args K => match args with
 | [.sl (.rows .u8 a)] => P.jq a (fun b => K (.fr 5 (.ints .u8 b)))
 | _ => none
noncomputable def spec : Abs.Spec := fun args K => bg (tu [.sl (.rows .u8 [])] args) K
theorem ok0 : Proved Tryd.prog GLO.gx 62 bg := by
 refine dn (D := D) (fn := Tryd.f62) (c := Tryd.f62.body.getD .skip) [.fr 5 (.ints .u8 [])] (by kernel_rfl) (au (by kernel_rfl)) (by kernel_rfl) (by kernel_rfl) (by kernel_rfl) ⟨gy.ok, trivial⟩ trivial ?_ ?_
 · rw [loops]; exact trivial
 · intro args K r h
   unfold bg at h
   split at h
   · rw [P.ams] at h; exact Eq.trans (by kernel_rfl) h
   · cases h
theorem ok : Proved Tryd.prog GLO.gx 62 spec := eu _ ok0
end jq

namespace oo
noncomputable def D : Ctx := ({ P := Tryd.prog, G := [(60, tq.spec), (62, jq.spec)], globs := GLO.gx, hints := [], loops := [], inl := [] } : Ctx)
theorem loops : bq (Tryd.f27.body.getD .skip) = [] := by kernel_rfl
noncomputable def bg : Abs.Spec := fun args K => match args with
 | [.arr .u8 32 a, .v (.int .i64 b), .v (.int .u64 c)] => P.oo a b c (fun d => K (.arr .u8 32 d))
 | _ => none
noncomputable def spec : Abs.Spec := bg
theorem ok0 : Proved Tryd.prog GLO.gx 27 bg := by
 refine dn (D := D) (fn := Tryd.f27) (c := Tryd.f27.body.getD .skip) [.any] (by kernel_rfl) (au (by kernel_rfl)) (by kernel_rfl) (by kernel_rfl) (by kernel_rfl) ⟨tq.ok, jq.ok, trivial⟩ trivial ?_ ?_
 · rw [loops]; exact trivial
 · intro args K r h
   unfold bg at h
   split at h
   · rw [P.aph] at h; exact Eq.trans (by kernel_rfl) h
   · cases h
theorem ok : Proved Tryd.prog GLO.gx 27 spec := ok0
end oo

namespace jm
noncomputable def D : Ctx := ({ P := Tryd.prog, G := [(27, oo.spec), (134, su.spec)], globs := GLO.gx, hints := [], loops := [], inl := [] } : Ctx)
theorem loops : bq (Tryd.f112.body.getD .skip) = [] := by kernel_rfl
noncomputable def bg : Abs.Spec := fun args K => match args with
 | [.agg [.v (.int .i64 c), .v (.int .i64 d), .v (.int .i64 e), .v (.int .i64 f), .v (.int .i64 g), .v (.bool a), .sl (.ints .u8 b), .sl (.ints .u8 h), .arr .u8 32 i], .v (.int .u64 j)] => P.jm c d e f g a b h i j (fun k => K (.arr .u8 32 k))
 | _ => none
noncomputable def spec : Abs.Spec := fun args K => bg (tu [.agg [.any, .any, .any, .any, .any, .any, .sl (.ints .u8 []), .sl (.ints .u8 []), .any], .any] args) K
theorem ok0 : Proved Tryd.prog GLO.gx 112 bg := by
 refine dn (D := D) (fn := Tryd.f112) (c := Tryd.f112.body.getD .skip) [.any] (by kernel_rfl) (au (by kernel_rfl)) (by kernel_rfl) (by kernel_rfl) (by kernel_rfl) ⟨oo.ok, su.ok, trivial⟩ trivial ?_ ?_
 · rw [loops]; exact trivial
 · intro args K r h
   unfold bg at h
   split at h
   · rw [P.aho] at h; exact Eq.trans (by kernel_rfl) h
   · cases h
theorem ok : Proved Tryd.prog GLO.gx 112 spec := eu _ ok0
end jm

namespace ni
noncomputable def D : Ctx := ({ P := Tryd.prog, G := [], globs := GLO.gx, hints := [], loops := [], inl := [] } : Ctx)
theorem loops : bq (Tryd.f139.body.getD .skip) = [] := by kernel_rfl
noncomputable def bg : Abs.Spec := fun args K => match args with
 | [.v (.int .i64 a)] => P.ni a (fun b => K (.v (.int .u64 b)))
 | _ => none
noncomputable def spec : Abs.Spec := bg
theorem ok0 : Proved Tryd.prog GLO.gx 139 bg := by
 refine dn (D := D) (fn := Tryd.f139) (c := Tryd.f139.body.getD .skip) [.any] (by kernel_rfl) (au (by kernel_rfl)) (by kernel_rfl) (by kernel_rfl) (by kernel_rfl) trivial trivial ?_ ?_
 · rw [loops]; exact trivial
 · intro args K r h
   unfold bg at h
   split at h
   · rw [P.ajo] at h; exact Eq.trans (by kernel_rfl) h
   · cases h
theorem ok : Proved Tryd.prog GLO.gx 139 spec := ok0
end ni

namespace aa3
noncomputable def D : Ctx := ({ P := Tryd.prog, G := [(139, ni.spec)], globs := GLO.gx, hints := [], loops := [], inl := [] } : Ctx)
theorem loops : bq (Tryd.f120.body.getD .skip) = [] := by kernel_rfl
noncomputable def bg : Abs.Spec := fun args K => match args with
 | [] => P.aa3 (fun f e a b c d => K (.agg [.v (.int .i64 f), .v (.int .i64 e), .arr .i64 3 a, .arr .i64 3 b, .arr .i64 3 c, .arr .i64 3 d, .fn (.func 139) [] []]))
 | _ => none
noncomputable def spec : Abs.Spec := bg
theorem ok0 : Proved Tryd.prog GLO.gx 120 bg := by
 refine dn (D := D) (fn := Tryd.f120) (c := Tryd.f120.body.getD .skip) [.any] (by kernel_rfl) (au (by kernel_rfl)) (by kernel_rfl) (by kernel_rfl) (by kernel_rfl) ⟨ni.ok, trivial⟩ trivial ?_ ?_
 · rw [loops]; exact trivial
 · intro args K r h
   unfold bg at h
   split at h
   · rw [P.amq] at h; exact Eq.trans (by kernel_rfl) h
   · cases h
theorem ok : Proved Tryd.prog GLO.gx 120 spec := ok0
end aa3

namespace mq
noncomputable def D : Ctx := ({ P := Tryd.prog, G := [], globs := GLO.gx, hints := [], loops := [], inl := [] } : Ctx)
theorem loops : bq (Tryd.f137.body.getD .skip) = [] := by kernel_rfl
noncomputable def bg : Abs.Spec := fun args K => match args with
 | [.v (.int .i64 a)] => P.mq a (fun b => K (.v (.int .u32 b)))
 | _ => none
noncomputable def spec : Abs.Spec := bg
theorem ok0 : Proved Tryd.prog GLO.gx 137 bg := by
 refine dn (D := D) (fn := Tryd.f137) (c := Tryd.f137.body.getD .skip) [.any] (by kernel_rfl) (au (by kernel_rfl)) (by kernel_rfl) (by kernel_rfl) (by kernel_rfl) trivial trivial ?_ ?_
 · rw [loops]; exact trivial
 · intro args K r h
   unfold bg at h
   split at h
   · rw [P.ajv] at h; exact Eq.trans (by kernel_rfl) h
   · cases h
theorem ok : Proved Tryd.prog GLO.gx 137 spec := ok0
end mq

namespace aay
noncomputable def D : Ctx := ({ P := Tryd.prog, G := [(137, mq.spec)], globs := GLO.gx, hints := [], loops := [], inl := [] } : Ctx)
theorem loops : bq (Tryd.f118.body.getD .skip) = [] := by kernel_rfl
noncomputable def bg : Abs.Spec := fun args K => match args with
 | [] => P.aay (fun f e a b c d => K (.agg [.v (.int .i64 f), .v (.int .i64 e), .arr .i64 3 a, .arr .i64 3 b, .arr .i64 3 c, .arr .i64 3 d, .fn (.func 137) [] []]))
 | _ => none
noncomputable def spec : Abs.Spec := bg
theorem ok0 : Proved Tryd.prog GLO.gx 118 bg := by
 refine dn (D := D) (fn := Tryd.f118) (c := Tryd.f118.body.getD .skip) [.any] (by kernel_rfl) (au (by kernel_rfl)) (by kernel_rfl) (by kernel_rfl) (by kernel_rfl) ⟨mq.ok, trivial⟩ trivial ?_ ?_
 · rw [loops]; exact trivial
 · intro args K r h
   unfold bg at h
   split at h
   · rw [P.am7] at h; exact Eq.trans (by kernel_rfl) h
   · cases h
theorem ok : Proved Tryd.prog GLO.gx 118 spec := ok0
end aay

namespace ay
noncomputable def D : Ctx := ({ P := Tryd.prog, G := [(137, mq.spec)], globs := GLO.gx, hints := [], loops := [], inl := [] } : Ctx)
theorem loops : bq (Tryd.f157.body.getD .skip) = [] := by kernel_rfl
noncomputable def bg : Abs.Spec := fun args K => match args with
 | [.agg [.v (.int .i64 f), .v (.int .i64 e), .arr .i64 3 a, .arr .i64 3 b, .arr .i64 3 c, .arr .i64 3 d, .fn (.func 137) [] []], .v (.int .u32 g), .v (.int .i64 h)] => P.ay f e a b c d g h (fun i => K (.v (.int .u32 i)))
 | _ => none
noncomputable def spec : Abs.Spec := bg
theorem ok0 : Proved Tryd.prog GLO.gx 157 bg := by
 refine dn (D := D) (fn := Tryd.f157) (c := Tryd.f157.body.getD .skip) [.any] (by kernel_rfl) (au (by kernel_rfl)) (by kernel_rfl) (by kernel_rfl) (by kernel_rfl) ⟨mq.ok, trivial⟩ trivial ?_ ?_
 · rw [loops]; exact trivial
 · intro args K r h
   unfold bg at h
   split at h
   · rw [P.aag] at h; exact Eq.trans (by kernel_rfl) h
   · cases h
theorem ok : Proved Tryd.prog GLO.gx 157 spec := ok0
end ay

namespace je
noncomputable def D : Ctx := ({ P := Tryd.prog, G := [(137, mq.spec), (157, ay.spec)], globs := GLO.gx, hints := [], loops := [], inl := [] } : Ctx)
theorem loops : bq (Tryd.f148.body.getD .skip) = [] := by kernel_rfl
noncomputable def bg : Abs.Spec := fun args K => match args with
 | [.agg [.v (.int .i64 f), .v (.int .i64 e), .arr .i64 3 a, .arr .i64 3 b, .arr .i64 3 c, .arr .i64 3 d, .fn (.func 137) [] []], .v (.int .u32 g), .v (.int .i64 h)] => P.je f e a b c d g h (fun i => K (.v (.int .u32 i)))
 | _ => none
noncomputable def spec : Abs.Spec := bg
theorem ok0 : Proved Tryd.prog GLO.gx 148 bg := by
 refine dn (D := D) (fn := Tryd.f148) (c := Tryd.f148.body.getD .skip) [.any] (by kernel_rfl) (au (by kernel_rfl)) (by kernel_rfl) (by kernel_rfl) (by kernel_rfl) ⟨mq.ok, ay.ok, trivial⟩ trivial ?_ ?_
 · rw [loops]; exact trivial
 · intro args K r h
   unfold bg at h
   split at h
   · rw [P.xq] at h; exact Eq.trans (by kernel_rfl) h
   · cases h
theorem ok : Proved Tryd.prog GLO.gx 148 spec := ok0
end je

namespace jr
noncomputable def D : Ctx := ({ P := Tryd.prog, G := [(137, mq.spec), (157, ay.spec)], globs := GLO.gx, hints := [], loops := [], inl := [] } : Ctx)
theorem loops : bq (Tryd.f149.body.getD .skip) = [] := by kernel_rfl
noncomputable def bg : Abs.Spec := fun args K => match args with
 | [.agg [.v (.int .i64 f), .v (.int .i64 e), .arr .i64 3 a, .arr .i64 3 b, .arr .i64 3 c, .arr .i64 3 d, .fn (.func 137) [] []], .v (.int .u32 g), .v (.int .i64 h)] => P.jr f e a b c d g h (fun i => K (.v (.int .u32 i)))
 | _ => none
noncomputable def spec : Abs.Spec := bg
theorem ok0 : Proved Tryd.prog GLO.gx 149 bg := by
 refine dn (D := D) (fn := Tryd.f149) (c := Tryd.f149.body.getD .skip) [.any] (by kernel_rfl) (au (by kernel_rfl)) (by kernel_rfl) (by kernel_rfl) (by kernel_rfl) ⟨mq.ok, ay.ok, trivial⟩ trivial ?_ ?_
 · rw [loops]; exact trivial
 · intro args K r h
   unfold bg at h
   split at h
   · rw [P.yx] at h; exact Eq.trans (by kernel_rfl) h
   · cases h
theorem ok : Proved Tryd.prog GLO.gx 149 spec := ok0
end jr

end
