/-
  ForsRight, part 17: an interpreter of my own over abstract values, the pure functions, the walks and the plain law.
-/

import Derived.Test.YtjhnljhjpnjieaaDoorForsRightK
import Derived.Test.YtjhnljhjpnjieaaDoorForsRightG
import Derived.Test.YtjhnljhjpnjieaaDoorProg
import Derived.Test.YtjhnljhjpnjieaaDoorForsRightJ
import Derived.Test.YtjhnljhjpnjieaaDoorForsRightM
import Derived.Test.YtjhnljhjpnjieaaDoorForsRightP
import Derived.KernelRfl
import Derived.Test.YtjhnljhjpnjieaaDoorForsRightI

section
open Go Go.Abs Go.Proofs
set_option maxRecDepth 100000
set_option maxHeartbeats 0
set_option linter.unusedVariables false

namespace wu
abbrev blw := P.bjg
def az0 : blw → ASt := fun (B, C, F, a, b, c, d, e, f, g, h, i, j, k, l, m, n, o, p, q, r, s, t, u, w, y, z, A, G) => ⟨[(11, .ptr 2 0), (15, .ptr 3 0), (16, .v (.int .u64 B)), (49, .v (.int .i64 C)), (50, .v (.int .i64 F))], [(1240, some ⟨.row 5 (.ints .u8 a), false⟩), (0, some ⟨.box 41 [.v (.int .i64 b), .v (.int .i64 c), .v (.int .i64 d), .v (.int .i64 e), .v (.int .i64 f), .v (.bool g)], false⟩), (2, some ⟨.box 93 [.v (.int .i64 h), .v (.int .i64 i), .v (.int .i64 j), .v (.int .i64 k), .v (.int .i64 l), .v (.bool m), .sl (.ints .u8 n), .sl (.ints .u8 o), .arr .u8 32 p], false⟩), (3, some ⟨.box 22 [.own 1240], false⟩), (4, some ⟨.box 93 [.v (.int .i64 q), .v (.int .i64 r), .v (.int .i64 s), .v (.int .i64 t), .v (.int .i64 u), .v (.bool w), .sl (.ints .u8 y), .sl (.ints .u8 z), .arr .u8 32 A], false⟩), (7, some ⟨.row 77 (.ints .u32 G), false⟩)], 1241, 64⟩
def bh3 : ASt → Option blw
 | ⟨[(11, .ptr 2 0), (15, .ptr 3 0), (16, .v (.int .u64 B)), (49, .v (.int .i64 C)), (50, .v (.int .i64 F))], [(1240, some ⟨.row 5 (.ints .u8 a), false⟩), (0, some ⟨.box 41 [.v (.int .i64 b), .v (.int .i64 c), .v (.int .i64 d), .v (.int .i64 e), .v (.int .i64 f), .v (.bool g)], false⟩), (2, some ⟨.box 93 [.v (.int .i64 h), .v (.int .i64 i), .v (.int .i64 j), .v (.int .i64 k), .v (.int .i64 l), .v (.bool m), .sl (.ints .u8 n), .sl (.ints .u8 o), .arr .u8 32 p], false⟩), (3, some ⟨.box 22 [.own 1240], false⟩), (4, some ⟨.box 93 [.v (.int .i64 q), .v (.int .i64 r), .v (.int .i64 s), .v (.int .i64 t), .v (.int .i64 u), .v (.bool w), .sl (.ints .u8 y), .sl (.ints .u8 z), .arr .u8 32 A], false⟩), (7, some ⟨.row 77 (.ints .u32 G), false⟩)], 1241, 64⟩ => some (B, C, F, a, b, c, d, e, f, g, h, i, j, k, l, m, n, o, p, q, r, s, t, u, w, y, z, A, G)
 | _ => none
theorem bdq (st) (x) (h : bh3 st = some x) : st = az0 x := by
 unfold bh3 at h
 split at h
 · cases h; rfl
 · cases h
abbrev bpn := P.bq8
abbrev bjl := P.bi7
def ba3 : bjl → ASt := fun (B, C, a, b, c, d, e, f, g, h, i, j, k, l, m, n, o, p, q, r, s, t, u, w, y, z, A, F) => ⟨[(0, .yld 6 [5, 11, 15] [.ptr 0 0, .ptr 2 0, .ptr 3 0]), (2, .ptr 4 0), (13, .own 7), (14, .v (.int .i64 B)), (15, .v (.int .i64 C))], [(840, some ⟨.row 5 (.ints .u8 a), false⟩), (0, some ⟨.box 41 [.v (.int .i64 b), .v (.int .i64 c), .v (.int .i64 d), .v (.int .i64 e), .v (.int .i64 f), .v (.bool g)], false⟩), (2, some ⟨.box 93 [.v (.int .i64 h), .v (.int .i64 i), .v (.int .i64 j), .v (.int .i64 k), .v (.int .i64 l), .v (.bool m), .sl (.ints .u8 n), .sl (.ints .u8 o), .arr .u8 32 p], false⟩), (3, some ⟨.box 22 [.own 840], false⟩), (4, some ⟨.box 93 [.v (.int .i64 q), .v (.int .i64 r), .v (.int .i64 s), .v (.int .i64 t), .v (.int .i64 u), .v (.bool w), .sl (.ints .u8 y), .sl (.ints .u8 z), .arr .u8 32 A], false⟩), (7, some ⟨.row 77 (.ints .u32 F), false⟩)], 841, 33⟩
def bf9 : ASt → Option bjl
 | ⟨[(0, .yld 6 [5, 11, 15] [.ptr 0 0, .ptr 2 0, .ptr 3 0]), (2, .ptr 4 0), (13, .own 7), (14, .v (.int .i64 B)), (15, .v (.int .i64 C))], [(840, some ⟨.row 5 (.ints .u8 a), false⟩), (0, some ⟨.box 41 [.v (.int .i64 b), .v (.int .i64 c), .v (.int .i64 d), .v (.int .i64 e), .v (.int .i64 f), .v (.bool g)], false⟩), (2, some ⟨.box 93 [.v (.int .i64 h), .v (.int .i64 i), .v (.int .i64 j), .v (.int .i64 k), .v (.int .i64 l), .v (.bool m), .sl (.ints .u8 n), .sl (.ints .u8 o), .arr .u8 32 p], false⟩), (3, some ⟨.box 22 [.own 840], false⟩), (4, some ⟨.box 93 [.v (.int .i64 q), .v (.int .i64 r), .v (.int .i64 s), .v (.int .i64 t), .v (.int .i64 u), .v (.bool w), .sl (.ints .u8 y), .sl (.ints .u8 z), .arr .u8 32 A], false⟩), (7, some ⟨.row 77 (.ints .u32 F), false⟩)], 841, 33⟩ => some (B, C, a, b, c, d, e, f, g, h, i, j, k, l, m, n, o, p, q, r, s, t, u, w, y, z, A, F)
 | _ => none
theorem awl (st) (x) (h : bf9 st = some x) : st = ba3 x := by
 unfold bf9 at h
 split at h
 · cases h; rfl
 · cases h
abbrev bnv := P.bp4
def bip (K : AExit → ASt → Option R) : bpn → Option R := (fun x => K (.exit 2) (az0 x))
noncomputable def bp8 : xw := fun st K => ag4 (bh3 st) fun x => P.bqg x (bip K)
def bk3 (K : AExit → ASt → Option R) : bnv → Option R := (fun x => K (.exit 0) (ba3 x))
noncomputable def bnt : xw := fun st K => ag4 (bf9 st) fun x => P.bnu x (bk3 K)
noncomputable def D3 : Ctx := ({ P := Tryd.prog, G := [(39, gq.spec), (64, jk.spec), (72, jh.spec), (74, iy.spec), (75, jc.spec)], globs := GLO.gx, hints := [(10, ⟨[11, 15, 16, 49, 50], [(1000003, 5, .ints .u8 [])], [10], [], some (1240, [0, 2, 3, 4, 7]), [2], []⟩)], loops := [(10, bp8)], inl := [], y := some (auv (aea Tryd.f40 8) 64 false) } : Ctx)
noncomputable def D2 : Ctx := ({ P := Tryd.prog, G := [(39, gq.spec), (64, jk.spec), (72, jh.spec), (74, iy.spec), (75, jc.spec)], globs := GLO.gx, hints := [(1, ⟨[0, 2, 13, 14, 15], [(1000003, 5, .ints .u8 [])], [], [], some (840, [0, 2, 3, 4, 7]), [0, 2, 4], []⟩)], loops := [(1, bnt)], inl := [], y := some (auv (aea Tryd.f40 8) 64 true), ys := some (am2 D3 (auv (aea Tryd.f40 8) 64 true)) } : Ctx)
noncomputable def D1 : Ctx := ({ P := Tryd.prog, G := [(39, gq.spec), (64, jk.spec), (72, jh.spec), (74, iy.spec), (75, jc.spec)], globs := GLO.gx, hints := [], loops := [], inl := [] } : Ctx)
noncomputable def D : Ctx := ({ P := Tryd.prog, G := [(39, gq.spec), (64, jk.spec), (72, jh.spec), (74, iy.spec), (75, jc.spec)], globs := GLO.gx, hints := [], loops := [], inl := [(73, aej D1 Tryd.f73)], top := true, rng := [(8, ⟨111, 64, [5, 11, 15], aej D2 Tryd.f111⟩)] } : Ctx)
theorem bbc (K) (next) (x) : qb D3 (ba5 (aea Tryd.f40 8) 10) K next (az0 x) = P.bio x (fun x => next (az0 x)) (bip K) := by kernel_rfl
theorem bcu : ou D3 (ba5 (aea Tryd.f40 8) 10) := jf az0 bdq (by kernel_rfl) P.bsl bbc
theorem ar0 (K) (next) (x) : qb D2 (dw Tryd.f111 1) K next (ba3 x) = P.bkz x (fun x => next (ba3 x)) (bk3 K) := by kernel_rfl
theorem awm : ou D2 (dw Tryd.f111 1) := jf ba3 awl (by kernel_rfl) P.brl ar0
theorem loops : bq (Tryd.f40.body.getD .skip) = [] := by kernel_rfl
theorem ait : bq (Tryd.f73.body.getD .skip) = [] := by kernel_rfl
theorem auw : bq (Tryd.f111.body.getD .skip) = [dw Tryd.f111 1] := by kernel_rfl
theorem az2 : bq (bg1 (aea Tryd.f40 8)) = [ba5 (aea Tryd.f40 8) 10] := by kernel_rfl
theorem ranges : qy (Tryd.f40.body.getD .skip) = [aea Tryd.f40 8] := by kernel_rfl
theorem ar2 : akk D2 (am2 D3 (auv (aea Tryd.f40 8) 64 true)) := au0 (Y := auv (aea Tryd.f40 8) 64 true) (ap6 (D := D3) ⟨gq.ok, jk.ok, jh.ok, iy.ok, jc.ok, trivial⟩) (au (by kernel_rfl)) (aqu (D := D3) trivial (ami rfl)) (by kernel_rfl) rfl rfl (by kernel_rfl) (by kernel_rfl) rfl rfl rfl (afw _ (by rw [show bq (auv (aea Tryd.f40 8) 64 true).assign = [] from by kernel_rfl]; exact trivial)) (afw _ (by rw [show bq (auv (aea Tryd.f40 8) 64 true).body = bq (bg1 (aea Tryd.f40 8)) from by kernel_rfl, az2]; exact ⟨bcu, trivial⟩))
noncomputable def bg : Abs.Spec := fun args K => match args with
 | [.agg [.v (.int .i64 b), .v (.int .i64 c), .v (.int .i64 d), .v (.int .i64 e), .v (.int .i64 f), .v (.bool a)], .sl (.ints .u8 g), .sl (.ints .u8 h), .sl (.ints .u8 i), .arr .u8 32 j] => P.wu b c d e f a g h i j (fun k => K (.fr 5 (.ints .u8 k)))
 | _ => none
noncomputable def spec : Abs.Spec := fun args K => bg (tu [.any, .sl (.ints .u8 []), .sl (.ints .u8 []), .sl (.ints .u8 []), .any] args) K
theorem ok0 : Proved Tryd.prog GLO.gx 40 bg := by
 refine dn (D := D) (fn := Tryd.f40) (c := Tryd.f40.body.getD .skip) [.fr 5 (.ints .u8 [])] (by kernel_rfl) (au (by kernel_rfl)) (by kernel_rfl) (by kernel_rfl) (by kernel_rfl) ⟨gq.ok, jk.ok, jh.ok, iy.ok, jc.ok, trivial⟩ ⟨ak3 (D := D1) (D' := D) (fn := Tryd.f73) (c := Tryd.f73.body.getD .skip) rfl rfl (by kernel_rfl) (au (by kernel_rfl)) (by kernel_rfl) (by kernel_rfl) (by kernel_rfl) ⟨gq.ok, jk.ok, jh.ok, iy.ok, jc.ok, trivial⟩ trivial (by rw [ait]; exact trivial) (fun _ _ _ _ _ h => h), trivial⟩ ?_ ?_ (hRg := by rw [ranges]; exact ⟨aq0 (D := D) (Di := D2) (e := ⟨111, 64, [5, 11, 15], aej D2 Tryd.f111⟩) (by kernel_rfl) rfl rfl (by kernel_rfl) (ak3 (D := D2) (D' := D2) (fn := Tryd.f111) (c := Tryd.f111.body.getD .skip) rfl rfl (by kernel_rfl) (au (by kernel_rfl)) (by kernel_rfl) (by kernel_rfl) (by kernel_rfl) ⟨gq.ok, jk.ok, jh.ok, iy.ok, jc.ok, trivial⟩ trivial (by rw [auw]; exact ⟨awm, trivial⟩) (fun _ _ _ _ _ h => h) rfl rfl (akx rfl _) (fun s hs => by have hs : some (am2 D3 (auv (aea Tryd.f40 8) 64 true)) = some s := hs; cases hs; exact ar2)), trivial⟩)
 · rw [loops]; exact trivial
 · intro args K r h
   unfold bg at h
   split at h
   · rw [P.aio] at h; exact Eq.trans (by kernel_rfl) h
   · cases h
theorem ok : Proved Tryd.prog GLO.gx 40 spec := eu _ ok0
end wu

namespace aaq
noncomputable def D : Ctx := ({ P := Tryd.prog, G := [(39, gq.spec), (40, wu.spec)], globs := GLO.gx, hints := [], loops := [], inl := [] } : Ctx)
theorem loops : bq (Tryd.f43.body.getD .skip) = [] := by kernel_rfl
noncomputable def bg : Abs.Spec := fun args K => match args with
 | [] => P.aaq (fun a => K (.v (.bool a)))
 | _ => none
noncomputable def spec : Abs.Spec := bg
theorem ok0 : Proved Tryd.prog GLO.gx 43 bg := by
 refine dn (D := D) (fn := Tryd.f43) (c := Tryd.f43.body.getD .skip) [.any] (by kernel_rfl) (au (by kernel_rfl)) (by kernel_rfl) (by kernel_rfl) (by kernel_rfl) ⟨gq.ok, wu.ok, trivial⟩ trivial ?_ ?_
 · rw [loops]; exact trivial
 · intro args K r h
   unfold bg at h
   split at h
   · rw [P.amx] at h; exact Eq.trans (by kernel_rfl) h
   · cases h
theorem ok : Proved Tryd.prog GLO.gx 43 spec := ok0
end aaq

namespace ace
abbrev X4 := P.zt1
def S4 : X4 → ASt := fun (a, b, c) => ⟨[(0, .sl (.ints .u8 a)), (1, .sl (.ints .u8 b)), (5, .v (.int .i64 c))], [], 0, 26⟩
def V4 : ASt → Option X4
 | ⟨[(0, .sl (.ints .u8 a)), (1, .sl (.ints .u8 b)), (5, .v (.int .i64 c))], [], 0, 26⟩ => some (a, b, c)
 | _ => none
theorem azm (st) (x) (h : V4 st = some x) : st = S4 x := by
 unfold V4 at h
 split at h
 · cases h; rfl
 · cases h
abbrev Y4 := P.zy1
def E4 (K : AExit → ASt → Option R) : Y4 → Option R := (Sum.elim (fun x => K (.exit 0) (S4 x)) (fun a => K .ret ⟨[(4, .v (.bool a))], [], 0, 26⟩))
noncomputable def L4 : xw := fun st K => ag4 (V4 st) fun x => P.zm1 x (E4 K)
noncomputable def D : Ctx := ({ P := Tryd.prog, G := [], globs := GLO.gx, hints := [(4, ⟨[0, 1, 5], [], [4], [], none, [], []⟩)], loops := [(4, L4)], inl := [] } : Ctx)
theorem atz (K) (next) (x) : qb D (dw Tryd.f18 4) K next (S4 x) = P.zs1 x (fun x => next (S4 x)) (E4 K) := by kernel_rfl
theorem azw : ou D (dw Tryd.f18 4) := jf S4 azm (by kernel_rfl) P.ze1 atz
theorem loops : bq (Tryd.f18.body.getD .skip) = [dw Tryd.f18 4] := by kernel_rfl
noncomputable def bg : Abs.Spec := fun args K => match args with
 | [.sl (.ints .u8 a), .sl (.ints .u8 b)] => P.ace a b (fun c => K (.v (.bool c)))
 | _ => none
noncomputable def spec : Abs.Spec := fun args K => bg (tu [.sl (.ints .u8 []), .sl (.ints .u8 [])] args) K
theorem ok0 : Proved Tryd.prog GLO.gx 18 bg := by
 refine dn (D := D) (fn := Tryd.f18) (c := Tryd.f18.body.getD .skip) [.any] (by kernel_rfl) (au (by kernel_rfl)) (by kernel_rfl) (by kernel_rfl) (by kernel_rfl) trivial trivial ?_ ?_
 · rw [loops]; exact ⟨azw, trivial⟩
 · intro args K r h
   unfold bg at h
   split at h
   · rw [P.ant] at h; exact Eq.trans (by kernel_rfl) h
   · cases h
theorem ok : Proved Tryd.prog GLO.gx 18 spec := eu _ ok0
end ace

namespace jv
noncomputable def D : Ctx := ({ P := Tryd.prog, G := [(32, uq.spec), (112, jm.spec)], globs := GLO.gx, hints := [], loops := [], inl := [] } : Ctx)
theorem loops : bq (Tryd.f77.body.getD .skip) = [] := by kernel_rfl
noncomputable def bg : Abs.Spec := fun args K => match args with
 | [.agg [.v (.int .i64 c), .v (.int .i64 d), .v (.int .i64 e), .v (.int .i64 f), .v (.int .i64 g), .v (.bool a), .sl (.ints .u8 b), .sl (.ints .u8 h), .arr .u8 32 i], .sl (.ints .u8 j)] => P.jv c d e f g a b h i j (fun k => K (.sl (.ints .u8 k)))
 | _ => none
noncomputable def spec : Abs.Spec := fun args K => bg (tu [.agg [.any, .any, .any, .any, .any, .any, .sl (.ints .u8 []), .sl (.ints .u8 []), .any], .sl (.ints .u8 [])] args) K
theorem ok0 : Proved Tryd.prog GLO.gx 77 bg := by
 refine dn (D := D) (fn := Tryd.f77) (c := Tryd.f77.body.getD .skip) [.sl (.ints .u8 [])] (by kernel_rfl) (au (by kernel_rfl)) (by kernel_rfl) (by kernel_rfl) (by kernel_rfl) ⟨uq.ok, jm.ok, trivial⟩ trivial ?_ ?_
 · rw [loops]; exact trivial
 · intro args K r h
   unfold bg at h
   split at h
   · rw [P.agx] at h; exact Eq.trans (by kernel_rfl) h
   · cases h
theorem ok : Proved Tryd.prog GLO.gx 77 spec := eu _ ok0
end jv

namespace ng
abbrev X3 := P.bix
def S3 : X3 → ASt := fun (l, m, n, j, k, a, b, c, d, e, f, g, h, i) => ⟨[(1, .v (.int .u64 l)), (2, .sl (.ints .u8 m)), (3, .ptr 0 0), (7, .sl (.ints .u8 n)), (22, .v (.int .i64 j)), (23, .v (.int .i64 k))], [(0, some ⟨.box 93 [.v (.int .i64 a), .v (.int .i64 b), .v (.int .i64 c), .v (.int .i64 d), .v (.int .i64 e), .v (.bool f), .sl (.ints .u8 g), .sl (.ints .u8 h), .arr .u8 32 i], false⟩)], 40, 57⟩
def V3 : ASt → Option X3
 | ⟨[(1, .v (.int .u64 l)), (2, .sl (.ints .u8 m)), (3, .ptr 0 0), (7, .sl (.ints .u8 n)), (22, .v (.int .i64 j)), (23, .v (.int .i64 k))], [(0, some ⟨.box 93 [.v (.int .i64 a), .v (.int .i64 b), .v (.int .i64 c), .v (.int .i64 d), .v (.int .i64 e), .v (.bool f), .sl (.ints .u8 g), .sl (.ints .u8 h), .arr .u8 32 i], false⟩)], 40, 57⟩ => some (l, m, n, j, k, a, b, c, d, e, f, g, h, i)
 | _ => none
theorem apf (st) (x) (h : V3 st = some x) : st = S3 x := by
 unfold V3 at h
 split at h
 · cases h; rfl
 · cases h
abbrev Y3 := P.bm8
def E3 (K : AExit → ASt → Option R) : Y3 → Option R := (fun x => K (.exit 0) (S3 x))
noncomputable def L3 : xw := fun st K => ag4 (V3 st) fun x => P.bn5 x (E3 K)
noncomputable def D : Ctx := ({ P := Tryd.prog, G := [(113, ig.spec)], globs := GLO.gx, hints := [(3, ⟨[1, 2, 3, 7, 22, 23], [], [6], [(2, .sl (.ints .u8 [])), (7, .sl (.ints .u8 []))], some (40, [0]), [], []⟩)], loops := [(3, L3)], inl := [] } : Ctx)
theorem aic (K) (next) (x) : qb D (dw Tryd.f76 3) K next (S3 x) = P.bi9 x (fun x => next (S3 x)) (E3 K) := by kernel_rfl
theorem aol : ou D (dw Tryd.f76 3) := jf S3 apf (by kernel_rfl) P.br7 aic
theorem loops : bq (Tryd.f76.body.getD .skip) = [dw Tryd.f76 3] := by kernel_rfl
noncomputable def bg : Abs.Spec := fun args K => match args with
 | [.agg [.v (.int .i64 c), .v (.int .i64 d), .v (.int .i64 e), .v (.int .i64 f), .v (.int .i64 g), .v (.bool a), .sl (.ints .u8 b), .sl (.ints .u8 h), .arr .u8 32 i], .v (.int .u64 j), .sl (.ints .u8 k)] => P.ng c d e f g a b h i j k (fun l => K (.sl (.ints .u8 l)))
 | _ => none
noncomputable def spec : Abs.Spec := fun args K => bg (tu [.agg [.any, .any, .any, .any, .any, .any, .sl (.ints .u8 []), .sl (.ints .u8 []), .any], .any, .sl (.ints .u8 [])] args) K
theorem ok0 : Proved Tryd.prog GLO.gx 76 bg := by
 refine dn (D := D) (fn := Tryd.f76) (c := Tryd.f76.body.getD .skip) [.sl (.ints .u8 [])] (by kernel_rfl) (au (by kernel_rfl)) (by kernel_rfl) (by kernel_rfl) (by kernel_rfl) ⟨ig.ok, trivial⟩ trivial ?_ ?_
 · rw [loops]; exact ⟨aol, trivial⟩
 · intro args K r h
   unfold bg at h
   split at h
   · rw [P.ahl] at h; exact Eq.trans (by kernel_rfl) h
   · cases h
theorem ok : Proved Tryd.prog GLO.gx 76 spec := eu _ ok0
end ng

namespace p9
abbrev bjl := P.bkd
def ba3 : bjl → ASt := fun (A, B, a, b, c, d, e, f, g, h, i, j, k, l, m, n, o, p, q, r, s, t, u, w, y, z, C) => ⟨[(0, .yld 7 [5, 6, 13, 14] [.ptr 0 0, .ptr 1 0, .ptr 3 0, .ptr 4 0]), (2, .ptr 5 0), (13, .own 8), (14, .v (.int .i64 A)), (15, .v (.int .i64 B))], [(840, some ⟨.row 5 (.ints .u8 a), false⟩), (0, some ⟨.box 41 [.v (.int .i64 b), .v (.int .i64 c), .v (.int .i64 d), .v (.int .i64 e), .v (.int .i64 f), .v (.bool g)], false⟩), (1, some ⟨.box 22 [.sl (.ints .u8 h)], false⟩), (3, some ⟨.box 93 [.v (.int .i64 i), .v (.int .i64 j), .v (.int .i64 k), .v (.int .i64 l), .v (.int .i64 m), .v (.bool n), .v (.slice none 0 0), .sl (.ints .u8 o), .arr .u8 32 p], false⟩), (4, some ⟨.box 22 [.own 840], false⟩), (5, some ⟨.box 93 [.v (.int .i64 q), .v (.int .i64 r), .v (.int .i64 s), .v (.int .i64 t), .v (.int .i64 u), .v (.bool w), .v (.slice none 0 0), .sl (.ints .u8 y), .arr .u8 32 z], false⟩), (8, some ⟨.row 77 (.ints .u32 C), false⟩)], 841, 33⟩
def bf9 : ASt → Option bjl
 | ⟨[(0, .yld 7 [5, 6, 13, 14] [.ptr 0 0, .ptr 1 0, .ptr 3 0, .ptr 4 0]), (2, .ptr 5 0), (13, .own 8), (14, .v (.int .i64 A)), (15, .v (.int .i64 B))], [(840, some ⟨.row 5 (.ints .u8 a), false⟩), (0, some ⟨.box 41 [.v (.int .i64 b), .v (.int .i64 c), .v (.int .i64 d), .v (.int .i64 e), .v (.int .i64 f), .v (.bool g)], false⟩), (1, some ⟨.box 22 [.sl (.ints .u8 h)], false⟩), (3, some ⟨.box 93 [.v (.int .i64 i), .v (.int .i64 j), .v (.int .i64 k), .v (.int .i64 l), .v (.int .i64 m), .v (.bool n), .v (.slice none 0 0), .sl (.ints .u8 o), .arr .u8 32 p], false⟩), (4, some ⟨.box 22 [.own 840], false⟩), (5, some ⟨.box 93 [.v (.int .i64 q), .v (.int .i64 r), .v (.int .i64 s), .v (.int .i64 t), .v (.int .i64 u), .v (.bool w), .v (.slice none 0 0), .sl (.ints .u8 y), .arr .u8 32 z], false⟩), (8, some ⟨.row 77 (.ints .u32 C), false⟩)], 841, 33⟩ => some (A, B, a, b, c, d, e, f, g, h, i, j, k, l, m, n, o, p, q, r, s, t, u, w, y, z, C)
 | _ => none
theorem awl (st) (x) (h : bf9 st = some x) : st = ba3 x := by
 unfold bf9 at h
 split at h
 · cases h; rfl
 · cases h
abbrev bnv := P.bpz
def bk3 (K : AExit → ASt → Option R) : bnv → Option R := (fun x => K (.exit 0) (ba3 x))
noncomputable def bnt : xw := fun st K => ag4 (bf9 st) fun x => P.bqu x (bk3 K)
noncomputable def D3 : Ctx := ({ P := Tryd.prog, G := [(25, og.spec), (39, gq.spec), (64, jk.spec), (76, ng.spec), (77, jv.spec)], globs := GLO.gx, hints := [], loops := [], inl := [], y := some (auv (aea Tryd.f41 8) 68 false) } : Ctx)
noncomputable def D2 : Ctx := ({ P := Tryd.prog, G := [(25, og.spec), (39, gq.spec), (64, jk.spec), (76, ng.spec), (77, jv.spec)], globs := GLO.gx, hints := [(1, ⟨[0, 2, 13, 14, 15], [(1000004, 5, .ints .u8 [])], [], [], some (840, [0, 1, 3, 4, 5, 8]), [0, 1, 3, 5], []⟩)], loops := [(1, bnt)], inl := [], y := some (auv (aea Tryd.f41 8) 68 true), ys := some (am2 D3 (auv (aea Tryd.f41 8) 68 true)) } : Ctx)
noncomputable def D1 : Ctx := ({ P := Tryd.prog, G := [(25, og.spec), (39, gq.spec), (64, jk.spec), (76, ng.spec), (77, jv.spec)], globs := GLO.gx, hints := [], loops := [], inl := [] } : Ctx)
noncomputable def D : Ctx := ({ P := Tryd.prog, G := [(25, og.spec), (39, gq.spec), (64, jk.spec), (76, ng.spec), (77, jv.spec)], globs := GLO.gx, hints := [], loops := [], inl := [(73, aej D1 Tryd.f73)], top := true, rng := [(8, ⟨111, 68, [5, 6, 13, 14], aej D2 Tryd.f111⟩)] } : Ctx)
theorem ar0 (K) (next) (x) : qb D2 (dw Tryd.f111 1) K next (ba3 x) = P.bk6 x (fun x => next (ba3 x)) (bk3 K) := by kernel_rfl
theorem awm : ou D2 (dw Tryd.f111 1) := jf ba3 awl (by kernel_rfl) P.bsd ar0
theorem loops : bq (Tryd.f41.body.getD .skip) = [] := by kernel_rfl
theorem ait : bq (Tryd.f73.body.getD .skip) = [] := by kernel_rfl
theorem auw : bq (Tryd.f111.body.getD .skip) = [dw Tryd.f111 1] := by kernel_rfl
theorem az2 : bq (bg1 (aea Tryd.f41 8)) = [] := by kernel_rfl
theorem ranges : qy (Tryd.f41.body.getD .skip) = [aea Tryd.f41 8] := by kernel_rfl
theorem ar2 : akk D2 (am2 D3 (auv (aea Tryd.f41 8) 68 true)) := au0 (Y := auv (aea Tryd.f41 8) 68 true) (ap6 (D := D3) ⟨og.ok, gq.ok, jk.ok, ng.ok, jv.ok, trivial⟩) (au (by kernel_rfl)) (aqu (D := D3) trivial (ami rfl)) (by kernel_rfl) rfl rfl (by kernel_rfl) (by kernel_rfl) rfl rfl rfl (afw _ (by rw [show bq (auv (aea Tryd.f41 8) 68 true).assign = [] from by kernel_rfl]; exact trivial)) (afw _ (by rw [show bq (auv (aea Tryd.f41 8) 68 true).body = bq (bg1 (aea Tryd.f41 8)) from by kernel_rfl, az2]; exact trivial))
noncomputable def bg : Abs.Spec := fun args K => match args with
 | [.agg [.v (.int .i64 b), .v (.int .i64 c), .v (.int .i64 d), .v (.int .i64 e), .v (.int .i64 f), .v (.bool a)], .sl (.ints .u8 g), .sl (.ints .u8 h), .sl (.ints .u8 i), .arr .u8 32 j] => P.p9 b c d e f a g h i j (fun k => K (.sl (.ints .u8 k)))
 | _ => none
noncomputable def spec : Abs.Spec := fun args K => bg (tu [.any, .sl (.ints .u8 []), .sl (.ints .u8 []), .sl (.ints .u8 []), .any] args) K
theorem ok0 : Proved Tryd.prog GLO.gx 41 bg := by
 refine dn (D := D) (fn := Tryd.f41) (c := Tryd.f41.body.getD .skip) [.sl (.ints .u8 [])] (by kernel_rfl) (au (by kernel_rfl)) (by kernel_rfl) (by kernel_rfl) (by kernel_rfl) ⟨og.ok, gq.ok, jk.ok, ng.ok, jv.ok, trivial⟩ ⟨ak3 (D := D1) (D' := D) (fn := Tryd.f73) (c := Tryd.f73.body.getD .skip) rfl rfl (by kernel_rfl) (au (by kernel_rfl)) (by kernel_rfl) (by kernel_rfl) (by kernel_rfl) ⟨og.ok, gq.ok, jk.ok, ng.ok, jv.ok, trivial⟩ trivial (by rw [ait]; exact trivial) (fun _ _ _ _ _ h => h), trivial⟩ ?_ ?_ (hRg := by rw [ranges]; exact ⟨aq0 (D := D) (Di := D2) (e := ⟨111, 68, [5, 6, 13, 14], aej D2 Tryd.f111⟩) (by kernel_rfl) rfl rfl (by kernel_rfl) (ak3 (D := D2) (D' := D2) (fn := Tryd.f111) (c := Tryd.f111.body.getD .skip) rfl rfl (by kernel_rfl) (au (by kernel_rfl)) (by kernel_rfl) (by kernel_rfl) (by kernel_rfl) ⟨og.ok, gq.ok, jk.ok, ng.ok, jv.ok, trivial⟩ trivial (by rw [auw]; exact ⟨awm, trivial⟩) (fun _ _ _ _ _ h => h) rfl rfl (akx rfl _) (fun s hs => by have hs : some (am2 D3 (auv (aea Tryd.f41 8) 68 true)) = some s := hs; cases hs; exact ar2)), trivial⟩)
 · rw [loops]; exact trivial
 · intro args K r h
   unfold bg at h
   split at h
   · rw [P.agz] at h; exact Eq.trans (by kernel_rfl) h
   · cases h
theorem ok : Proved Tryd.prog GLO.gx 41 spec := eu _ ok0
end p9

namespace uw
abbrev X6 := P.bju
def S6 : X6 → ASt := fun (p, q, r, a, b, c, d, e, f, g, h, i, j, k, l, m, n, o) => ⟨[(11, .own 40), (4, .ptr 0 0), (9, .ptr 2 0), (24, .v (.int .i64 p)), (25, .v (.int .i64 q))], [(40, some ⟨.row 5 (.ints .u8 r), false⟩), (0, some ⟨.box 41 [.v (.int .i64 a), .v (.int .i64 b), .v (.int .i64 c), .v (.int .i64 d), .v (.int .i64 e), .v (.bool f)], false⟩), (2, some ⟨.box 93 [.v (.int .i64 g), .v (.int .i64 h), .v (.int .i64 i), .v (.int .i64 j), .v (.int .i64 k), .v (.bool l), .sl (.ints .u8 m), .sl (.ints .u8 n), .arr .u8 32 o], false⟩)], 41, 40⟩
def V6 : ASt → Option X6
 | ⟨[(11, .own 40), (4, .ptr 0 0), (9, .ptr 2 0), (24, .v (.int .i64 p)), (25, .v (.int .i64 q))], [(40, some ⟨.row 5 (.ints .u8 r), false⟩), (0, some ⟨.box 41 [.v (.int .i64 a), .v (.int .i64 b), .v (.int .i64 c), .v (.int .i64 d), .v (.int .i64 e), .v (.bool f)], false⟩), (2, some ⟨.box 93 [.v (.int .i64 g), .v (.int .i64 h), .v (.int .i64 i), .v (.int .i64 j), .v (.int .i64 k), .v (.bool l), .sl (.ints .u8 m), .sl (.ints .u8 n), .arr .u8 32 o], false⟩)], 41, 40⟩ => some (p, q, r, a, b, c, d, e, f, g, h, i, j, k, l, m, n, o)
 | _ => none
theorem bhn (st) (x) (h : V6 st = some x) : st = S6 x := by
 unfold V6 at h
 split at h
 · cases h; rfl
 · cases h
abbrev Y6 := P.bpd
def E6 (K : AExit → ASt → Option R) : Y6 → Option R := (fun x => K (.exit 0) (S6 x))
noncomputable def L6 : xw := fun st K => ag4 (V6 st) fun x => P.bpc x (E6 K)
noncomputable def D : Ctx := ({ P := Tryd.prog, G := [(72, jh.spec), (75, jc.spec), (77, jv.spec)], globs := GLO.gx, hints := [(6, ⟨[4, 9, 24, 25], [(11, 5, .ints .u8 [])], [8], [], some (40, [0, 2]), [], []⟩)], loops := [(6, L6)], inl := [] } : Ctx)
theorem bak (K) (next) (x) : qb D (dw Tryd.f42 6) K next (S6 x) = P.blm x (fun x => next (S6 x)) (E6 K) := by kernel_rfl
theorem bhq : ou D (dw Tryd.f42 6) := jf S6 bhn (by kernel_rfl) P.br1 bak
theorem loops : bq (Tryd.f42.body.getD .skip) = [dw Tryd.f42 6] := by kernel_rfl
noncomputable def bg : Abs.Spec := fun args K => match args with
 | [.agg [.v (.int .i64 b), .v (.int .i64 c), .v (.int .i64 d), .v (.int .i64 e), .v (.int .i64 f), .v (.bool a)], .sl (.ints .u8 g), .sl (.ints .u8 h), .arr .u8 32 i] => P.uw b c d e f a g h i (fun j => K (.sl (.ints .u8 j)))
 | _ => none
noncomputable def spec : Abs.Spec := fun args K => bg (tu [.any, .sl (.ints .u8 []), .sl (.ints .u8 []), .any] args) K
theorem ok0 : Proved Tryd.prog GLO.gx 42 bg := by
 refine dn (D := D) (fn := Tryd.f42) (c := Tryd.f42.body.getD .skip) [.sl (.ints .u8 [])] (by kernel_rfl) (au (by kernel_rfl)) (by kernel_rfl) (by kernel_rfl) (by kernel_rfl) ⟨jh.ok, jc.ok, jv.ok, trivial⟩ trivial ?_ ?_
 · rw [loops]; exact ⟨bhq, trivial⟩
 · intro args K r h
   unfold bg at h
   split at h
   · rw [P.ajq] at h; exact Eq.trans (by kernel_rfl) h
   · cases h
theorem ok : Proved Tryd.prog GLO.gx 42 spec := eu _ ok0
end uw

namespace uo
noncomputable def D : Ctx := ({ P := Tryd.prog, G := [(18, ace.spec), (39, gq.spec), (40, wu.spec), (41, p9.spec), (42, uw.spec), (43, aaq.spec)], globs := GLO.gx, hints := [], loops := [], inl := [] } : Ctx)
theorem loops : bq (Tryd.f8.body.getD .skip) = [] := by kernel_rfl
noncomputable def bg : Abs.Spec := fun args K => match args with
 | [.v (.int .u8 a), .v (.bool b), .v (.int .u8 c), .v (.int .u8 d), .arr .u8 32 e, .arr .u8 32 f, .arr .u8 32 g, .arr .u8 8 h] => P.uo a b c d e f g h (fun i => K (.v (.bool i)))
 | _ => none
noncomputable def spec : Abs.Spec := bg
theorem ok0 : Proved Tryd.prog GLO.gx 8 bg := by
 refine dn (D := D) (fn := Tryd.f8) (c := Tryd.f8.body.getD .skip) [.any] (by kernel_rfl) (au (by kernel_rfl)) (by kernel_rfl) (by kernel_rfl) (by kernel_rfl) ⟨ace.ok, gq.ok, wu.ok, p9.ok, uw.ok, aaq.ok, trivial⟩ trivial ?_ ?_
 · rw [loops]; exact trivial
 · intro args K r h
   unfold bg at h
   split at h
   · rw [P.ahu] at h; exact Eq.trans (by kernel_rfl) h
   · cases h
theorem ok : Proved Tryd.prog GLO.gx 8 spec := ok0
end uo

end
