/-
  ForsSigns, part 17: an interpreter of my own over abstract values, the pure functions, the walks and the plain law.
-/

import Derived.Test.YtjhnljhjpnjieaaGreatDoorForsSignsK
import Derived.Test.YtjhnljhjpnjieaaGreatDoorForsSignsG
import Derived.Test.YtjhnljhjpnjieaaGreatDoorProg
import Derived.Test.YtjhnljhjpnjieaaGreatDoorForsSignsJ
import Derived.Test.YtjhnljhjpnjieaaGreatDoorForsSignsM
import Derived.Test.YtjhnljhjpnjieaaGreatDoorForsSignsP
import Derived.KernelRfl
import Derived.Test.YtjhnljhjpnjieaaGreatDoorForsSignsI
import Derived.Test.YtjhnljhjpnjieaaGreatDoorForsSignsL

section
open Go Go.Abs Go.Proofs
set_option maxRecDepth 100000
set_option maxHeartbeats 0
set_option linter.unusedVariables false

namespace yw
abbrev bux := P.bru
def bkb : bux → ASt := fun (B, C, F, a, b, c, d, e, f, g, h, i, j, k, l, m, n, o, p, q, r, s, t, u, w, y, z, A, G) => ⟨[(11, .ptr 2 0), (15, .ptr 3 0), (16, .v (.int .u64 B)), (49, .v (.int .i64 C)), (50, .v (.int .i64 F))], [(1240, some ⟨.row 5 (.ints .u8 a), false⟩), (0, some ⟨.box 23 [.v (.int .i64 b), .v (.int .i64 c), .v (.int .i64 d), .v (.int .i64 e), .v (.int .i64 f), .v (.bool g)], false⟩), (2, some ⟨.box 47 [.v (.int .i64 h), .v (.int .i64 i), .v (.int .i64 j), .v (.int .i64 k), .v (.int .i64 l), .v (.bool m), .sl (.ints .u8 n), .sl (.ints .u8 o), .arr .u8 32 p], false⟩), (3, some ⟨.box 26 [.own 1240], false⟩), (4, some ⟨.box 47 [.v (.int .i64 q), .v (.int .i64 r), .v (.int .i64 s), .v (.int .i64 t), .v (.int .i64 u), .v (.bool w), .sl (.ints .u8 y), .sl (.ints .u8 z), .arr .u8 32 A], false⟩), (7, some ⟨.row 64 (.ints .u32 G), false⟩)], 1241, 64⟩
def bpw : ASt → Option bux
 | ⟨[(11, .ptr 2 0), (15, .ptr 3 0), (16, .v (.int .u64 B)), (49, .v (.int .i64 C)), (50, .v (.int .i64 F))], [(1240, some ⟨.row 5 (.ints .u8 a), false⟩), (0, some ⟨.box 23 [.v (.int .i64 b), .v (.int .i64 c), .v (.int .i64 d), .v (.int .i64 e), .v (.int .i64 f), .v (.bool g)], false⟩), (2, some ⟨.box 47 [.v (.int .i64 h), .v (.int .i64 i), .v (.int .i64 j), .v (.int .i64 k), .v (.int .i64 l), .v (.bool m), .sl (.ints .u8 n), .sl (.ints .u8 o), .arr .u8 32 p], false⟩), (3, some ⟨.box 26 [.own 1240], false⟩), (4, some ⟨.box 47 [.v (.int .i64 q), .v (.int .i64 r), .v (.int .i64 s), .v (.int .i64 t), .v (.int .i64 u), .v (.bool w), .sl (.ints .u8 y), .sl (.ints .u8 z), .arr .u8 32 A], false⟩), (7, some ⟨.row 64 (.ints .u32 G), false⟩)], 1241, 64⟩ => some (B, C, F, a, b, c, d, e, f, g, h, i, j, k, l, m, n, o, p, q, r, s, t, u, w, y, z, A, G)
 | _ => none
theorem bnq (st) (x) (h : bpw st = some x) : st = bkb x := by
 unfold bpw at h
 split at h
 · cases h; rfl
 · cases h
abbrev b4u := P.b4a
abbrev bue := P.bv6
def bii : bue → ASt := fun (B, C, a, b, c, d, e, f, g, h, i, j, k, l, m, n, o, p, q, r, s, t, u, w, y, z, A, F) => ⟨[(0, .yld 6 [5, 11, 15] [.ptr 0 0, .ptr 2 0, .ptr 3 0]), (2, .ptr 4 0), (13, .own 7), (14, .v (.int .i64 B)), (15, .v (.int .i64 C))], [(840, some ⟨.row 5 (.ints .u8 a), false⟩), (0, some ⟨.box 23 [.v (.int .i64 b), .v (.int .i64 c), .v (.int .i64 d), .v (.int .i64 e), .v (.int .i64 f), .v (.bool g)], false⟩), (2, some ⟨.box 47 [.v (.int .i64 h), .v (.int .i64 i), .v (.int .i64 j), .v (.int .i64 k), .v (.int .i64 l), .v (.bool m), .sl (.ints .u8 n), .sl (.ints .u8 o), .arr .u8 32 p], false⟩), (3, some ⟨.box 26 [.own 840], false⟩), (4, some ⟨.box 47 [.v (.int .i64 q), .v (.int .i64 r), .v (.int .i64 s), .v (.int .i64 t), .v (.int .i64 u), .v (.bool w), .sl (.ints .u8 y), .sl (.ints .u8 z), .arr .u8 32 A], false⟩), (7, some ⟨.row 64 (.ints .u32 F), false⟩)], 841, 33⟩
def bqo : ASt → Option bue
 | ⟨[(0, .yld 6 [5, 11, 15] [.ptr 0 0, .ptr 2 0, .ptr 3 0]), (2, .ptr 4 0), (13, .own 7), (14, .v (.int .i64 B)), (15, .v (.int .i64 C))], [(840, some ⟨.row 5 (.ints .u8 a), false⟩), (0, some ⟨.box 23 [.v (.int .i64 b), .v (.int .i64 c), .v (.int .i64 d), .v (.int .i64 e), .v (.int .i64 f), .v (.bool g)], false⟩), (2, some ⟨.box 47 [.v (.int .i64 h), .v (.int .i64 i), .v (.int .i64 j), .v (.int .i64 k), .v (.int .i64 l), .v (.bool m), .sl (.ints .u8 n), .sl (.ints .u8 o), .arr .u8 32 p], false⟩), (3, some ⟨.box 26 [.own 840], false⟩), (4, some ⟨.box 47 [.v (.int .i64 q), .v (.int .i64 r), .v (.int .i64 s), .v (.int .i64 t), .v (.int .i64 u), .v (.bool w), .sl (.ints .u8 y), .sl (.ints .u8 z), .arr .u8 32 A], false⟩), (7, some ⟨.row 64 (.ints .u32 F), false⟩)], 841, 33⟩ => some (B, C, a, b, c, d, e, f, g, h, i, j, k, l, m, n, o, p, q, r, s, t, u, w, y, z, A, F)
 | _ => none
theorem bd6 (st) (x) (h : bqo st = some x) : st = bii x := by
 unfold bqo at h
 split at h
 · cases h; rfl
 · cases h
abbrev b0v := P.bz9
def bu9 (K : AExit → ASt → Option R) : b4u → Option R := (fun x => K (.exit 2) (bkb x))
noncomputable def b06 : qc := fun st K => ac6 (bpw st) fun x => P.b3q x (bu9 K)
def brq (K : AExit → ASt → Option R) : b0v → Option R := (fun x => K (.exit 0) (bii x))
noncomputable def bzh : qc := fun st K => ac6 (bqo st) fun x => P.b0m x (brq K)
noncomputable def D3 : Ctx := ({ P := Tryz.prog, G := [(9, iq.spec), (38, jy.spec), (39, l6.spec), (48, je.spec), (78, jk.spec)], globs := GLO.gx, hints := [(10, ⟨[11, 15, 16, 49, 50], [(1000003, 5, .ints .u8 [])], [10], [], some (1240, [0, 2, 3, 4, 7]), [2], []⟩)], loops := [(10, b06)], inl := [], y := some (bb9 (agd Tryz.f17 8) 64 false) } : Ctx)
noncomputable def D2 : Ctx := ({ P := Tryz.prog, G := [(9, iq.spec), (38, jy.spec), (39, l6.spec), (48, je.spec), (78, jk.spec)], globs := GLO.gx, hints := [(1, ⟨[0, 2, 13, 14, 15], [(1000003, 5, .ints .u8 [])], [], [], some (840, [0, 2, 3, 4, 7]), [0, 2, 4], []⟩)], loops := [(1, bzh)], inl := [], y := some (bb9 (agd Tryz.f17 8) 64 true), ys := some (as0 D3 (bb9 (agd Tryz.f17 8) 64 true)) } : Ctx)
noncomputable def D1 : Ctx := ({ P := Tryz.prog, G := [(9, iq.spec), (38, jy.spec), (39, l6.spec), (48, je.spec), (78, jk.spec)], globs := GLO.gx, hints := [], loops := [], inl := [] } : Ctx)
noncomputable def D : Ctx := ({ P := Tryz.prog, G := [(9, iq.spec), (38, jy.spec), (39, l6.spec), (48, je.spec), (78, jk.spec)], globs := GLO.gx, hints := [], loops := [], inl := [(47, agj D1 Tryz.f47)], top := true, rng := [(8, ⟨77, 64, [5, 11, 15], agj D2 Tryz.f77⟩)] } : Ctx)
theorem bkm (K) (next) (x) : kg D3 (bjj (agd Tryz.f17 8) 10) K next (bkb x) = P.bty x (fun x => next (bkb x)) (bu9 K) := by kernel_rfl
theorem bnj : ji D3 (bjj (agd Tryz.f17 8) 10) := fu bkb bnq (by kernel_rfl) P.b7q bkm
theorem az3 (K) (next) (x) : kg D2 (dh Tryz.f77 1) K next (bii x) = P.bva x (fun x => next (bii x)) (brq K) := by kernel_rfl
theorem be9 : ji D2 (dh Tryz.f77 1) := fu bii bd6 (by kernel_rfl) P.b7k az3
theorem loops : cu (Tryz.f17.body.getD .skip) = [] := by kernel_rfl
theorem aly : cu (Tryz.f47.body.getD .skip) = [] := by kernel_rfl
theorem bcw : cu (Tryz.f77.body.getD .skip) = [dh Tryz.f77 1] := by kernel_rfl
theorem bi0 : cu (bov (agd Tryz.f17 8)) = [bjj (agd Tryz.f17 8) 10] := by kernel_rfl
theorem ranges : ug (Tryz.f17.body.getD .skip) = [agd Tryz.f17 8] := by kernel_rfl
theorem azg : aoi D2 (as0 D3 (bb9 (agd Tryz.f17 8) 64 true)) := bbf (Y := bb9 (agd Tryz.f17 8) 64 true) (axo (D := D3) ⟨iq.ok, jy.ok, l6.ok, je.ok, jk.ok, trivial⟩) (au (by kernel_rfl)) (ax2 (D := D3) trivial (ar5 rfl)) (by kernel_rfl) rfl rfl (by kernel_rfl) (by kernel_rfl) rfl rfl rfl (aib _ (by rw [show cu (bb9 (agd Tryz.f17 8) 64 true).assign = [] from by kernel_rfl]; exact trivial)) (aib _ (by rw [show cu (bb9 (agd Tryz.f17 8) 64 true).body = cu (bov (agd Tryz.f17 8)) from by kernel_rfl, bi0]; exact ⟨bnj, trivial⟩))
noncomputable def ay : Abs.Spec := fun args K => match args with
 | [.agg [.v (.int .i64 b), .v (.int .i64 c), .v (.int .i64 d), .v (.int .i64 e), .v (.int .i64 f), .v (.bool a)], .sl (.ints .u8 g), .sl (.ints .u8 h), .sl (.ints .u8 i), .arr .u8 32 j] => P.yw b c d e f a g h i j (fun k => K (.fr 5 (.ints .u8 k)))
 | _ => none
noncomputable def spec : Abs.Spec := fun args K => ay (ou [.any, .sl (.ints .u8 []), .sl (.ints .u8 []), .sl (.ints .u8 []), .any] args) K
theorem ok0 : Proved Tryz.prog GLO.gx 17 ay := by
 refine bq (D := D) (fn := Tryz.f17) (c := Tryz.f17.body.getD .skip) [.fr 5 (.ints .u8 [])] (by kernel_rfl) (au (by kernel_rfl)) (by kernel_rfl) (by kernel_rfl) (by kernel_rfl) ⟨iq.ok, jy.ok, l6.ok, je.ok, jk.ok, trivial⟩ ⟨apm (D := D1) (D' := D) (fn := Tryz.f47) (c := Tryz.f47.body.getD .skip) rfl rfl (by kernel_rfl) (au (by kernel_rfl)) (by kernel_rfl) (by kernel_rfl) (by kernel_rfl) ⟨iq.ok, jy.ok, l6.ok, je.ok, jk.ok, trivial⟩ trivial (by rw [aly]; exact trivial) (fun _ _ _ _ _ h => h), trivial⟩ ?_ ?_ (hRg := by rw [ranges]; exact ⟨ay4 (D := D) (Di := D2) (e := ⟨77, 64, [5, 11, 15], agj D2 Tryz.f77⟩) (by kernel_rfl) rfl rfl (by kernel_rfl) (apm (D := D2) (D' := D2) (fn := Tryz.f77) (c := Tryz.f77.body.getD .skip) rfl rfl (by kernel_rfl) (au (by kernel_rfl)) (by kernel_rfl) (by kernel_rfl) (by kernel_rfl) ⟨iq.ok, jy.ok, l6.ok, je.ok, jk.ok, trivial⟩ trivial (by rw [bcw]; exact ⟨be9, trivial⟩) (fun _ _ _ _ _ h => h) rfl rfl (aqc rfl _) (fun s hs => by have hs : some (as0 D3 (bb9 (agd Tryz.f17 8) 64 true)) = some s := hs; cases hs; exact azg)), trivial⟩)
 · rw [loops]; exact trivial
 · intro args K r h
   unfold ay at h
   split at h
   · rw [P.afv] at h; exact Eq.trans (by kernel_rfl) h
   · cases h
theorem ok : Proved Tryz.prog GLO.gx 17 spec := d9 _ ok0
end yw

namespace tu
noncomputable def D : Ctx := ({ P := Tryz.prog, G := [(9, iq.spec), (17, yw.spec)], globs := GLO.gx, hints := [], loops := [], inl := [] } : Ctx)
theorem loops : cu (Tryz.f8.body.getD .skip) = [] := by kernel_rfl
noncomputable def ay : Abs.Spec := fun args K => match args with
 | [] => P.tu (fun a => K (.v (.bool a)))
 | _ => none
noncomputable def spec : Abs.Spec := ay
theorem ok0 : Proved Tryz.prog GLO.gx 8 ay := by
 refine bq (D := D) (fn := Tryz.f8) (c := Tryz.f8.body.getD .skip) [.any] (by kernel_rfl) (au (by kernel_rfl)) (by kernel_rfl) (by kernel_rfl) (by kernel_rfl) ⟨iq.ok, yw.ok, trivial⟩ trivial ?_ ?_
 · rw [loops]; exact trivial
 · intro args K r h
   unfold ay at h
   split at h
   · rw [P.atf] at h; exact Eq.trans (by kernel_rfl) h
   · cases h
theorem ok : Proved Tryz.prog GLO.gx 8 spec := ok0
end tu

namespace agh
abbrev X2 := P.zt1
def S2 : X2 → ASt := fun (a, b, c) => ⟨[(5, .sl (.rows .u8 a)), (6, .v (.int .i64 b)), (7, .v (.int .i64 c))], [], 0, 15⟩
def V2 : ASt → Option X2
 | ⟨[(5, .sl (.rows .u8 a)), (6, .v (.int .i64 b)), (7, .v (.int .i64 c))], [], 0, 15⟩ => some (a, b, c)
 | _ => none
theorem bh4 (st) (x) (h : V2 st = some x) : st = S2 x := by
 unfold V2 at h
 split at h
 · cases h; rfl
 · cases h
abbrev Y2 := P.zy1
def E2 (K : AExit → ASt → Option R) : Y2 → Option R := (Sum.elim (fun x => K (.exit 0) (S2 x)) (fun a => K .ret ⟨[(2, .v (.bool a))], [], 0, 15⟩))
noncomputable def L2 : qc := fun st K => ac6 (V2 st) fun x => P.zm1 x (E2 K)
noncomputable def D : Ctx := ({ P := Tryz.prog, G := [], globs := GLO.gx, hints := [(2, ⟨[5, 6, 7], [], [2], [], none, [], []⟩)], loops := [(2, L2)], inl := [] } : Ctx)
theorem bdd (K) (next) (x) : kg D (dh Tryz.f7 2) K next (S2 x) = P.zs1 x (fun x => next (S2 x)) (E2 K) := by kernel_rfl
theorem bka : ji D (dh Tryz.f7 2) := fu S2 bh4 (by kernel_rfl) P.ze1 bdd
theorem loops : cu (Tryz.f7.body.getD .skip) = [dh Tryz.f7 2] := by kernel_rfl
noncomputable def ay : Abs.Spec := fun args K => match args with
 | [.sl (.rows .u8 a)] => P.agh a (fun b => K (.v (.bool b)))
 | _ => none
noncomputable def spec : Abs.Spec := fun args K => ay (ou [.sl (.rows .u8 [])] args) K
theorem ok0 : Proved Tryz.prog GLO.gx 7 ay := by
 refine bq (D := D) (fn := Tryz.f7) (c := Tryz.f7.body.getD .skip) [.any] (by kernel_rfl) (au (by kernel_rfl)) (by kernel_rfl) (by kernel_rfl) (by kernel_rfl) trivial trivial ?_ ?_
 · rw [loops]; exact ⟨bka, trivial⟩
 · intro args K r h
   unfold ay at h
   split at h
   · rw [P.axf] at h; exact Eq.trans (by kernel_rfl) h
   · cases h
theorem ok : Proved Tryz.prog GLO.gx 7 spec := d9 _ ok0
end agh

namespace qo
noncomputable def D : Ctx := ({ P := Tryz.prog, G := [], globs := GLO.gx, hints := [], loops := [], inl := [] } : Ctx)
theorem loops : cu (Tryz.f37.body.getD .skip) = [] := by kernel_rfl
noncomputable def ay : Abs.Spec := fun args K => match args with
 | [.agg [.v (.int .i64 b), .v (.int .i64 c), .v (.int .i64 d), .v (.int .i64 e), .v (.int .i64 f), .v (.bool a)]] => P.qo b c d e f a (fun g => K (.v (.bool g)))
 | _ => none
noncomputable def spec : Abs.Spec := ay
theorem ok0 : Proved Tryz.prog GLO.gx 37 ay := by
 refine bq (D := D) (fn := Tryz.f37) (c := Tryz.f37.body.getD .skip) [.any] (by kernel_rfl) (au (by kernel_rfl)) (by kernel_rfl) (by kernel_rfl) (by kernel_rfl) trivial trivial ?_ ?_
 · rw [loops]; exact trivial
 · intro args K r h
   unfold ay at h
   split at h
   · rw [P.ax9] at h; exact Eq.trans (by kernel_rfl) h
   · cases h
theorem ok : Proved Tryz.prog GLO.gx 37 spec := ok0
end qo

namespace aam
noncomputable def D : Ctx := ({ P := Tryz.prog, G := [(37, qo.spec)], globs := GLO.gx, hints := [], loops := [], inl := [] } : Ctx)
theorem loops : cu (Tryz.f11.body.getD .skip) = [] := by kernel_rfl
noncomputable def ay : Abs.Spec := fun args K => match args with
 | [.agg [.v (.int .i64 b), .v (.int .i64 c), .v (.int .i64 d), .v (.int .i64 e), .v (.int .i64 f), .v (.bool a)]] => P.aam b c d e f a (fun g => K (.v (.bool g)))
 | _ => none
noncomputable def spec : Abs.Spec := ay
theorem ok0 : Proved Tryz.prog GLO.gx 11 ay := by
 refine bq (D := D) (fn := Tryz.f11) (c := Tryz.f11.body.getD .skip) [.any] (by kernel_rfl) (au (by kernel_rfl)) (by kernel_rfl) (by kernel_rfl) (by kernel_rfl) ⟨qo.ok, trivial⟩ trivial ?_ ?_
 · rw [loops]; exact trivial
 · intro args K r h
   unfold ay at h
   split at h
   · rw [P.asj] at h; exact Eq.trans (by kernel_rfl) h
   · cases h
theorem ok : Proved Tryz.prog GLO.gx 11 spec := ok0
end aam

namespace aci
abbrev X4 := P.bxy
def S4 : X4 → ASt := fun (a, b, c) => ⟨[(0, .sl (.ints .u8 a)), (1, .sl (.ints .u8 b)), (5, .v (.int .i64 c))], [], 0, 26⟩
def V4 : ASt → Option X4
 | ⟨[(0, .sl (.ints .u8 a)), (1, .sl (.ints .u8 b)), (5, .v (.int .i64 c))], [], 0, 26⟩ => some (a, b, c)
 | _ => none
theorem ar7 (st) (x) (h : V4 st = some x) : st = S4 x := by
 unfold V4 at h
 split at h
 · cases h; rfl
 · cases h
abbrev Y4 := P.b28
def E4 (K : AExit → ASt → Option R) : Y4 → Option R := (Sum.elim (fun x => K (.exit 0) (S4 x)) (fun a => K .ret ⟨[(4, .v (.bool a))], [], 0, 26⟩))
noncomputable def L4 : qc := fun st K => ac6 (V4 st) fun x => P.b4s x (E4 K)
noncomputable def D : Ctx := ({ P := Tryz.prog, G := [], globs := GLO.gx, hints := [(4, ⟨[0, 1, 5], [], [4], [], none, [], []⟩)], loops := [(4, L4)], inl := [] } : Ctx)
theorem ajq (K) (next) (x) : kg D (dh Tryz.f12 4) K next (S4 x) = P.bwn x (fun x => next (S4 x)) (E4 K) := by kernel_rfl
theorem arb : ji D (dh Tryz.f12 4) := fu S4 ar7 (by kernel_rfl) P.b58 ajq
theorem loops : cu (Tryz.f12.body.getD .skip) = [dh Tryz.f12 4] := by kernel_rfl
noncomputable def ay : Abs.Spec := fun args K => match args with
 | [.sl (.ints .u8 a), .sl (.ints .u8 b)] => P.aci a b (fun c => K (.v (.bool c)))
 | _ => none
noncomputable def spec : Abs.Spec := fun args K => ay (ou [.sl (.ints .u8 []), .sl (.ints .u8 [])] args) K
theorem ok0 : Proved Tryz.prog GLO.gx 12 ay := by
 refine bq (D := D) (fn := Tryz.f12) (c := Tryz.f12.body.getD .skip) [.any] (by kernel_rfl) (au (by kernel_rfl)) (by kernel_rfl) (by kernel_rfl) (by kernel_rfl) trivial trivial ?_ ?_
 · rw [loops]; exact ⟨arb, trivial⟩
 · intro args K r h
   unfold ay at h
   split at h
   · rw [P.av5] at h; exact Eq.trans (by kernel_rfl) h
   · cases h
theorem ok : Proved Tryz.prog GLO.gx 12 spec := d9 _ ok0
end aci

namespace adv
noncomputable def D : Ctx := ({ P := Tryz.prog, G := [], globs := GLO.gx, hints := [], loops := [], inl := [] } : Ctx)
theorem loops : cu (Tryz.f81.body.getD .skip) = [] := by kernel_rfl
noncomputable def ay : Abs.Spec := fun args K => match args with
 | [.sl (.ints .u8 a), .v (.int .i64 b), .v (.int .i64 c)] => P.adv a b c (fun d => K (.v (.bool d)))
 | _ => none
noncomputable def spec : Abs.Spec := fun args K => ay (ou [.sl (.ints .u8 []), .any, .any] args) K
theorem ok0 : Proved Tryz.prog GLO.gx 81 ay := by
 refine bq (D := D) (fn := Tryz.f81) (c := Tryz.f81.body.getD .skip) [.any] (by kernel_rfl) (au (by kernel_rfl)) (by kernel_rfl) (by kernel_rfl) (by kernel_rfl) trivial trivial ?_ ?_
 · rw [loops]; exact trivial
 · intro args K r h
   unfold ay at h
   split at h
   · rw [P.au2] at h; exact Eq.trans (by kernel_rfl) h
   · cases h
theorem ok : Proved Tryz.prog GLO.gx 81 spec := d9 _ ok0
end adv

namespace uz
abbrev X9 := P.bt6
def S9 : X9 → ASt := fun (b, c, d, e, f, a, g) => ⟨[(0, .sl (.ints .u8 b)), (1, .v (.int .i64 c)), (2, .v (.int .i64 d)), (7, .own 0), (8, .v (.int .i64 e)), (9, .v (.int .u32 f)), (10, .v (.int .i64 a))], [(0, some ⟨.row 64 (.ints .u32 g), false⟩)], 1, 51⟩
def V9 : ASt → Option X9
 | ⟨[(0, .sl (.ints .u8 b)), (1, .v (.int .i64 c)), (2, .v (.int .i64 d)), (7, .own 0), (8, .v (.int .i64 e)), (9, .v (.int .u32 f)), (10, .v (.int .i64 a))], [(0, some ⟨.row 64 (.ints .u32 g), false⟩)], 1, 51⟩ => some (b, c, d, e, f, a, g)
 | _ => none
theorem bz1 (st) (x) (h : V9 st = some x) : st = S9 x := by
 unfold V9 at h
 split at h
 · cases h; rfl
 · cases h
abbrev Y9 := P.byr
abbrev X5 := P.bvr
def S5 : X5 → ASt := fun (a, b, c, d, e) => ⟨[(7, .own 0), (0, .sl (.ints .u8 a)), (1, .v (.int .i64 b)), (2, .v (.int .i64 c)), (8, .v (.int .i64 d))], [(0, some ⟨.row 64 (.ints .u32 e), false⟩)], 1, 51⟩
def V5 : ASt → Option X5
 | ⟨[(7, .own 0), (0, .sl (.ints .u8 a)), (1, .v (.int .i64 b)), (2, .v (.int .i64 c)), (8, .v (.int .i64 d))], [(0, some ⟨.row 64 (.ints .u32 e), false⟩)], 1, 51⟩ => some (a, b, c, d, e)
 | _ => none
theorem bei (st) (x) (h : V5 st = some x) : st = S5 x := by
 unfold V5 at h
 split at h
 · cases h; rfl
 · cases h
abbrev Y5 := P.b1p
def E9 (K : AExit → ASt → Option R) : Y9 → Option R := (fun x => K (.exit 2) (S9 x))
noncomputable def L9 : qc := fun st K => ac6 (V9 st) fun x => P.b34 x (E9 K)
def E5 (K : AExit → ASt → Option R) : Y5 → Option R := (fun x => K (.exit 0) (S5 x))
noncomputable def L5 : qc := fun st K => ac6 (V5 st) fun x => P.bz6 x (E5 K)
noncomputable def D : Ctx := ({ P := Tryz.prog, G := [(81, adv.spec)], globs := GLO.gx, hints := [(9, ⟨[0, 1, 2, 7, 8, 9, 10], [], [6], [], none, [], []⟩), (5, ⟨[0, 1, 2, 8], [(7, 64, .ints .u32 [])], [6], [], none, [], []⟩)], loops := [(9, L9), (5, L5)], inl := [] } : Ctx)
theorem bs8 (K) (next) (x) : kg D (dh Tryz.f49 9) K next (S9 x) = P.bs0 x (fun x => next (S9 x)) (E9 K) := by kernel_rfl
theorem b5m : ji D (dh Tryz.f49 9) := fu S9 bz1 (by kernel_rfl) P.b7n bs8
theorem av9 (K) (next) (x) : kg D (dh Tryz.f49 5) K next (S5 x) = P.bvs x (fun x => next (S5 x)) (E5 K) := by kernel_rfl
theorem bep : ji D (dh Tryz.f49 5) := fu S5 bei (by kernel_rfl) P.b59 av9
theorem loops : cu (Tryz.f49.body.getD .skip) = [dh Tryz.f49 5, dh Tryz.f49 9] := by kernel_rfl
noncomputable def ay : Abs.Spec := fun args K => match args with
 | [.sl (.ints .u8 a), .v (.int .i64 b), .v (.int .i64 c)] => P.uz a b c (fun d => K (.fr 64 (.ints .u32 d)))
 | _ => none
noncomputable def spec : Abs.Spec := fun args K => ay (ou [.sl (.ints .u8 []), .any, .any] args) K
theorem ok0 : Proved Tryz.prog GLO.gx 49 ay := by
 refine bq (D := D) (fn := Tryz.f49) (c := Tryz.f49.body.getD .skip) [.fr 64 (.ints .u32 [])] (by kernel_rfl) (au (by kernel_rfl)) (by kernel_rfl) (by kernel_rfl) (by kernel_rfl) ⟨adv.ok, trivial⟩ trivial ?_ ?_
 · rw [loops]; exact ⟨bep, b5m, trivial⟩
 · intro args K r h
   unfold ay at h
   split at h
   · rw [P.apk] at h; exact Eq.trans (by kernel_rfl) h
   · cases h
theorem ok : Proved Tryz.prog GLO.gx 49 spec := d9 _ ok0
end uz

namespace jv
abbrev X3 := P.bu5
def S3 : X3 → ASt := fun (a, b, c) => ⟨[(3, .own 0), (0, .sl (.rows .u8 a)), (4, .v (.int .i64 b))], [(0, some ⟨.row 5 (.ints .u8 c), false⟩)], 1, 18⟩
def V3 : ASt → Option X3
 | ⟨[(3, .own 0), (0, .sl (.rows .u8 a)), (4, .v (.int .i64 b))], [(0, some ⟨.row 5 (.ints .u8 c), false⟩)], 1, 18⟩ => some (a, b, c)
 | _ => none
theorem akt (st) (x) (h : V3 st = some x) : st = S3 x := by
 unfold V3 at h
 split at h
 · cases h; rfl
 · cases h
abbrev Y3 := P.b1z
def E3 (K : AExit → ASt → Option R) : Y3 → Option R := (fun x => K (.exit 0) (S3 x))
noncomputable def L3 : qc := fun st K => ac6 (V3 st) fun x => P.b0i x (E3 K)
noncomputable def D : Ctx := ({ P := Tryz.prog, G := [], globs := GLO.gx, hints := [(3, ⟨[0, 4], [(3, 5, .ints .u8 [])], [2], [], none, [], []⟩)], loops := [(3, L3)], inl := [] } : Ctx)
theorem ad2 (K) (next) (x) : kg D (dh Tryz.f44 3) K next (S3 x) = P.bvq x (fun x => next (S3 x)) (E3 K) := by kernel_rfl
theorem akn : ji D (dh Tryz.f44 3) := fu S3 akt (by kernel_rfl) P.b7h ad2
theorem loops : cu (Tryz.f44.body.getD .skip) = [dh Tryz.f44 3] := by kernel_rfl
noncomputable def ay : Abs.Spec := fun args K => match args with
 | [.sl (.rows .u8 a)] => P.jv a (fun b => K (.fr 5 (.ints .u8 b)))
 | _ => none
noncomputable def spec : Abs.Spec := fun args K => ay (ou [.sl (.rows .u8 [])] args) K
theorem ok0 : Proved Tryz.prog GLO.gx 44 ay := by
 refine bq (D := D) (fn := Tryz.f44) (c := Tryz.f44.body.getD .skip) [.fr 5 (.ints .u8 [])] (by kernel_rfl) (au (by kernel_rfl)) (by kernel_rfl) (by kernel_rfl) (by kernel_rfl) trivial trivial ?_ ?_
 · rw [loops]; exact ⟨akn, trivial⟩
 · intro args K r h
   unfold ay at h
   split at h
   · rw [P.avs] at h; exact Eq.trans (by kernel_rfl) h
   · cases h
theorem ok : Proved Tryz.prog GLO.gx 44 spec := d9 _ ok0
end jv

namespace za
noncomputable def D : Ctx := ({ P := Tryz.prog, G := [], globs := GLO.gx, hints := [], loops := [], inl := [] } : Ctx)
theorem loops : cu (Tryz.f117.body.getD .skip) = [] := by kernel_rfl
noncomputable def ay : Abs.Spec := fun args K => match args with
 | [.v (.int .i64 a)] => P.za a (fun b => K (.v (.int .i64 b)))
 | _ => none
noncomputable def spec : Abs.Spec := ay
theorem ok0 : Proved Tryz.prog GLO.gx 117 ay := by
 refine bq (D := D) (fn := Tryz.f117) (c := Tryz.f117.body.getD .skip) [.any] (by kernel_rfl) (au (by kernel_rfl)) (by kernel_rfl) (by kernel_rfl) (by kernel_rfl) trivial trivial ?_ ?_
 · rw [loops]; exact trivial
 · intro args K r h
   unfold ay at h
   split at h
   · rw [P.as3] at h; exact Eq.trans (by kernel_rfl) h
   · cases h
theorem ok : Proved Tryz.prog GLO.gx 117 spec := ok0
end za

namespace zf
noncomputable def D : Ctx := ({ P := Tryz.prog, G := [], globs := GLO.gx, hints := [], loops := [], inl := [] } : Ctx)
theorem loops : cu (Tryz.f150.body.getD .skip) = [] := by kernel_rfl
noncomputable def ay : Abs.Spec := fun args K => match args with
 | [.v (.int .u64 a), .v (.int .i64 b), .v (.bool c)] => P.zf a b c (fun d => K (.v (.int .u64 d)))
 | _ => none
noncomputable def spec : Abs.Spec := ay
theorem ok0 : Proved Tryz.prog GLO.gx 150 ay := by
 refine bq (D := D) (fn := Tryz.f150) (c := Tryz.f150.body.getD .skip) [.any] (by kernel_rfl) (au (by kernel_rfl)) (by kernel_rfl) (by kernel_rfl) (by kernel_rfl) trivial trivial ?_ ?_
 · rw [loops]; exact trivial
 · intro args K r h
   unfold ay at h
   split at h
   · rw [P.ais] at h; exact Eq.trans (by kernel_rfl) h
   · cases h
theorem ok : Proved Tryz.prog GLO.gx 150 spec := ok0
end zf

namespace ze
noncomputable def D : Ctx := ({ P := Tryz.prog, G := [(150, zf.spec)], globs := GLO.gx, hints := [], loops := [], inl := [] } : Ctx)
theorem loops : cu (Tryz.f137.body.getD .skip) = [] := by kernel_rfl
noncomputable def ay : Abs.Spec := fun args K => match args with
 | [.v (.int .u64 a), .v (.int .i64 b), .v (.int .i64 c), .v (.int .i64 d), .v (.bool e), .v (.bool f)] => P.ze a b c d e f (fun g => K (.v (.int .u64 g)))
 | _ => none
noncomputable def spec : Abs.Spec := ay
theorem ok0 : Proved Tryz.prog GLO.gx 137 ay := by
 refine bq (D := D) (fn := Tryz.f137) (c := Tryz.f137.body.getD .skip) [.any] (by kernel_rfl) (au (by kernel_rfl)) (by kernel_rfl) (by kernel_rfl) (by kernel_rfl) ⟨zf.ok, trivial⟩ trivial ?_ ?_
 · rw [loops]; exact trivial
 · intro args K r h
   unfold ay at h
   split at h
   · rw [P.ae2] at h; exact Eq.trans (by kernel_rfl) h
   · cases h
theorem ok : Proved Tryz.prog GLO.gx 137 spec := ok0
end ze

namespace x9
noncomputable def D : Ctx := ({ P := Tryz.prog, G := [], globs := GLO.gx, hints := [], loops := [], inl := [] } : Ctx)
theorem loops : cu (Tryz.f134.body.getD .skip) = [] := by kernel_rfl
noncomputable def ay : Abs.Spec := fun args K => match args with
 | [] => P.x9 (fun a => K (.arr .u64 64 a))
 | _ => none
noncomputable def spec : Abs.Spec := ay
theorem ok0 : Proved Tryz.prog GLO.gx 134 ay := by
 refine bq (D := D) (fn := Tryz.f134) (c := Tryz.f134.body.getD .skip) [.any] (by kernel_rfl) (au (by kernel_rfl)) (by kernel_rfl) (by kernel_rfl) (by kernel_rfl) trivial trivial ?_ ?_
 · rw [loops]; exact trivial
 · intro args K r h
   unfold ay at h
   split at h
   · rw [P.ahb] at h; exact Eq.trans (by kernel_rfl) h
   · cases h
theorem ok : Proved Tryz.prog GLO.gx 134 spec := ok0
end x9

namespace xw
noncomputable def D : Ctx := ({ P := Tryz.prog, G := [], globs := GLO.gx, hints := [], loops := [], inl := [] } : Ctx)
theorem loops : cu (Tryz.f135.body.getD .skip) = [] := by kernel_rfl
noncomputable def ay : Abs.Spec := fun args K => match args with
 | [] => P.xw (fun a => K (.arr .u64 80 a))
 | _ => none
noncomputable def spec : Abs.Spec := ay
theorem ok0 : Proved Tryz.prog GLO.gx 135 ay := by
 refine bq (D := D) (fn := Tryz.f135) (c := Tryz.f135.body.getD .skip) [.any] (by kernel_rfl) (au (by kernel_rfl)) (by kernel_rfl) (by kernel_rfl) (by kernel_rfl) trivial trivial ?_ ?_
 · rw [loops]; exact trivial
 · intro args K r h
   unfold ay at h
   split at h
   · rw [P.aho] at h; exact Eq.trans (by kernel_rfl) h
   · cases h
theorem ok : Proved Tryz.prog GLO.gx 135 spec := ok0
end xw

namespace ac3
abbrev X3 := P.bso
def S3 : X3 → ASt := fun (a, b, c) => ⟨[(0, .sl (.ints .u8 a)), (3, .v (.int .u64 b)), (4, .v (.int .i64 c))], [], 0, 20⟩
def V3 : ASt → Option X3
 | ⟨[(0, .sl (.ints .u8 a)), (3, .v (.int .u64 b)), (4, .v (.int .i64 c))], [], 0, 20⟩ => some (a, b, c)
 | _ => none
theorem akt (st) (x) (h : V3 st = some x) : st = S3 x := by
 unfold V3 at h
 split at h
 · cases h; rfl
 · cases h
abbrev Y3 := P.b0r
def E3 (K : AExit → ASt → Option R) : Y3 → Option R := (fun x => K (.exit 0) (S3 x))
noncomputable def L3 : qc := fun st K => ac6 (V3 st) fun x => P.b0j x (E3 K)
noncomputable def D : Ctx := ({ P := Tryz.prog, G := [], globs := GLO.gx, hints := [(3, ⟨[0, 3, 4], [], [2], [], none, [], []⟩)], loops := [(3, L3)], inl := [] } : Ctx)
theorem ad2 (K) (next) (x) : kg D (dh Tryz.f105 3) K next (S3 x) = P.bv3 x (fun x => next (S3 x)) (E3 K) := by kernel_rfl
theorem akn : ji D (dh Tryz.f105 3) := fu S3 akt (by kernel_rfl) P.b6u ad2
theorem loops : cu (Tryz.f105.body.getD .skip) = [dh Tryz.f105 3] := by kernel_rfl
noncomputable def ay : Abs.Spec := fun args K => match args with
 | [.sl (.ints .u8 a)] => P.ac3 a (fun b => K (.v (.int .u64 b)))
 | _ => none
noncomputable def spec : Abs.Spec := fun args K => ay (ou [.sl (.ints .u8 [])] args) K
theorem ok0 : Proved Tryz.prog GLO.gx 105 ay := by
 refine bq (D := D) (fn := Tryz.f105) (c := Tryz.f105.body.getD .skip) [.any] (by kernel_rfl) (au (by kernel_rfl)) (by kernel_rfl) (by kernel_rfl) (by kernel_rfl) trivial trivial ?_ ?_
 · rw [loops]; exact ⟨akn, trivial⟩
 · intro args K r h
   unfold ay at h
   split at h
   · rw [P.aye] at h; exact Eq.trans (by kernel_rfl) h
   · cases h
theorem ok : Proved Tryz.prog GLO.gx 105 spec := d9 _ ok0
end ac3

end
