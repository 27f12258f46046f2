/-
  ForsGrows, part 17: an interpreter of my own over abstract values, the pure functions, the walks and the plain law.
-/

import Derived.Test.YtjhnljhjpnjieaaGreatDoorForsGrowsK
import Derived.Test.YtjhnljhjpnjieaaGreatDoorForsGrowsG
import Derived.Test.YtjhnljhjpnjieaaGreatDoorProg
import Derived.Test.YtjhnljhjpnjieaaGreatDoorForsGrowsJ
import Derived.Test.YtjhnljhjpnjieaaGreatDoorForsGrowsM
import Derived.Test.YtjhnljhjpnjieaaGreatDoorForsGrowsP
import Derived.KernelRfl
import Derived.Test.YtjhnljhjpnjieaaGreatDoorForsGrowsI
import Derived.Test.YtjhnljhjpnjieaaGreatDoorForsGrowsL

section
open Go Go.Abs Go.Proofs
set_option maxRecDepth 100000
set_option maxHeartbeats 0
set_option linter.unusedVariables false

namespace afi
abbrev bsv := P.brq
def bgl : bsv → ASt := fun (B, C, F, a, b, c, d, e, f, g, h, i, j, k, l, m, n, o, p, q, r, s, t, u, w, y, z, A, G) => ⟨[(11, .ptr 2 0), (15, .ptr 3 0), (16, .v (.int .u64 B)), (49, .v (.int .i64 C)), (50, .v (.int .i64 F))], [(1240, some ⟨.row 5 (.ints .u8 a), false⟩), (0, some ⟨.box 23 [.v (.int .i64 b), .v (.int .i64 c), .v (.int .i64 d), .v (.int .i64 e), .v (.int .i64 f), .v (.bool g)], false⟩), (2, some ⟨.box 47 [.v (.int .i64 h), .v (.int .i64 i), .v (.int .i64 j), .v (.int .i64 k), .v (.int .i64 l), .v (.bool m), .sl (.ints .u8 n), .sl (.ints .u8 o), .arr .u8 32 p], false⟩), (3, some ⟨.box 26 [.own 1240], false⟩), (4, some ⟨.box 47 [.v (.int .i64 q), .v (.int .i64 r), .v (.int .i64 s), .v (.int .i64 t), .v (.int .i64 u), .v (.bool w), .sl (.ints .u8 y), .sl (.ints .u8 z), .arr .u8 32 A], false⟩), (7, some ⟨.row 64 (.ints .u32 G), false⟩)], 1241, 64⟩
def bns : ASt → Option bsv
 | ⟨[(11, .ptr 2 0), (15, .ptr 3 0), (16, .v (.int .u64 B)), (49, .v (.int .i64 C)), (50, .v (.int .i64 F))], [(1240, some ⟨.row 5 (.ints .u8 a), false⟩), (0, some ⟨.box 23 [.v (.int .i64 b), .v (.int .i64 c), .v (.int .i64 d), .v (.int .i64 e), .v (.int .i64 f), .v (.bool g)], false⟩), (2, some ⟨.box 47 [.v (.int .i64 h), .v (.int .i64 i), .v (.int .i64 j), .v (.int .i64 k), .v (.int .i64 l), .v (.bool m), .sl (.ints .u8 n), .sl (.ints .u8 o), .arr .u8 32 p], false⟩), (3, some ⟨.box 26 [.own 1240], false⟩), (4, some ⟨.box 47 [.v (.int .i64 q), .v (.int .i64 r), .v (.int .i64 s), .v (.int .i64 t), .v (.int .i64 u), .v (.bool w), .sl (.ints .u8 y), .sl (.ints .u8 z), .arr .u8 32 A], false⟩), (7, some ⟨.row 64 (.ints .u32 G), false⟩)], 1241, 64⟩ => some (B, C, F, a, b, c, d, e, f, g, h, i, j, k, l, m, n, o, p, q, r, s, t, u, w, y, z, A, G)
 | _ => none
theorem blb (st) (x) (h : bns st = some x) : st = bgl x := by
 unfold bns at h
 split at h
 · cases h; rfl
 · cases h
abbrev bxw := P.by6
abbrev b4f := P.bsb
def br5 : b4f → ASt := fun (B, C, a, b, c, d, e, f, g, h, i, j, k, l, m, n, o, p, q, r, s, t, u, w, y, z, A, F) => ⟨[(0, .yld 6 [5, 11, 15] [.ptr 0 0, .ptr 2 0, .ptr 3 0]), (2, .ptr 4 0), (13, .own 7), (14, .v (.int .i64 B)), (15, .v (.int .i64 C))], [(840, some ⟨.row 5 (.ints .u8 a), false⟩), (0, some ⟨.box 23 [.v (.int .i64 b), .v (.int .i64 c), .v (.int .i64 d), .v (.int .i64 e), .v (.int .i64 f), .v (.bool g)], false⟩), (2, some ⟨.box 47 [.v (.int .i64 h), .v (.int .i64 i), .v (.int .i64 j), .v (.int .i64 k), .v (.int .i64 l), .v (.bool m), .sl (.ints .u8 n), .sl (.ints .u8 o), .arr .u8 32 p], false⟩), (3, some ⟨.box 26 [.own 840], false⟩), (4, some ⟨.box 47 [.v (.int .i64 q), .v (.int .i64 r), .v (.int .i64 s), .v (.int .i64 t), .v (.int .i64 u), .v (.bool w), .sl (.ints .u8 y), .sl (.ints .u8 z), .arr .u8 32 A], false⟩), (7, some ⟨.row 64 (.ints .u32 F), false⟩)], 841, 33⟩
def bxz : ASt → Option b4f
 | ⟨[(0, .yld 6 [5, 11, 15] [.ptr 0 0, .ptr 2 0, .ptr 3 0]), (2, .ptr 4 0), (13, .own 7), (14, .v (.int .i64 B)), (15, .v (.int .i64 C))], [(840, some ⟨.row 5 (.ints .u8 a), false⟩), (0, some ⟨.box 23 [.v (.int .i64 b), .v (.int .i64 c), .v (.int .i64 d), .v (.int .i64 e), .v (.int .i64 f), .v (.bool g)], false⟩), (2, some ⟨.box 47 [.v (.int .i64 h), .v (.int .i64 i), .v (.int .i64 j), .v (.int .i64 k), .v (.int .i64 l), .v (.bool m), .sl (.ints .u8 n), .sl (.ints .u8 o), .arr .u8 32 p], false⟩), (3, some ⟨.box 26 [.own 840], false⟩), (4, some ⟨.box 47 [.v (.int .i64 q), .v (.int .i64 r), .v (.int .i64 s), .v (.int .i64 t), .v (.int .i64 u), .v (.bool w), .sl (.ints .u8 y), .sl (.ints .u8 z), .arr .u8 32 A], false⟩), (7, some ⟨.row 64 (.ints .u32 F), false⟩)], 841, 33⟩ => some (B, C, a, b, c, d, e, f, g, h, i, j, k, l, m, n, o, p, q, r, s, t, u, w, y, z, A, F)
 | _ => none
theorem bo7 (st) (x) (h : bxz st = some x) : st = br5 x := by
 unfold bxz at h
 split at h
 · cases h; rfl
 · cases h
abbrev Y2_1 := P.b2c
def bsn (K : AExit → ASt → Option R) : bxw → Option R := (fun x => K (.exit 2) (bgl x))
noncomputable def b0t : qc := fun st K => adi (bns st) fun x => P.bw9 x (bsn K)
def b28 (K : AExit → ASt → Option R) : Y2_1 → Option R := (fun x => K (.exit 0) (br5 x))
noncomputable def L2_1 : qc := fun st K => adi (bxz st) fun x => P.bwj x (b28 K)
noncomputable def D3 : Ctx := ({ P := Tryz.prog, G := [(9, ko.spec), (38, gy.spec), (39, iw.spec), (48, je.spec), (78, oz.spec)], globs := GLO.gx, hints := [(10, ⟨[11, 15, 16, 49, 50], [(1000003, 5, .ints .u8 [])], [10], [], some (1240, [0, 2, 3, 4, 7]), [2], []⟩)], loops := [(10, b0t)], inl := [], y := some (bk4 (ao1 Tryz.f17 8) 64 false) } : Ctx)
noncomputable def D2 : Ctx := ({ P := Tryz.prog, G := [(9, ko.spec), (38, gy.spec), (39, iw.spec), (48, je.spec), (78, oz.spec)], globs := GLO.gx, hints := [(1, ⟨[0, 2, 13, 14, 15], [(1000003, 5, .ints .u8 [])], [], [], some (840, [0, 2, 3, 4, 7]), [0, 2, 4], []⟩)], loops := [(1, L2_1)], inl := [], y := some (bk4 (ao1 Tryz.f17 8) 64 true), ys := some (azr D3 (bk4 (ao1 Tryz.f17 8) 64 true)) } : Ctx)
noncomputable def D1 : Ctx := ({ P := Tryz.prog, G := [(9, ko.spec), (38, gy.spec), (39, iw.spec), (48, je.spec), (78, oz.spec)], globs := GLO.gx, hints := [], loops := [], inl := [] } : Ctx)
noncomputable def D : Ctx := ({ P := Tryz.prog, G := [(9, ko.spec), (38, gy.spec), (39, iw.spec), (48, je.spec), (78, oz.spec)], globs := GLO.gx, hints := [], loops := [], inl := [(47, aiz D1 Tryz.f47)], top := true, rng := [(8, ⟨77, 64, [5, 11, 15], aiz D2 Tryz.f77⟩)] } : Ctx)
theorem bho (K) (next) (x) : kr D3 (biq (ao1 Tryz.f17 8) 10) K next (bgl x) = P.bvm x (fun x => next (bgl x)) (bsn K) := by kernel_rfl
theorem bj6 : jr D3 (biq (ao1 Tryz.f17 8) 10) := fu bgl blb (by kernel_rfl) P.b4g bho
theorem bki (K) (next) (x) : kr D2 (dn Tryz.f77 1) K next (br5 x) = P.bv4 x (fun x => next (br5 x)) (b28 K) := by kernel_rfl
theorem bpc : jr D2 (dn Tryz.f77 1) := fu br5 bo7 (by kernel_rfl) P.b4i bki
theorem loops : cu (Tryz.f17.body.getD .skip) = [] := by kernel_rfl
theorem ape : cu (Tryz.f47.body.getD .skip) = [] := by kernel_rfl
theorem bjn : cu (Tryz.f77.body.getD .skip) = [dn Tryz.f77 1] := by kernel_rfl
theorem bta : cu (bsd (ao1 Tryz.f17 8)) = [biq (ao1 Tryz.f17 8) 10] := by kernel_rfl
theorem ranges : tq (Tryz.f17.body.getD .skip) = [ao1 Tryz.f17 8] := by kernel_rfl
theorem blv : aqy D2 (azr D3 (bk4 (ao1 Tryz.f17 8) 64 true)) := bg6 (Y := bk4 (ao1 Tryz.f17 8) 64 true) (ay9 (D := D3) ⟨ko.ok, gy.ok, iw.ok, je.ok, oz.ok, trivial⟩) (au (by kernel_rfl)) (bae (D := D3) trivial (as5 rfl)) (by kernel_rfl) rfl rfl (by kernel_rfl) (by kernel_rfl) rfl rfl rfl (al9 _ (by rw [show cu (bk4 (ao1 Tryz.f17 8) 64 true).assign = [] from by kernel_rfl]; exact trivial)) (al9 _ (by rw [show cu (bk4 (ao1 Tryz.f17 8) 64 true).body = cu (bsd (ao1 Tryz.f17 8)) from by kernel_rfl, bta]; exact ⟨bj6, trivial⟩))
noncomputable def ay : Abs.Spec := fun args K => match args with
 | [.agg [.v (.int .i64 b), .v (.int .i64 c), .v (.int .i64 d), .v (.int .i64 e), .v (.int .i64 f), .v (.bool a)], .sl (.ints .u8 g), .sl (.ints .u8 h), .sl (.ints .u8 i), .arr .u8 32 j] => P.afi b c d e f a g h i j (fun k => K (.fr 5 (.ints .u8 k)))
 | _ => none
noncomputable def spec : Abs.Spec := fun args K => ay (om [.any, .sl (.ints .u8 []), .sl (.ints .u8 []), .sl (.ints .u8 []), .any] args) K
theorem ok0 : Proved Tryz.prog GLO.gx 17 ay := by
 refine bq (D := D) (fn := Tryz.f17) (c := Tryz.f17.body.getD .skip) [.fr 5 (.ints .u8 [])] (by kernel_rfl) (au (by kernel_rfl)) (by kernel_rfl) (by kernel_rfl) (by kernel_rfl) ⟨ko.ok, gy.ok, iw.ok, je.ok, oz.ok, trivial⟩ ⟨auc (D := D1) (D' := D) (fn := Tryz.f47) (c := Tryz.f47.body.getD .skip) rfl rfl (by kernel_rfl) (au (by kernel_rfl)) (by kernel_rfl) (by kernel_rfl) (by kernel_rfl) ⟨ko.ok, gy.ok, iw.ok, je.ok, oz.ok, trivial⟩ trivial (by rw [ape]; exact trivial) (fun _ _ _ _ _ h => h), trivial⟩ ?_ ?_ (hRg := by rw [ranges]; exact ⟨bgb (D := D) (Di := D2) (e := ⟨77, 64, [5, 11, 15], aiz D2 Tryz.f77⟩) (by kernel_rfl) rfl rfl (by kernel_rfl) (auc (D := D2) (D' := D2) (fn := Tryz.f77) (c := Tryz.f77.body.getD .skip) rfl rfl (by kernel_rfl) (au (by kernel_rfl)) (by kernel_rfl) (by kernel_rfl) (by kernel_rfl) ⟨ko.ok, gy.ok, iw.ok, je.ok, oz.ok, trivial⟩ trivial (by rw [bjn]; exact ⟨bpc, trivial⟩) (fun _ _ _ _ _ h => h) rfl rfl (asj rfl _) (fun s hs => by have hs : some (azr D3 (bk4 (ao1 Tryz.f17 8) 64 true)) = some s := hs; cases hs; exact blv)), trivial⟩)
 · rw [loops]; exact trivial
 · intro args K r h
   unfold ay at h
   split at h
   · rw [P.arj] at h; exact Eq.trans (by kernel_rfl) h
   · cases h
theorem ok : Proved Tryz.prog GLO.gx 17 spec := d9 _ ok0
end afi

namespace ze
noncomputable def D : Ctx := ({ P := Tryz.prog, G := [(9, ko.spec), (17, afi.spec)], globs := GLO.gx, hints := [], loops := [], inl := [] } : Ctx)
theorem loops : cu (Tryz.f8.body.getD .skip) = [] := by kernel_rfl
noncomputable def ay : Abs.Spec := fun args K => match args with
 | [] => P.ze (fun a => K (.v (.bool a)))
 | _ => none
noncomputable def spec : Abs.Spec := ay
theorem ok0 : Proved Tryz.prog GLO.gx 8 ay := by
 refine bq (D := D) (fn := Tryz.f8) (c := Tryz.f8.body.getD .skip) [.any] (by kernel_rfl) (au (by kernel_rfl)) (by kernel_rfl) (by kernel_rfl) (by kernel_rfl) ⟨ko.ok, afi.ok, trivial⟩ trivial ?_ ?_
 · rw [loops]; exact trivial
 · intro args K r h
   unfold ay at h
   split at h
   · rw [P.aq3] at h; exact Eq.trans (by kernel_rfl) h
   · cases h
theorem ok : Proved Tryz.prog GLO.gx 8 spec := ok0
end ze

namespace afy
abbrev X2 := P.zt1
def S2 : X2 → ASt := fun (a, b, c) => ⟨[(5, .sl (.rows .u8 a)), (6, .v (.int .i64 b)), (7, .v (.int .i64 c))], [], 0, 15⟩
def V2 : ASt → Option X2
 | ⟨[(5, .sl (.rows .u8 a)), (6, .v (.int .i64 b)), (7, .v (.int .i64 c))], [], 0, 15⟩ => some (a, b, c)
 | _ => none
theorem bix (st) (x) (h : V2 st = some x) : st = S2 x := by
 unfold V2 at h
 split at h
 · cases h; rfl
 · cases h
abbrev Y2 := P.zy1
def E2 (K : AExit → ASt → Option R) : Y2 → Option R := (Sum.elim (fun x => K (.exit 0) (S2 x)) (fun a => K .ret ⟨[(2, .v (.bool a))], [], 0, 15⟩))
noncomputable def L2 : qc := fun st K => adi (V2 st) fun x => P.zm1 x (E2 K)
noncomputable def D : Ctx := ({ P := Tryz.prog, G := [], globs := GLO.gx, hints := [(2, ⟨[5, 6, 7], [], [2], [], none, [], []⟩)], loops := [(2, L2)], inl := [] } : Ctx)
theorem bbs (K) (next) (x) : kr D (dn Tryz.f7 2) K next (S2 x) = P.zs1 x (fun x => next (S2 x)) (E2 K) := by kernel_rfl
theorem bhj : jr D (dn Tryz.f7 2) := fu S2 bix (by kernel_rfl) P.ze1 bbs
theorem loops : cu (Tryz.f7.body.getD .skip) = [dn Tryz.f7 2] := by kernel_rfl
noncomputable def ay : Abs.Spec := fun args K => match args with
 | [.sl (.rows .u8 a)] => P.afy a (fun b => K (.v (.bool b)))
 | _ => none
noncomputable def spec : Abs.Spec := fun args K => ay (om [.sl (.rows .u8 [])] args) K
theorem ok0 : Proved Tryz.prog GLO.gx 7 ay := by
 refine bq (D := D) (fn := Tryz.f7) (c := Tryz.f7.body.getD .skip) [.any] (by kernel_rfl) (au (by kernel_rfl)) (by kernel_rfl) (by kernel_rfl) (by kernel_rfl) trivial trivial ?_ ?_
 · rw [loops]; exact ⟨bhj, trivial⟩
 · intro args K r h
   unfold ay at h
   split at h
   · rw [P.avu] at h; exact Eq.trans (by kernel_rfl) h
   · cases h
theorem ok : Proved Tryz.prog GLO.gx 7 spec := d9 _ ok0
end afy

namespace vk
noncomputable def D : Ctx := ({ P := Tryz.prog, G := [], globs := GLO.gx, hints := [], loops := [], inl := [] } : Ctx)
theorem loops : cu (Tryz.f37.body.getD .skip) = [] := by kernel_rfl
noncomputable def ay : Abs.Spec := fun args K => match args with
 | [.agg [.v (.int .i64 b), .v (.int .i64 c), .v (.int .i64 d), .v (.int .i64 e), .v (.int .i64 f), .v (.bool a)]] => P.vk b c d e f a (fun g => K (.v (.bool g)))
 | _ => none
noncomputable def spec : Abs.Spec := ay
theorem ok0 : Proved Tryz.prog GLO.gx 37 ay := by
 refine bq (D := D) (fn := Tryz.f37) (c := Tryz.f37.body.getD .skip) [.any] (by kernel_rfl) (au (by kernel_rfl)) (by kernel_rfl) (by kernel_rfl) (by kernel_rfl) trivial trivial ?_ ?_
 · rw [loops]; exact trivial
 · intro args K r h
   unfold ay at h
   split at h
   · rw [P.axm] at h; exact Eq.trans (by kernel_rfl) h
   · cases h
theorem ok : Proved Tryz.prog GLO.gx 37 spec := ok0
end vk

namespace zx
noncomputable def D : Ctx := ({ P := Tryz.prog, G := [(37, vk.spec)], globs := GLO.gx, hints := [], loops := [], inl := [] } : Ctx)
theorem loops : cu (Tryz.f11.body.getD .skip) = [] := by kernel_rfl
noncomputable def ay : Abs.Spec := fun args K => match args with
 | [.agg [.v (.int .i64 b), .v (.int .i64 c), .v (.int .i64 d), .v (.int .i64 e), .v (.int .i64 f), .v (.bool a)]] => P.zx b c d e f a (fun g => K (.v (.bool g)))
 | _ => none
noncomputable def spec : Abs.Spec := ay
theorem ok0 : Proved Tryz.prog GLO.gx 11 ay := by
 refine bq (D := D) (fn := Tryz.f11) (c := Tryz.f11.body.getD .skip) [.any] (by kernel_rfl) (au (by kernel_rfl)) (by kernel_rfl) (by kernel_rfl) (by kernel_rfl) ⟨vk.ok, trivial⟩ trivial ?_ ?_
 · rw [loops]; exact trivial
 · intro args K r h
   unfold ay at h
   split at h
   · rw [P.aq6] at h; exact Eq.trans (by kernel_rfl) h
   · cases h
theorem ok : Proved Tryz.prog GLO.gx 11 spec := ok0
end zx

namespace acf
abbrev X4 := P.bvn
def S4 : X4 → ASt := fun (a, b, c) => ⟨[(0, .sl (.ints .u8 a)), (1, .sl (.ints .u8 b)), (5, .v (.int .i64 c))], [], 0, 26⟩
def V4 : ASt → Option X4
 | ⟨[(0, .sl (.ints .u8 a)), (1, .sl (.ints .u8 b)), (5, .v (.int .i64 c))], [], 0, 26⟩ => some (a, b, c)
 | _ => none
theorem aqn (st) (x) (h : V4 st = some x) : st = S4 x := by
 unfold V4 at h
 split at h
 · cases h; rfl
 · cases h
abbrev Y4 := P.b1h
def E4 (K : AExit → ASt → Option R) : Y4 → Option R := (Sum.elim (fun x => K (.exit 0) (S4 x)) (fun a => K .ret ⟨[(4, .v (.bool a))], [], 0, 26⟩))
noncomputable def L4 : qc := fun st K => adi (V4 st) fun x => P.byt x (E4 K)
noncomputable def D : Ctx := ({ P := Tryz.prog, G := [], globs := GLO.gx, hints := [(4, ⟨[0, 1, 5], [], [4], [], none, [], []⟩)], loops := [(4, L4)], inl := [] } : Ctx)
theorem ai3 (K) (next) (x) : kr D (dn Tryz.f12 4) K next (S4 x) = P.brc x (fun x => next (S4 x)) (E4 K) := by kernel_rfl
theorem aqr : jr D (dn Tryz.f12 4) := fu S4 aqn (by kernel_rfl) P.b29 ai3
theorem loops : cu (Tryz.f12.body.getD .skip) = [dn Tryz.f12 4] := by kernel_rfl
noncomputable def ay : Abs.Spec := fun args K => match args with
 | [.sl (.ints .u8 a), .sl (.ints .u8 b)] => P.acf a b (fun c => K (.v (.bool c)))
 | _ => none
noncomputable def spec : Abs.Spec := fun args K => ay (om [.sl (.ints .u8 []), .sl (.ints .u8 [])] args) K
theorem ok0 : Proved Tryz.prog GLO.gx 12 ay := by
 refine bq (D := D) (fn := Tryz.f12) (c := Tryz.f12.body.getD .skip) [.any] (by kernel_rfl) (au (by kernel_rfl)) (by kernel_rfl) (by kernel_rfl) (by kernel_rfl) trivial trivial ?_ ?_
 · rw [loops]; exact ⟨aqr, trivial⟩
 · intro args K r h
   unfold ay at h
   split at h
   · rw [P.as4] at h; exact Eq.trans (by kernel_rfl) h
   · cases h
theorem ok : Proved Tryz.prog GLO.gx 12 spec := d9 _ ok0
end acf

namespace l8
abbrev X3 := P.bq0
def S3 : X3 → ASt := fun (a, b, c) => ⟨[(3, .own 0), (0, .sl (.rows .u8 a)), (4, .v (.int .i64 b))], [(0, some ⟨.row 5 (.ints .u8 c), false⟩)], 1, 18⟩
def V3 : ASt → Option X3
 | ⟨[(3, .own 0), (0, .sl (.rows .u8 a)), (4, .v (.int .i64 b))], [(0, some ⟨.row 5 (.ints .u8 c), false⟩)], 1, 18⟩ => some (a, b, c)
 | _ => none
theorem alq (st) (x) (h : V3 st = some x) : st = S3 x := by
 unfold V3 at h
 split at h
 · cases h; rfl
 · cases h
abbrev Y3 := P.bwc
def E3 (K : AExit → ASt → Option R) : Y3 → Option R := (fun x => K (.exit 0) (S3 x))
noncomputable def L3 : qc := fun st K => adi (V3 st) fun x => P.byh x (E3 K)
noncomputable def D : Ctx := ({ P := Tryz.prog, G := [], globs := GLO.gx, hints := [(3, ⟨[0, 4], [(3, 5, .ints .u8 [])], [2], [], none, [], []⟩)], loops := [(3, L3)], inl := [] } : Ctx)
theorem afj (K) (next) (x) : kr D (dn Tryz.f44 3) K next (S3 x) = P.bs4 x (fun x => next (S3 x)) (E3 K) := by kernel_rfl
theorem ak7 : jr D (dn Tryz.f44 3) := fu S3 alq (by kernel_rfl) P.b4m afj
theorem loops : cu (Tryz.f44.body.getD .skip) = [dn Tryz.f44 3] := by kernel_rfl
noncomputable def ay : Abs.Spec := fun args K => match args with
 | [.sl (.rows .u8 a)] => P.l8 a (fun b => K (.fr 5 (.ints .u8 b)))
 | _ => none
noncomputable def spec : Abs.Spec := fun args K => ay (om [.sl (.rows .u8 [])] args) K
theorem ok0 : Proved Tryz.prog GLO.gx 44 ay := by
 refine bq (D := D) (fn := Tryz.f44) (c := Tryz.f44.body.getD .skip) [.fr 5 (.ints .u8 [])] (by kernel_rfl) (au (by kernel_rfl)) (by kernel_rfl) (by kernel_rfl) (by kernel_rfl) trivial trivial ?_ ?_
 · rw [loops]; exact ⟨ak7, trivial⟩
 · intro args K r h
   unfold ay at h
   split at h
   · rw [P.at6] at h; exact Eq.trans (by kernel_rfl) h
   · cases h
theorem ok : Proved Tryz.prog GLO.gx 44 spec := d9 _ ok0
end l8

namespace xq
noncomputable def D : Ctx := ({ P := Tryz.prog, G := [], globs := GLO.gx, hints := [], loops := [], inl := [] } : Ctx)
theorem loops : cu (Tryz.f117.body.getD .skip) = [] := by kernel_rfl
noncomputable def ay : Abs.Spec := fun args K => match args with
 | [.v (.int .i64 a)] => P.xq a (fun b => K (.v (.int .i64 b)))
 | _ => none
noncomputable def spec : Abs.Spec := ay
theorem ok0 : Proved Tryz.prog GLO.gx 117 ay := by
 refine bq (D := D) (fn := Tryz.f117) (c := Tryz.f117.body.getD .skip) [.any] (by kernel_rfl) (au (by kernel_rfl)) (by kernel_rfl) (by kernel_rfl) (by kernel_rfl) trivial trivial ?_ ?_
 · rw [loops]; exact trivial
 · intro args K r h
   unfold ay at h
   split at h
   · rw [P.aru] at h; exact Eq.trans (by kernel_rfl) h
   · cases h
theorem ok : Proved Tryz.prog GLO.gx 117 spec := ok0
end xq

namespace yc
noncomputable def D : Ctx := ({ P := Tryz.prog, G := [], globs := GLO.gx, hints := [], loops := [], inl := [] } : Ctx)
theorem loops : cu (Tryz.f150.body.getD .skip) = [] := by kernel_rfl
noncomputable def ay : Abs.Spec := fun args K => match args with
 | [.v (.int .u64 a), .v (.int .i64 b), .v (.bool c)] => P.yc a b c (fun d => K (.v (.int .u64 d)))
 | _ => none
noncomputable def spec : Abs.Spec := ay
theorem ok0 : Proved Tryz.prog GLO.gx 150 ay := by
 refine bq (D := D) (fn := Tryz.f150) (c := Tryz.f150.body.getD .skip) [.any] (by kernel_rfl) (au (by kernel_rfl)) (by kernel_rfl) (by kernel_rfl) (by kernel_rfl) trivial trivial ?_ ?_
 · rw [loops]; exact trivial
 · intro args K r h
   unfold ay at h
   split at h
   · rw [P.ahz] at h; exact Eq.trans (by kernel_rfl) h
   · cases h
theorem ok : Proved Tryz.prog GLO.gx 150 spec := ok0
end yc

namespace yt
noncomputable def D : Ctx := ({ P := Tryz.prog, G := [(150, yc.spec)], globs := GLO.gx, hints := [], loops := [], inl := [] } : Ctx)
theorem loops : cu (Tryz.f137.body.getD .skip) = [] := by kernel_rfl
noncomputable def ay : Abs.Spec := fun args K => match args with
 | [.v (.int .u64 a), .v (.int .i64 b), .v (.int .i64 c), .v (.int .i64 d), .v (.bool e), .v (.bool f)] => P.yt a b c d e f (fun g => K (.v (.int .u64 g)))
 | _ => none
noncomputable def spec : Abs.Spec := ay
theorem ok0 : Proved Tryz.prog GLO.gx 137 ay := by
 refine bq (D := D) (fn := Tryz.f137) (c := Tryz.f137.body.getD .skip) [.any] (by kernel_rfl) (au (by kernel_rfl)) (by kernel_rfl) (by kernel_rfl) (by kernel_rfl) ⟨yc.ok, trivial⟩ trivial ?_ ?_
 · rw [loops]; exact trivial
 · intro args K r h
   unfold ay at h
   split at h
   · rw [P.aey] at h; exact Eq.trans (by kernel_rfl) h
   · cases h
theorem ok : Proved Tryz.prog GLO.gx 137 spec := ok0
end yt

namespace wm
noncomputable def D : Ctx := ({ P := Tryz.prog, G := [], globs := GLO.gx, hints := [], loops := [], inl := [] } : Ctx)
theorem loops : cu (Tryz.f134.body.getD .skip) = [] := by kernel_rfl
noncomputable def ay : Abs.Spec := fun args K => match args with
 | [] => P.wm (fun a => K (.arr .u64 64 a))
 | _ => none
noncomputable def spec : Abs.Spec := ay
theorem ok0 : Proved Tryz.prog GLO.gx 134 ay := by
 refine bq (D := D) (fn := Tryz.f134) (c := Tryz.f134.body.getD .skip) [.any] (by kernel_rfl) (au (by kernel_rfl)) (by kernel_rfl) (by kernel_rfl) (by kernel_rfl) trivial trivial ?_ ?_
 · rw [loops]; exact trivial
 · intro args K r h
   unfold ay at h
   split at h
   · rw [P.agy] at h; exact Eq.trans (by kernel_rfl) h
   · cases h
theorem ok : Proved Tryz.prog GLO.gx 134 spec := ok0
end wm

namespace wh
noncomputable def D : Ctx := ({ P := Tryz.prog, G := [], globs := GLO.gx, hints := [], loops := [], inl := [] } : Ctx)
theorem loops : cu (Tryz.f135.body.getD .skip) = [] := by kernel_rfl
noncomputable def ay : Abs.Spec := fun args K => match args with
 | [] => P.wh (fun a => K (.arr .u64 80 a))
 | _ => none
noncomputable def spec : Abs.Spec := ay
theorem ok0 : Proved Tryz.prog GLO.gx 135 ay := by
 refine bq (D := D) (fn := Tryz.f135) (c := Tryz.f135.body.getD .skip) [.any] (by kernel_rfl) (au (by kernel_rfl)) (by kernel_rfl) (by kernel_rfl) (by kernel_rfl) trivial trivial ?_ ?_
 · rw [loops]; exact trivial
 · intro args K r h
   unfold ay at h
   split at h
   · rw [P.aho] at h; exact Eq.trans (by kernel_rfl) h
   · cases h
theorem ok : Proved Tryz.prog GLO.gx 135 spec := ok0
end wh

namespace acs
abbrev X3 := P.brx
def S3 : X3 → ASt := fun (a, b, c) => ⟨[(0, .sl (.ints .u8 a)), (3, .v (.int .u64 b)), (4, .v (.int .i64 c))], [], 0, 20⟩
def V3 : ASt → Option X3
 | ⟨[(0, .sl (.ints .u8 a)), (3, .v (.int .u64 b)), (4, .v (.int .i64 c))], [], 0, 20⟩ => some (a, b, c)
 | _ => none
theorem alq (st) (x) (h : V3 st = some x) : st = S3 x := by
 unfold V3 at h
 split at h
 · cases h; rfl
 · cases h
abbrev Y3 := P.b0a
def E3 (K : AExit → ASt → Option R) : Y3 → Option R := (fun x => K (.exit 0) (S3 x))
noncomputable def L3 : qc := fun st K => adi (V3 st) fun x => P.bzm x (E3 K)
noncomputable def D : Ctx := ({ P := Tryz.prog, G := [], globs := GLO.gx, hints := [(3, ⟨[0, 3, 4], [], [2], [], none, [], []⟩)], loops := [(3, L3)], inl := [] } : Ctx)
theorem afj (K) (next) (x) : kr D (dn Tryz.f105 3) K next (S3 x) = P.bqb x (fun x => next (S3 x)) (E3 K) := by kernel_rfl
theorem ak7 : jr D (dn Tryz.f105 3) := fu S3 alq (by kernel_rfl) P.b4e afj
theorem loops : cu (Tryz.f105.body.getD .skip) = [dn Tryz.f105 3] := by kernel_rfl
noncomputable def ay : Abs.Spec := fun args K => match args with
 | [.sl (.ints .u8 a)] => P.acs a (fun b => K (.v (.int .u64 b)))
 | _ => none
noncomputable def spec : Abs.Spec := fun args K => ay (om [.sl (.ints .u8 [])] args) K
theorem ok0 : Proved Tryz.prog GLO.gx 105 ay := by
 refine bq (D := D) (fn := Tryz.f105) (c := Tryz.f105.body.getD .skip) [.any] (by kernel_rfl) (au (by kernel_rfl)) (by kernel_rfl) (by kernel_rfl) (by kernel_rfl) trivial trivial ?_ ?_
 · rw [loops]; exact ⟨ak7, trivial⟩
 · intro args K r h
   unfold ay at h
   split at h
   · rw [P.aw3] at h; exact Eq.trans (by kernel_rfl) h
   · cases h
theorem ok : Proved Tryz.prog GLO.gx 105 spec := d9 _ ok0
end acs

namespace abt
abbrev X6 := P.bqj
def S6 : X6 → ASt := fun (b, c, d, e, f, a, g) => ⟨[(10, .own 0), (0, .sl (.ints .u8 b)), (1, .v (.bool c)), (2, .v (.int .i64 d)), (3, .v (.int .u64 e)), (9, .v (.int .i64 f)), (11, .v (.int .i64 a))], [(0, some ⟨.row 27 (.ints .u64 g), false⟩)], 1, 82⟩
def V6 : ASt → Option X6
 | ⟨[(10, .own 0), (0, .sl (.ints .u8 b)), (1, .v (.bool c)), (2, .v (.int .i64 d)), (3, .v (.int .u64 e)), (9, .v (.int .i64 f)), (11, .v (.int .i64 a))], [(0, some ⟨.row 27 (.ints .u64 g), false⟩)], 1, 82⟩ => some (b, c, d, e, f, a, g)
 | _ => none
theorem bcm (st) (x) (h : V6 st = some x) : st = S6 x := by
 unfold V6 at h
 split at h
 · cases h; rfl
 · cases h
abbrev Y6 := P.b1b
def E6 (K : AExit → ASt → Option R) : Y6 → Option R := (fun x => K (.exit 0) (S6 x))
noncomputable def L6 : qc := fun st K => adi (V6 st) fun x => P.bxs x (E6 K)
noncomputable def D : Ctx := ({ P := Tryz.prog, G := [(105, acs.spec), (137, yt.spec)], globs := GLO.gx, hints := [(6, ⟨[0, 1, 2, 3, 9, 11], [(10, 27, .ints .u64 [])], [8], [], none, [], []⟩)], loops := [(6, L6)], inl := [] } : Ctx)
theorem au9 (K) (next) (x) : kr D (dn Tryz.f136 6) K next (S6 x) = P.bp1 x (fun x => next (S6 x)) (E6 K) := by kernel_rfl
theorem bdj : jr D (dn Tryz.f136 6) := fu S6 bcm (by kernel_rfl) P.b3x au9
theorem loops : cu (Tryz.f136.body.getD .skip) = [dn Tryz.f136 6] := by kernel_rfl
noncomputable def ay : Abs.Spec := fun args K => match args with
 | [.sl (.ints .u8 a), .v (.bool b), .v (.int .i64 c), .v (.int .u64 d)] => P.abt a b c d (fun e => K (.fr 27 (.ints .u64 e)))
 | _ => none
noncomputable def spec : Abs.Spec := fun args K => ay (om [.sl (.ints .u8 []), .any, .any, .any] args) K
theorem ok0 : Proved Tryz.prog GLO.gx 136 ay := by
 refine bq (D := D) (fn := Tryz.f136) (c := Tryz.f136.body.getD .skip) [.fr 27 (.ints .u64 [])] (by kernel_rfl) (au (by kernel_rfl)) (by kernel_rfl) (by kernel_rfl) (by kernel_rfl) ⟨acs.ok, yt.ok, trivial⟩ trivial ?_ ?_
 · rw [loops]; exact ⟨bdj, trivial⟩
 · intro args K r h
   unfold ay at h
   split at h
   · rw [P.aly] at h; exact Eq.trans (by kernel_rfl) h
   · cases h
theorem ok : Proved Tryz.prog GLO.gx 136 spec := d9 _ ok0
end abt

end
