/-
  HssRight, part 16: an interpreter of my own over abstract values, the pure functions, the walks and the plain law.
-/

import Derived.Test.YtmipokjdajiimaaDoorHssRightK
import Derived.Test.YtmipokjdajiimaaDoorHssRightH
import Derived.Test.YtmipokjdajiimaaDoorProg
import Derived.Test.YtmipokjdajiimaaDoorHssRightJ
import Derived.Test.YtmipokjdajiimaaDoorHssRightN
import Derived.Test.YtmipokjdajiimaaDoorHssRightO
import Derived.Test.YtmipokjdajiimaaDoorHssRightM
import Derived.KernelRfl
import Derived.Test.YtmipokjdajiimaaDoorHssRightI

section
open Go Go.Abs Go.Proofs
set_option maxRecDepth 100000
set_option maxHeartbeats 0
set_option linter.unusedVariables false

namespace y7
abbrev X9 := P.bwf
def S9 : X9 → ASt := fun (f, g, d, e, a, b, c, h) => ⟨[(0, .v (.int .i64 f)), (6, .ptr 0 0), (8, .own 1), (9, .v (.int .u64 g)), (36, .own 1), (37, .v (.int .i64 d)), (38, .v (.int .i64 e))], [(0, some ⟨.box 101 [.v (.int .i64 a), .v (.int .i64 b), .v (.int .i64 c)], false⟩), (1, some ⟨.row 42 (.ints .u32 h), false⟩)], 2, 61⟩
def V9 : ASt → Option X9
 | ⟨[(0, .v (.int .i64 f)), (6, .ptr 0 0), (8, .own 1), (9, .v (.int .u64 g)), (36, .own 1), (37, .v (.int .i64 d)), (38, .v (.int .i64 e))], [(0, some ⟨.box 101 [.v (.int .i64 a), .v (.int .i64 b), .v (.int .i64 c)], false⟩), (1, some ⟨.row 42 (.ints .u32 h), false⟩)], 2, 61⟩ => some (f, g, d, e, a, b, c, h)
 | _ => none
theorem bmh (st) (x) (h : V9 st = some x) : st = S9 x := by
 unfold V9 at h
 split at h
 · cases h; rfl
 · cases h
abbrev Y9 := P.b4x
def E9 (K : AExit → ASt → Option R) : Y9 → Option R := (fun x => K (.exit 1) (S9 x))
noncomputable def L9 : aah := fun st K => akb (V9 st) fun x => P.b2x x (E9 K)
noncomputable def D : Ctx := ({ P := Tryd.prog, G := [(38, gq.spec), (74, ni.spec), (102, uo.spec)], globs := GLO.gB, hints := [(9, ⟨[0, 6, 8, 9, 36, 37, 38], [], [4, 5], [], none, [], [], []⟩)], loops := [(9, L9)], inl := [] } : Ctx)
theorem bdr (K) (next) (x) : rz D (fu Tryd.f91 9) K next (S9 x) = P.bv0 x (fun x => next (S9 x)) (E9 K) := by kernel_rfl
theorem bnn : pq D (fu Tryd.f91 9) := jq S9 bmh (by kernel_rfl) P.b6x bdr
theorem loops : dh (Tryd.f91.body.getD .skip) = [fu Tryd.f91 9] := by kernel_rfl
noncomputable def bn : Abs.Spec := fun args K => match args with
 | [.v (.int .i64 a), .sl (.ints .u8 b)] => P.y7 a b (fun c d => K (.tuple [.fr 42 (.ints .u32 c), .v (.int .i64 d)]))
 | _ => none
noncomputable def spec : Abs.Spec := fun args K => bn (p9 [.any, .sl (.ints .u8 [])] args) K
theorem ok0 : Proved Tryd.prog GLO.gB 91 bn := by
 refine dx (D := D) (fn := Tryd.f91) (c := Tryd.f91.body.getD .skip) [.fr 42 (.ints .u32 []), .any] (by kernel_rfl) (aj (by kernel_rfl)) (by kernel_rfl) (by kernel_rfl) (by kernel_rfl) ⟨gq.ok, ni.ok, uo.ok, trivial⟩ trivial ?_ ?_
 · rw [loops]; exact ⟨bnn, trivial⟩
 · intro args K r h
   unfold bn at h
   split at h
   · rw [P.akr] at h; exact Eq.trans (by kernel_rfl) h
   · cases h
theorem ok : Proved Tryd.prog GLO.gB 91 spec := dz _ ok0
end y7

namespace jv
noncomputable def D : Ctx := ({ P := Tryd.prog, G := [(86, ig.spec), (91, y7.spec)], globs := GLO.gB, hints := [], loops := [], inl := [] } : Ctx)
theorem loops : dh (Tryd.f71.body.getD .skip) = [] := by kernel_rfl
noncomputable def bn : Abs.Spec := fun args K => match args with
 | [.agg [.v (.int .i64 e), .sl (.ints .u8 d), .v (.int .u32 f), .v (.int .i64 a), .v (.int .i64 b), .v (.int .i64 c)], .sl (.ints .u8 g), .sl (.ints .u8 h)] => P.jv e d f a b c g h (fun i => K (.fr 42 (.ints .u32 i)))
 | _ => none
noncomputable def spec : Abs.Spec := fun args K => bn (p9 [.agg [.any, .sl (.ints .u8 []), .any, .any, .any, .any], .sl (.ints .u8 []), .sl (.ints .u8 [])] args) K
theorem ok0 : Proved Tryd.prog GLO.gB 71 bn := by
 refine dx (D := D) (fn := Tryd.f71) (c := Tryd.f71.body.getD .skip) [.fr 42 (.ints .u32 [])] (by kernel_rfl) (aj (by kernel_rfl)) (by kernel_rfl) (by kernel_rfl) (by kernel_rfl) ⟨ig.ok, y7.ok, trivial⟩ trivial ?_ ?_
 · rw [loops]; exact trivial
 · intro args K r h
   unfold bn at h
   split at h
   · rw [P.ady] at h; exact Eq.trans (by kernel_rfl) h
   · cases h
theorem ok : Proved Tryd.prog GLO.gB 71 spec := dz _ ok0
end jv

namespace l8
noncomputable def D : Ctx := ({ P := Tryd.prog, G := [], globs := GLO.gB, hints := [], loops := [], inl := [] } : Ctx)
theorem loops : dh (Tryd.f85.body.getD .skip) = [] := by kernel_rfl
noncomputable def bn : Abs.Spec := fun args K => match args with
 | [.agg [.v (.int .i64 e), .sl (.ints .u8 d), .v (.int .u32 f), .v (.int .i64 a), .v (.int .i64 b), .v (.int .i64 c)]] => P.l8 e d f a b c (fun g => K (.v (.int .u32 g)))
 | _ => none
noncomputable def spec : Abs.Spec := fun args K => bn (p9 [.agg [.any, .sl (.ints .u8 []), .any, .any, .any, .any]] args) K
theorem ok0 : Proved Tryd.prog GLO.gB 85 bn := by
 refine dx (D := D) (fn := Tryd.f85) (c := Tryd.f85.body.getD .skip) [.any] (by kernel_rfl) (aj (by kernel_rfl)) (by kernel_rfl) (by kernel_rfl) (by kernel_rfl) trivial trivial ?_ ?_
 · rw [loops]; exact trivial
 · intro args K r h
   unfold bn at h
   split at h
   · rw [P.agp] at h; exact Eq.trans (by kernel_rfl) h
   · cases h
theorem ok : Proved Tryd.prog GLO.gB 85 spec := dz _ ok0
end l8

namespace ko
abbrev X9 := P.buw
def S9 : X9 → ASt := fun (g, h, i, j, a, b, c, d, e, f, k) => ⟨[(14, .own 2), (12, .ptr 0 0), (15, .sl (.ints .u8 g)), (51, .own 1), (52, .v (.int .i64 h)), (53, .v (.int .i64 i))], [(2, some ⟨.row 5 (.ints .u8 j), false⟩), (0, some ⟨.box 103 [.v (.int .i64 a), .sl (.ints .u8 b), .v (.int .u32 c), .v (.int .i64 d), .v (.int .i64 e), .v (.int .i64 f)], false⟩), (1, some ⟨.row 42 (.ints .u32 k), false⟩)], 3, 77⟩
def V9 : ASt → Option X9
 | ⟨[(14, .own 2), (12, .ptr 0 0), (15, .sl (.ints .u8 g)), (51, .own 1), (52, .v (.int .i64 h)), (53, .v (.int .i64 i))], [(2, some ⟨.row 5 (.ints .u8 j), false⟩), (0, some ⟨.box 103 [.v (.int .i64 a), .sl (.ints .u8 b), .v (.int .u32 c), .v (.int .i64 d), .v (.int .i64 e), .v (.int .i64 f)], false⟩), (1, some ⟨.row 42 (.ints .u32 k), false⟩)], 3, 77⟩ => some (g, h, i, j, a, b, c, d, e, f, k)
 | _ => none
theorem bmh (st) (x) (h : V9 st = some x) : st = S9 x := by
 unfold V9 at h
 split at h
 · cases h; rfl
 · cases h
abbrev Y9 := P.bz1
def E9 (K : AExit → ASt → Option R) : Y9 → Option R := (fun x => K (.exit 1) (S9 x))
noncomputable def L9 : aah := fun st K => akb (V9 st) fun x => P.b0g x (E9 K)
noncomputable def D : Ctx := ({ P := Tryd.prog, G := [(32, jh.spec), (49, jk.spec), (71, jv.spec), (72, jr.spec), (85, l8.spec), (86, ig.spec), (90, wm.spec)], globs := GLO.gB, hints := [(9, ⟨[12, 15, 51, 52, 53], [(14, 5, .ints .u8 [])], [10, 11], [(15, .sl (.ints .u8 []))], none, [], [], []⟩)], loops := [(9, L9)], inl := [] } : Ctx)
theorem bdr (K) (next) (x) : rz D (fu Tryd.f75 9) K next (S9 x) = P.bu3 x (fun x => next (S9 x)) (E9 K) := by kernel_rfl
theorem bnn : pq D (fu Tryd.f75 9) := jq S9 bmh (by kernel_rfl) P.b5g bdr
theorem loops : dh (Tryd.f75.body.getD .skip) = [fu Tryd.f75 9] := by kernel_rfl
noncomputable def bn : Abs.Spec := fun args K => match args with
 | [.v (.int .i64 a), .sl (.ints .u8 b), .v (.int .u32 c), .sl (.ints .u8 d), .sl (.ints .u8 e)] => P.ko a b c d e (fun f g => K (.tuple [.fr 5 (.ints .u8 f), .v (.int .i64 g)]))
 | _ => none
noncomputable def spec : Abs.Spec := fun args K => bn (p9 [.any, .sl (.ints .u8 []), .any, .sl (.ints .u8 []), .sl (.ints .u8 [])] args) K
theorem ok0 : Proved Tryd.prog GLO.gB 75 bn := by
 refine dx (D := D) (fn := Tryd.f75) (c := Tryd.f75.body.getD .skip) [.fr 5 (.ints .u8 []), .any] (by kernel_rfl) (aj (by kernel_rfl)) (by kernel_rfl) (by kernel_rfl) (by kernel_rfl) ⟨jh.ok, jk.ok, jv.ok, jr.ok, l8.ok, ig.ok, wm.ok, trivial⟩ trivial ?_ ?_
 · rw [loops]; exact ⟨bnn, trivial⟩
 · intro args K r h
   unfold bn at h
   split at h
   · rw [P.ag7] at h; exact Eq.trans (by kernel_rfl) h
   · cases h
theorem ok : Proved Tryd.prog GLO.gB 75 spec := dz _ ok0
end ko

namespace ug
noncomputable def D : Ctx := ({ P := Tryd.prog, G := [(37, eu.spec), (38, gq.spec), (87, aao.spec), (88, uw.spec), (89, aaq.spec)], globs := GLO.gB, hints := [], loops := [], inl := [] } : Ctx)
theorem loops : dh (Tryd.f68.body.getD .skip) = [] := by kernel_rfl
noncomputable def bn : Abs.Spec := fun args K => match args with
 | [.sl (.ints .u8 a), .v (.int .u64 b), .v (.int .u64 c), .sl (.rows .u8 d)] => P.ug a b c d (fun e => K (.fr 5 (.ints .u8 e)))
 | _ => none
noncomputable def spec : Abs.Spec := fun args K => bn (p9 [.sl (.ints .u8 []), .any, .any, .sl (.rows .u8 [])] args) K
theorem ok0 : Proved Tryd.prog GLO.gB 68 bn := by
 refine dx (D := D) (fn := Tryd.f68) (c := Tryd.f68.body.getD .skip) [.fr 5 (.ints .u8 [])] (by kernel_rfl) (aj (by kernel_rfl)) (by kernel_rfl) (by kernel_rfl) (by kernel_rfl) ⟨eu.ok, gq.ok, aao.ok, uw.ok, aaq.ok, trivial⟩ trivial ?_ ?_
 · rw [loops]; exact trivial
 · intro args K r h
   unfold bn at h
   split at h
   · rw [P.az8] at h; exact Eq.trans (by kernel_rfl) h
   · cases h
theorem ok : Proved Tryd.prog GLO.gB 68 spec := dz _ ok0
end ug

namespace ada
abbrev bvr := P.bu8
def bma : bvr → ASt := fun (d, a, e, b, c) => ⟨[(0, .yld 9 [5, 13, 14] [.ptr 1 0, .ptr 5 0, .ptr 6 0]), (4, .v (.int .u64 d))], [(1, some ⟨.box 23 [.sl (.ints .u8 a)], false⟩), (4, some ⟨.row 5 (.ints .u8 e), true⟩), (5, some ⟨.box 23 [.sl (.ints .u8 b)], false⟩), (6, some ⟨.box 23 [.sl (.ints .u8 c)], false⟩)], 840, 19⟩
def btb : ASt → Option bvr
 | ⟨[(0, .yld 9 [5, 13, 14] [.ptr 1 0, .ptr 5 0, .ptr 6 0]), (4, .v (.int .u64 d))], [(1, some ⟨.box 23 [.sl (.ints .u8 a)], false⟩), (4, some ⟨.row 5 (.ints .u8 e), true⟩), (5, some ⟨.box 23 [.sl (.ints .u8 b)], false⟩), (6, some ⟨.box 23 [.sl (.ints .u8 c)], false⟩)], 840, 19⟩ => some (d, a, e, b, c)
 | _ => none
theorem bgf (st) (x) (h : btb st = some x) : st = bma x := by
 unfold btb at h
 split at h
 · cases h; rfl
 · cases h
abbrev b1n := P.b4f
def bwc (K : AExit → ASt → Option R) : b1n → Option R := (fun x => K (.exit 0) (bma x))
noncomputable def b1w : aah := fun st K => akb (btb st) fun x => P.bz6 x (bwc K)
noncomputable def D3 : Ctx := ({ P := Tryd.prog, G := [(32, jh.spec), (49, jk.spec), (68, ug.spec), (75, ko.spec)], globs := GLO.gB, hints := [], loops := [], inl := [], y := some (atn (ach Tryd.f52 8) 74 false) } : Ctx)
noncomputable def D2 : Ctx := ({ P := Tryd.prog, G := [(32, jh.spec), (49, jk.spec), (68, ug.spec), (75, ko.spec)], globs := GLO.gB, hints := [(1, ⟨[0, 4], [], [], [], some (840, [1, 4, 5, 6]), [1, 5, 6], [], []⟩)], loops := [(1, b1w)], inl := [], y := some (atn (ach Tryd.f52 8) 74 true), ys := some (akx D3 (atn (ach Tryd.f52 8) 74 true)) } : Ctx)
noncomputable def D1 : Ctx := ({ P := Tryd.prog, G := [(32, jh.spec), (49, jk.spec), (68, ug.spec), (75, ko.spec)], globs := GLO.gB, hints := [], loops := [], inl := [] } : Ctx)
noncomputable def D : Ctx := ({ P := Tryd.prog, G := [(32, jh.spec), (49, jk.spec), (68, ug.spec), (75, ko.spec)], globs := GLO.gB, hints := [], loops := [], inl := [(47, agn D1 Tryd.f47)], top := true, rng := [(8, ⟨73, 74, [5, 13, 14], agn D2 Tryd.f73⟩)] } : Ctx)
theorem bbc (K) (next) (x) : rz D2 (fu Tryd.f73 1) K next (bma x) = P.bxc x (fun x => next (bma x)) (bwc K) := by kernel_rfl
theorem bfv : pq D2 (fu Tryd.f73 1) := jq bma bgf (by kernel_rfl) P.b41 bbc
theorem loops : dh (Tryd.f52.body.getD .skip) = [] := by kernel_rfl
theorem axo : dh (Tryd.f47.body.getD .skip) = [] := by kernel_rfl
theorem bdv : dh (Tryd.f73.body.getD .skip) = [fu Tryd.f73 1] := by kernel_rfl
theorem bej : dh (brf (ach Tryd.f52 8)) = [] := by kernel_rfl
theorem ranges : qx (Tryd.f52.body.getD .skip) = [ach Tryd.f52 8] := by kernel_rfl
theorem aph : ala D2 (akx D3 (atn (ach Tryd.f52 8) 74 true)) := av4 (Y := atn (ach Tryd.f52 8) 74 true) (aw1 (D := D3) ⟨jh.ok, jk.ok, ug.ok, ko.ok, trivial⟩) (aj (by kernel_rfl)) (axw (D := D3) trivial (aon rfl)) (by kernel_rfl) rfl rfl (by kernel_rfl) (by kernel_rfl) rfl rfl rfl (aem _ (by rw [show dh (atn (ach Tryd.f52 8) 74 true).assign = [] from by kernel_rfl]; exact trivial)) (aem _ (by rw [show dh (atn (ach Tryd.f52 8) 74 true).body = dh (brf (ach Tryd.f52 8)) from by kernel_rfl, bej]; exact trivial))
noncomputable def bn : Abs.Spec := fun args K => match args with
 | [.agg [.v (.int .i64 a), .v (.int .i64 b)], .sl (.ints .u8 c), .sl (.ints .u8 d), .sl (.ints .u8 e)] => P.ada a b c d e (fun f => K (.sl (.ints .u8 f)))
 | _ => none
noncomputable def spec : Abs.Spec := fun args K => bn (p9 [.any, .sl (.ints .u8 []), .sl (.ints .u8 []), .sl (.ints .u8 [])] args) K
theorem ok0 : Proved Tryd.prog GLO.gB 52 bn := by
 refine dx (D := D) (fn := Tryd.f52) (c := Tryd.f52.body.getD .skip) [.sl (.ints .u8 [])] (by kernel_rfl) (aj (by kernel_rfl)) (by kernel_rfl) (by kernel_rfl) (by kernel_rfl) ⟨jh.ok, jk.ok, ug.ok, ko.ok, trivial⟩ ⟨avp (D := D1) (D' := D) (fn := Tryd.f47) (c := Tryd.f47.body.getD .skip) rfl rfl (by kernel_rfl) (aj (by kernel_rfl)) (by kernel_rfl) (by kernel_rfl) (by kernel_rfl) ⟨jh.ok, jk.ok, ug.ok, ko.ok, trivial⟩ trivial (by rw [axo]; exact trivial) (fun _ _ _ _ _ h => h), trivial⟩ ?_ ?_ (hRg := by rw [ranges]; exact ⟨arn (D := D) (Di := D2) (e := ⟨73, 74, [5, 13, 14], agn D2 Tryd.f73⟩) (by kernel_rfl) rfl rfl (by kernel_rfl) (avp (D := D2) (D' := D2) (fn := Tryd.f73) (c := Tryd.f73.body.getD .skip) rfl rfl (by kernel_rfl) (aj (by kernel_rfl)) (by kernel_rfl) (by kernel_rfl) (by kernel_rfl) ⟨jh.ok, jk.ok, ug.ok, ko.ok, trivial⟩ trivial (by rw [bdv]; exact ⟨bfv, trivial⟩) (fun _ _ _ _ _ h => h) rfl rfl (amd rfl _) (fun s hs => by have hs : some (akx D3 (atn (ach Tryd.f52 8) 74 true)) = some s := hs; cases hs; exact aph)), trivial⟩)
 · rw [loops]; exact trivial
 · intro args K r h
   unfold bn at h
   split at h
   · rw [P.anw] at h; exact Eq.trans (by kernel_rfl) h
   · cases h
theorem ok : Proved Tryd.prog GLO.gB 52 spec := dz _ ok0
end ada

namespace oq
noncomputable def D : Ctx := ({ P := Tryd.prog, G := [(25, zi.spec), (32, jh.spec), (43, aco.spec), (48, p8.spec), (50, mg.spec), (51, qj.spec), (52, ada.spec)], globs := GLO.gB, hints := [], loops := [], inl := [] } : Ctx)
theorem loops : dh (Tryd.f27.body.getD .skip) = [] := by kernel_rfl
noncomputable def bn : Abs.Spec := fun args K => match args with
 | [.sl (.ints .u8 a), .sl (.ints .u8 b), .sl (.ints .u8 c)] => P.oq a b c (fun d => K (.v (.int .i64 d)))
 | _ => none
noncomputable def spec : Abs.Spec := fun args K => bn (p9 [.sl (.ints .u8 []), .sl (.ints .u8 []), .sl (.ints .u8 [])] args) K
theorem ok0 : Proved Tryd.prog GLO.gB 27 bn := by
 refine dx (D := D) (fn := Tryd.f27) (c := Tryd.f27.body.getD .skip) [.any] (by kernel_rfl) (aj (by kernel_rfl)) (by kernel_rfl) (by kernel_rfl) (by kernel_rfl) ⟨zi.ok, jh.ok, aco.ok, p8.ok, mg.ok, qj.ok, ada.ok, trivial⟩ trivial ?_ ?_
 · rw [loops]; exact trivial
 · intro args K r h
   unfold bn at h
   split at h
   · rw [P.ajh] at h; exact Eq.trans (by kernel_rfl) h
   · cases h
theorem ok : Proved Tryd.prog GLO.gB 27 spec := dz _ ok0
end oq

namespace ahk
noncomputable def D : Ctx := ({ P := Tryd.prog, G := [(25, zi.spec), (27, oq.spec)], globs := GLO.gB, hints := [], loops := [], inl := [] } : Ctx)
theorem loops : dh (Tryd.f33.body.getD .skip) = [] := by kernel_rfl
noncomputable def bn : Abs.Spec := fun args K => match args with
 | [.sl (.ints .u8 a), .sl (.ints .u8 b), .sl (.ints .u8 c), .v (.bool d)] => P.ahk a b c d (fun e f g => K (.tuple [.sl (.ints .u8 e), .sl (.ints .u8 f), .v (.int .i64 g)]))
 | _ => none
noncomputable def spec : Abs.Spec := fun args K => bn (p9 [.sl (.ints .u8 []), .sl (.ints .u8 []), .sl (.ints .u8 []), .any] args) K
theorem ok0 : Proved Tryd.prog GLO.gB 33 bn := by
 refine dx (D := D) (fn := Tryd.f33) (c := Tryd.f33.body.getD .skip) [.sl (.ints .u8 []), .sl (.ints .u8 []), .any] (by kernel_rfl) (aj (by kernel_rfl)) (by kernel_rfl) (by kernel_rfl) (by kernel_rfl) ⟨zi.ok, oq.ok, trivial⟩ trivial ?_ ?_
 · rw [loops]; exact trivial
 · intro args K r h
   unfold bn at h
   split at h
   · rw [P.axi] at h; exact Eq.trans (by kernel_rfl) h
   · cases h
theorem ok : Proved Tryd.prog GLO.gB 33 spec := dz _ ok0
end ahk

namespace tq
abbrev X9 := P.bxl
def S9 : X9 → ASt := fun (a, b, c, d) => ⟨[(1, .sl (.ints .u8 a)), (7, .v (.int .u64 b)), (8, .sl (.ints .u8 c)), (9, .sl (.ints .u8 d))], [], 0, 57⟩
def V9 : ASt → Option X9
 | ⟨[(1, .sl (.ints .u8 a)), (7, .v (.int .u64 b)), (8, .sl (.ints .u8 c)), (9, .sl (.ints .u8 d))], [], 0, 57⟩ => some (a, b, c, d)
 | _ => none
theorem bmh (st) (x) (h : V9 st = some x) : st = S9 x := by
 unfold V9 at h
 split at h
 · cases h; rfl
 · cases h
abbrev Y9 := P.b3r
def E9 (K : AExit → ASt → Option R) : Y9 → Option R := (Sum.elim (fun x => K (.exit 1) (S9 x)) (fun a => K .ret ⟨[(6, .v (.int .i64 a))], [], 0, 57⟩))
noncomputable def L9 : aah := fun st K => akb (V9 st) fun x => P.b4l x (E9 K)
noncomputable def D : Ctx := ({ P := Tryd.prog, G := [(32, jh.spec), (33, ahk.spec)], globs := GLO.gB, hints := [(9, ⟨[1, 7, 8, 9], [], [6], [(8, .sl (.ints .u8 [])), (9, .sl (.ints .u8 []))], none, [], [], []⟩)], loops := [(9, L9)], inl := [] } : Ctx)
theorem bdr (K) (next) (x) : rz D (fu Tryd.f17 9) K next (S9 x) = P.bwk x (fun x => next (S9 x)) (E9 K) := by kernel_rfl
theorem bnn : pq D (fu Tryd.f17 9) := jq S9 bmh (by kernel_rfl) P.b67 bdr
theorem loops : dh (Tryd.f17.body.getD .skip) = [fu Tryd.f17 9] := by kernel_rfl
noncomputable def bn : Abs.Spec := fun args K => match args with
 | [.sl (.ints .u8 a), .sl (.ints .u8 b), .sl (.ints .u8 c)] => P.tq a b c (fun d => K (.v (.int .i64 d)))
 | _ => none
noncomputable def spec : Abs.Spec := fun args K => bn (p9 [.sl (.ints .u8 []), .sl (.ints .u8 []), .sl (.ints .u8 [])] args) K
theorem ok0 : Proved Tryd.prog GLO.gB 17 bn := by
 refine dx (D := D) (fn := Tryd.f17) (c := Tryd.f17.body.getD .skip) [.any] (by kernel_rfl) (aj (by kernel_rfl)) (by kernel_rfl) (by kernel_rfl) (by kernel_rfl) ⟨jh.ok, ahk.ok, trivial⟩ trivial ?_ ?_
 · rw [loops]; exact ⟨bnn, trivial⟩
 · intro args K r h
   unfold bn at h
   split at h
   · rw [P.ajd] at h; exact Eq.trans (by kernel_rfl) h
   · cases h
theorem ok : Proved Tryd.prog GLO.gB 17 spec := dz _ ok0
end tq

namespace zx
noncomputable def D : Ctx := ({ P := Tryd.prog, G := [(10, qg.spec), (14, yw.spec), (17, tq.spec)], globs := GLO.gB, hints := [], loops := [], inl := [] } : Ctx)
theorem loops : dh (Tryd.f9.body.getD .skip) = [] := by kernel_rfl
noncomputable def bn : Abs.Spec := fun args K => match args with
 | [] => P.zx (fun a => K (.v (.bool a)))
 | _ => none
noncomputable def spec : Abs.Spec := bn
theorem ok0 : Proved Tryd.prog GLO.gB 9 bn := by
 refine dx (D := D) (fn := Tryd.f9) (c := Tryd.f9.body.getD .skip) [.any] (by kernel_rfl) (aj (by kernel_rfl)) (by kernel_rfl) (by kernel_rfl) (by kernel_rfl) ⟨qg.ok, yw.ok, tq.ok, trivial⟩ trivial ?_ ?_
 · rw [loops]; exact trivial
 · intro args K r h
   unfold bn at h
   split at h
   · rw [P.asu] at h; exact Eq.trans (by kernel_rfl) h
   · cases h
theorem ok : Proved Tryd.prog GLO.gB 9 spec := ok0
end zx

namespace afl
abbrev X2 := P.zt1
def S2 : X2 → ASt := fun (a, b, c) => ⟨[(5, .sl (.rows .u8 a)), (6, .v (.int .i64 b)), (7, .v (.int .i64 c))], [], 0, 15⟩
def V2 : ASt → Option X2
 | ⟨[(5, .sl (.rows .u8 a)), (6, .v (.int .i64 b)), (7, .v (.int .i64 c))], [], 0, 15⟩ => some (a, b, c)
 | _ => none
theorem btm (st) (x) (h : V2 st = some x) : st = S2 x := by
 unfold V2 at h
 split at h
 · cases h; rfl
 · cases h
abbrev Y2 := P.zy1
def E2 (K : AExit → ASt → Option R) : Y2 → Option R := (Sum.elim (fun x => K (.exit 0) (S2 x)) (fun a => K .ret ⟨[(2, .v (.bool a))], [], 0, 15⟩))
noncomputable def L2 : aah := fun st K => akb (V2 st) fun x => P.zm1 x (E2 K)
noncomputable def D : Ctx := ({ P := Tryd.prog, G := [], globs := GLO.gB, hints := [(2, ⟨[5, 6, 7], [], [2], [], none, [], [], []⟩)], loops := [(2, L2)], inl := [] } : Ctx)
theorem bny (K) (next) (x) : rz D (fu Tryd.f8 2) K next (S2 x) = P.zs1 x (fun x => next (S2 x)) (E2 K) := by kernel_rfl
theorem bsd : pq D (fu Tryd.f8 2) := jq S2 btm (by kernel_rfl) P.ze1 bny
theorem loops : dh (Tryd.f8.body.getD .skip) = [fu Tryd.f8 2] := by kernel_rfl
noncomputable def bn : Abs.Spec := fun args K => match args with
 | [.sl (.rows .u8 a)] => P.afl a (fun b => K (.v (.bool b)))
 | _ => none
noncomputable def spec : Abs.Spec := fun args K => bn (p9 [.sl (.rows .u8 [])] args) K
theorem ok0 : Proved Tryd.prog GLO.gB 8 bn := by
 refine dx (D := D) (fn := Tryd.f8) (c := Tryd.f8.body.getD .skip) [.any] (by kernel_rfl) (aj (by kernel_rfl)) (by kernel_rfl) (by kernel_rfl) (by kernel_rfl) trivial trivial ?_ ?_
 · rw [loops]; exact ⟨bsd, trivial⟩
 · intro args K r h
   unfold bn at h
   split at h
   · rw [P.baf] at h; exact Eq.trans (by kernel_rfl) h
   · cases h
theorem ok : Proved Tryd.prog GLO.gB 8 spec := dz _ ok0
end afl

namespace l9
noncomputable def D : Ctx := ({ P := Tryd.prog, G := [(86, ig.spec)], globs := GLO.gB, hints := [], loops := [], inl := [] } : Ctx)
theorem loops : dh (Tryd.f70.body.getD .skip) = [] := by kernel_rfl
noncomputable def bn : Abs.Spec := fun args K => match args with
 | [.agg [.v (.int .i64 e), .sl (.ints .u8 d), .v (.int .u32 f), .v (.int .i64 a), .v (.int .i64 b), .v (.int .i64 c)], .v (.int .u64 g), .sl (.ints .u8 h)] => P.l9 e d f a b c g h (fun i => K (.fr 5 (.ints .u8 i)))
 | _ => none
noncomputable def spec : Abs.Spec := fun args K => bn (p9 [.agg [.any, .sl (.ints .u8 []), .any, .any, .any, .any], .any, .sl (.ints .u8 [])] args) K
theorem ok0 : Proved Tryd.prog GLO.gB 70 bn := by
 refine dx (D := D) (fn := Tryd.f70) (c := Tryd.f70.body.getD .skip) [.fr 5 (.ints .u8 [])] (by kernel_rfl) (aj (by kernel_rfl)) (by kernel_rfl) (by kernel_rfl) (by kernel_rfl) ⟨ig.ok, trivial⟩ trivial ?_ ?_
 · rw [loops]; exact trivial
 · intro args K r h
   unfold bn at h
   split at h
   · rw [P.ag9] at h; exact Eq.trans (by kernel_rfl) h
   · cases h
theorem ok : Proved Tryd.prog GLO.gB 70 spec := dz _ ok0
end l9

namespace tu
noncomputable def D : Ctx := ({ P := Tryd.prog, G := [(90, wm.spec)], globs := GLO.gB, hints := [], loops := [], inl := [] } : Ctx)
theorem loops : dh (Tryd.f69.body.getD .skip) = [] := by kernel_rfl
noncomputable def bn : Abs.Spec := fun args K => match args with
 | [.v (.int .i64 g), .sl (.ints .u8 h), .v (.int .u32 i), .sl (.ints .u8 j)] => P.tu g h i j (fun e d f a b c k => K (.tuple [.agg [.v (.int .i64 e), .sl (.ints .u8 d), .v (.int .u32 f), .v (.int .i64 a), .v (.int .i64 b), .v (.int .i64 c)], .v (.int .i64 k)]))
 | _ => none
noncomputable def spec : Abs.Spec := fun args K => bn (p9 [.any, .sl (.ints .u8 []), .any, .sl (.ints .u8 [])] args) K
theorem ok0 : Proved Tryd.prog GLO.gB 69 bn := by
 refine dx (D := D) (fn := Tryd.f69) (c := Tryd.f69.body.getD .skip) [.agg [.any, .sl (.ints .u8 []), .any, .any, .any, .any], .any] (by kernel_rfl) (aj (by kernel_rfl)) (by kernel_rfl) (by kernel_rfl) (by kernel_rfl) ⟨wm.ok, trivial⟩ trivial ?_ ?_
 · rw [loops]; exact trivial
 · intro args K r h
   unfold bn at h
   split at h
   · rw [P.alb] at h; exact Eq.trans (by kernel_rfl) h
   · cases h
theorem ok : Proved Tryd.prog GLO.gB 69 spec := dz _ ok0
end tu

namespace y8
abbrev X6 := P.bvo
def S6 : X6 → ASt := fun (i, g, h, j, a, b, c, d, e, f) => ⟨[(12, .own 1), (3, .sl (.ints .u8 i)), (10, .ptr 0 0), (27, .v (.int .i64 g)), (28, .v (.int .i64 h))], [(1, some ⟨.row 5 (.ints .u8 j), false⟩), (0, some ⟨.box 103 [.v (.int .i64 a), .sl (.ints .u8 b), .v (.int .u32 c), .v (.int .i64 d), .v (.int .i64 e), .v (.int .i64 f)], false⟩)], 2, 48⟩
def V6 : ASt → Option X6
 | ⟨[(12, .own 1), (3, .sl (.ints .u8 i)), (10, .ptr 0 0), (27, .v (.int .i64 g)), (28, .v (.int .i64 h))], [(1, some ⟨.row 5 (.ints .u8 j), false⟩), (0, some ⟨.box 103 [.v (.int .i64 a), .sl (.ints .u8 b), .v (.int .u32 c), .v (.int .i64 d), .v (.int .i64 e), .v (.int .i64 f)], false⟩)], 2, 48⟩ => some (i, g, h, j, a, b, c, d, e, f)
 | _ => none
theorem br3 (st) (x) (h : V6 st = some x) : st = S6 x := by
 unfold V6 at h
 split at h
 · cases h; rfl
 · cases h
abbrev Y6 := P.b0q
def E6 (K : AExit → ASt → Option R) : Y6 → Option R := (fun x => K (.exit 0) (S6 x))
noncomputable def L6 : aah := fun st K => akb (V6 st) fun x => P.b4h x (E6 K)
noncomputable def D : Ctx := ({ P := Tryd.prog, G := [(69, tu.spec), (70, l9.spec), (72, jr.spec), (85, l8.spec), (86, ig.spec)], globs := GLO.gB, hints := [(6, ⟨[3, 10, 27, 28], [(12, 5, .ints .u8 [])], [8, 9], [], none, [], [], []⟩)], loops := [(6, L6)], inl := [] } : Ctx)
theorem bn4 (K) (next) (x) : rz D (fu Tryd.f67 6) K next (S6 x) = P.bxb x (fun x => next (S6 x)) (E6 K) := by kernel_rfl
theorem bsl : pq D (fu Tryd.f67 6) := jq S6 br3 (by kernel_rfl) P.b5q bn4
theorem loops : dh (Tryd.f67.body.getD .skip) = [fu Tryd.f67 6] := by kernel_rfl
noncomputable def bn : Abs.Spec := fun args K => match args with
 | [.v (.int .i64 a), .sl (.ints .u8 b), .v (.int .u32 c), .sl (.ints .u8 d)] => P.y8 a b c d (fun e f => K (.tuple [.fr 5 (.ints .u8 e), .v (.int .i64 f)]))
 | _ => none
noncomputable def spec : Abs.Spec := fun args K => bn (p9 [.any, .sl (.ints .u8 []), .any, .sl (.ints .u8 [])] args) K
theorem ok0 : Proved Tryd.prog GLO.gB 67 bn := by
 refine dx (D := D) (fn := Tryd.f67) (c := Tryd.f67.body.getD .skip) [.fr 5 (.ints .u8 []), .any] (by kernel_rfl) (aj (by kernel_rfl)) (by kernel_rfl) (by kernel_rfl) (by kernel_rfl) ⟨tu.ok, l9.ok, jr.ok, l8.ok, ig.ok, trivial⟩ trivial ?_ ?_
 · rw [loops]; exact ⟨bsl, trivial⟩
 · intro args K r h
   unfold bn at h
   split at h
   · rw [P.ak7] at h; exact Eq.trans (by kernel_rfl) h
   · cases h
theorem ok : Proved Tryd.prog GLO.gB 67 spec := dz _ ok0
end y8

end
