/-
  HssVerifies, part 16: an interpreter of my own over abstract values, the pure functions, the walks and the plain law.
-/

import Derived.Test.YtmipokjdajiimaaDoorHssVerifiesK
import Derived.Test.YtmipokjdajiimaaDoorHssVerifiesH
import Derived.Test.YtmipokjdajiimaaDoorProg
import Derived.Test.YtmipokjdajiimaaDoorHssVerifiesJ
import Derived.Test.YtmipokjdajiimaaDoorHssVerifiesN
import Derived.Test.YtmipokjdajiimaaDoorHssVerifiesO
import Derived.Test.YtmipokjdajiimaaDoorHssVerifiesM
import Derived.KernelRfl
import Derived.Test.YtmipokjdajiimaaDoorHssVerifiesI

section
open Go Go.Abs Go.Proofs
set_option maxRecDepth 100000
set_option maxHeartbeats 0
set_option linter.unusedVariables false

namespace yu
abbrev X9 := P.bqt
def S9 : X9 → ASt := fun (f, g, d, e, a, b, c, h) => ⟨[(0, .v (.int .i64 f)), (6, .ptr 0 0), (8, .own 1), (9, .v (.int .u64 g)), (36, .own 1), (37, .v (.int .i64 d)), (38, .v (.int .i64 e))], [(0, some ⟨.box 101 [.v (.int .i64 a), .v (.int .i64 b), .v (.int .i64 c)], false⟩), (1, some ⟨.row 42 (.ints .u32 h), false⟩)], 2, 61⟩
def V9 : ASt → Option X9
 | ⟨[(0, .v (.int .i64 f)), (6, .ptr 0 0), (8, .own 1), (9, .v (.int .u64 g)), (36, .own 1), (37, .v (.int .i64 d)), (38, .v (.int .i64 e))], [(0, some ⟨.box 101 [.v (.int .i64 a), .v (.int .i64 b), .v (.int .i64 c)], false⟩), (1, some ⟨.row 42 (.ints .u32 h), false⟩)], 2, 61⟩ => some (f, g, d, e, a, b, c, h)
 | _ => none
theorem arv (st) (x) (h : V9 st = some x) : st = S9 x := by
 unfold V9 at h
 split at h
 · cases h; rfl
 · cases h
abbrev Y9 := P.bu6
def E9 (K : AExit → ASt → Option R) : Y9 → Option R := (fun x => K (.exit 1) (S9 x))
noncomputable def L9 : sj := fun st K => ad3 (V9 st) fun x => P.byp x (E9 K)
noncomputable def D : Ctx := ({ P := Tryd.prog, G := [(38, ni.spec), (74, l6.spec), (102, rz.spec)], globs := GLO.gB, hints := [(9, ⟨[0, 6, 8, 9, 36, 37, 38], [], [4, 5], [], none, [], [], []⟩)], loops := [(9, L9)], inl := [] } : Ctx)
theorem ajg (K) (next) (x) : ko D (dw Tryd.f91 9) K next (S9 x) = P.br9 x (fun x => next (S9 x)) (E9 K) := by kernel_rfl
theorem ati : jm D (dw Tryd.f91 9) := fq S9 arv (by kernel_rfl) P.bzd ajg
theorem loops : dh (Tryd.f91.body.getD .skip) = [dw Tryd.f91 9] := by kernel_rfl
noncomputable def au : Abs.Spec := fun args K => match args with
 | [.v (.int .i64 a), .sl (.ints .u8 b)] => P.yu a b (fun c d => K (.tuple [.fr 42 (.ints .u32 c), .v (.int .i64 d)]))
 | _ => none
noncomputable def spec : Abs.Spec := fun args K => au (mo [.any, .sl (.ints .u8 [])] args) K
theorem ok0 : Proved Tryd.prog GLO.gB 91 au := by
 refine cu (D := D) (fn := Tryd.f91) (c := Tryd.f91.body.getD .skip) [.fr 42 (.ints .u32 []), .any] (by kernel_rfl) (aj (by kernel_rfl)) (by kernel_rfl) (by kernel_rfl) (by kernel_rfl) ⟨ni.ok, l6.ok, rz.ok, trivial⟩ trivial ?_ ?_
 · rw [loops]; exact ⟨ati, trivial⟩
 · intro args K r h
   unfold au at h
   split at h
   · rw [P.aj3] at h; exact Eq.trans (by kernel_rfl) h
   · cases h
theorem ok : Proved Tryd.prog GLO.gB 91 spec := dz _ ok0
end yu

namespace lq
noncomputable def D : Ctx := ({ P := Tryd.prog, G := [(86, jv.spec), (91, yu.spec)], globs := GLO.gB, hints := [], loops := [], inl := [] } : Ctx)
theorem loops : dh (Tryd.f71.body.getD .skip) = [] := by kernel_rfl
noncomputable def au : Abs.Spec := fun args K => match args with
 | [.agg [.v (.int .i64 e), .sl (.ints .u8 d), .v (.int .u32 f), .v (.int .i64 a), .v (.int .i64 b), .v (.int .i64 c)], .sl (.ints .u8 g), .sl (.ints .u8 h)] => P.lq e d f a b c g h (fun i => K (.fr 42 (.ints .u32 i)))
 | _ => none
noncomputable def spec : Abs.Spec := fun args K => au (mo [.agg [.any, .sl (.ints .u8 []), .any, .any, .any, .any], .sl (.ints .u8 []), .sl (.ints .u8 [])] args) K
theorem ok0 : Proved Tryd.prog GLO.gB 71 au := by
 refine cu (D := D) (fn := Tryd.f71) (c := Tryd.f71.body.getD .skip) [.fr 42 (.ints .u32 [])] (by kernel_rfl) (aj (by kernel_rfl)) (by kernel_rfl) (by kernel_rfl) (by kernel_rfl) ⟨jv.ok, yu.ok, trivial⟩ trivial ?_ ?_
 · rw [loops]; exact trivial
 · intro args K r h
   unfold au at h
   split at h
   · rw [P.ac7] at h; exact Eq.trans (by kernel_rfl) h
   · cases h
theorem ok : Proved Tryd.prog GLO.gB 71 spec := dz _ ok0
end lq

namespace o7
noncomputable def D : Ctx := ({ P := Tryd.prog, G := [], globs := GLO.gB, hints := [], loops := [], inl := [] } : Ctx)
theorem loops : dh (Tryd.f85.body.getD .skip) = [] := by kernel_rfl
noncomputable def au : Abs.Spec := fun args K => match args with
 | [.agg [.v (.int .i64 e), .sl (.ints .u8 d), .v (.int .u32 f), .v (.int .i64 a), .v (.int .i64 b), .v (.int .i64 c)]] => P.o7 e d f a b c (fun g => K (.v (.int .u32 g)))
 | _ => none
noncomputable def spec : Abs.Spec := fun args K => au (mo [.agg [.any, .sl (.ints .u8 []), .any, .any, .any, .any]] args) K
theorem ok0 : Proved Tryd.prog GLO.gB 85 au := by
 refine cu (D := D) (fn := Tryd.f85) (c := Tryd.f85.body.getD .skip) [.any] (by kernel_rfl) (aj (by kernel_rfl)) (by kernel_rfl) (by kernel_rfl) (by kernel_rfl) trivial trivial ?_ ?_
 · rw [loops]; exact trivial
 · intro args K r h
   unfold au at h
   split at h
   · rw [P.afl] at h; exact Eq.trans (by kernel_rfl) h
   · cases h
theorem ok : Proved Tryd.prog GLO.gB 85 spec := dz _ ok0
end o7

namespace jl
abbrev X9 := P.bpv
def S9 : X9 → ASt := fun (g, h, i, j, a, b, c, d, e, f, k) => ⟨[(14, .own 2), (12, .ptr 0 0), (15, .sl (.ints .u8 g)), (51, .own 1), (52, .v (.int .i64 h)), (53, .v (.int .i64 i))], [(2, some ⟨.row 5 (.ints .u8 j), false⟩), (0, some ⟨.box 103 [.v (.int .i64 a), .sl (.ints .u8 b), .v (.int .u32 c), .v (.int .i64 d), .v (.int .i64 e), .v (.int .i64 f)], false⟩), (1, some ⟨.row 42 (.ints .u32 k), false⟩)], 3, 77⟩
def V9 : ASt → Option X9
 | ⟨[(14, .own 2), (12, .ptr 0 0), (15, .sl (.ints .u8 g)), (51, .own 1), (52, .v (.int .i64 h)), (53, .v (.int .i64 i))], [(2, some ⟨.row 5 (.ints .u8 j), false⟩), (0, some ⟨.box 103 [.v (.int .i64 a), .sl (.ints .u8 b), .v (.int .u32 c), .v (.int .i64 d), .v (.int .i64 e), .v (.int .i64 f)], false⟩), (1, some ⟨.row 42 (.ints .u32 k), false⟩)], 3, 77⟩ => some (g, h, i, j, a, b, c, d, e, f, k)
 | _ => none
theorem arv (st) (x) (h : V9 st = some x) : st = S9 x := by
 unfold V9 at h
 split at h
 · cases h; rfl
 · cases h
abbrev Y9 := P.bvr
def E9 (K : AExit → ASt → Option R) : Y9 → Option R := (fun x => K (.exit 1) (S9 x))
noncomputable def L9 : sj := fun st K => ad3 (V9 st) fun x => P.bxi x (E9 K)
noncomputable def D : Ctx := ({ P := Tryd.prog, G := [(32, iy.spec), (49, je.spec), (71, lq.spec), (72, o8.spec), (85, o7.spec), (86, jv.spec), (90, zx.spec)], globs := GLO.gB, hints := [(9, ⟨[12, 15, 51, 52, 53], [(14, 5, .ints .u8 [])], [10, 11], [(15, .sl (.ints .u8 []))], none, [], [], []⟩)], loops := [(9, L9)], inl := [] } : Ctx)
theorem ajg (K) (next) (x) : ko D (dw Tryd.f75 9) K next (S9 x) = P.bpe x (fun x => next (S9 x)) (E9 K) := by kernel_rfl
theorem ati : jm D (dw Tryd.f75 9) := fq S9 arv (by kernel_rfl) P.bz9 ajg
theorem loops : dh (Tryd.f75.body.getD .skip) = [dw Tryd.f75 9] := by kernel_rfl
noncomputable def au : Abs.Spec := fun args K => match args with
 | [.v (.int .i64 a), .sl (.ints .u8 b), .v (.int .u32 c), .sl (.ints .u8 d), .sl (.ints .u8 e)] => P.jl a b c d e (fun f g => K (.tuple [.fr 5 (.ints .u8 f), .v (.int .i64 g)]))
 | _ => none
noncomputable def spec : Abs.Spec := fun args K => au (mo [.any, .sl (.ints .u8 []), .any, .sl (.ints .u8 []), .sl (.ints .u8 [])] args) K
theorem ok0 : Proved Tryd.prog GLO.gB 75 au := by
 refine cu (D := D) (fn := Tryd.f75) (c := Tryd.f75.body.getD .skip) [.fr 5 (.ints .u8 []), .any] (by kernel_rfl) (aj (by kernel_rfl)) (by kernel_rfl) (by kernel_rfl) (by kernel_rfl) ⟨iy.ok, je.ok, lq.ok, o8.ok, o7.ok, jv.ok, zx.ok, trivial⟩ trivial ?_ ?_
 · rw [loops]; exact ⟨ati, trivial⟩
 · intro args K r h
   unfold au at h
   split at h
   · rw [P.agc] at h; exact Eq.trans (by kernel_rfl) h
   · cases h
theorem ok : Proved Tryd.prog GLO.gB 75 spec := dz _ ok0
end jl

namespace y7
noncomputable def D : Ctx := ({ P := Tryd.prog, G := [(37, jq.spec), (38, ni.spec), (87, ab7.spec), (88, vw.spec), (89, ab4.spec)], globs := GLO.gB, hints := [], loops := [], inl := [] } : Ctx)
theorem loops : dh (Tryd.f68.body.getD .skip) = [] := by kernel_rfl
noncomputable def au : Abs.Spec := fun args K => match args with
 | [.sl (.ints .u8 a), .v (.int .u64 b), .v (.int .u64 c), .sl (.rows .u8 d)] => P.y7 a b c d (fun e => K (.fr 5 (.ints .u8 e)))
 | _ => none
noncomputable def spec : Abs.Spec := fun args K => au (mo [.sl (.ints .u8 []), .any, .any, .sl (.rows .u8 [])] args) K
theorem ok0 : Proved Tryd.prog GLO.gB 68 au := by
 refine cu (D := D) (fn := Tryd.f68) (c := Tryd.f68.body.getD .skip) [.fr 5 (.ints .u8 [])] (by kernel_rfl) (aj (by kernel_rfl)) (by kernel_rfl) (by kernel_rfl) (by kernel_rfl) ⟨jq.ok, ni.ok, ab7.ok, vw.ok, ab4.ok, trivial⟩ trivial ?_ ?_
 · rw [loops]; exact trivial
 · intro args K r h
   unfold au at h
   split at h
   · rw [P.avo] at h; exact Eq.trans (by kernel_rfl) h
   · cases h
theorem ok : Proved Tryd.prog GLO.gB 68 spec := dz _ ok0
end y7

namespace aex
abbrev by5 := P.br1
def bpl : by5 → ASt := fun (d, a, e, b, c) => ⟨[(0, .yld 9 [5, 13, 14] [.ptr 1 0, .ptr 5 0, .ptr 6 0]), (4, .v (.int .u64 d))], [(1, some ⟨.box 23 [.sl (.ints .u8 a)], false⟩), (4, some ⟨.row 5 (.ints .u8 e), true⟩), (5, some ⟨.box 23 [.sl (.ints .u8 b)], false⟩), (6, some ⟨.box 23 [.sl (.ints .u8 c)], false⟩)], 840, 19⟩
def bx8 : ASt → Option by5
 | ⟨[(0, .yld 9 [5, 13, 14] [.ptr 1 0, .ptr 5 0, .ptr 6 0]), (4, .v (.int .u64 d))], [(1, some ⟨.box 23 [.sl (.ints .u8 a)], false⟩), (4, some ⟨.row 5 (.ints .u8 e), true⟩), (5, some ⟨.box 23 [.sl (.ints .u8 b)], false⟩), (6, some ⟨.box 23 [.sl (.ints .u8 c)], false⟩)], 840, 19⟩ => some (d, a, e, b, c)
 | _ => none
theorem bn5 (st) (x) (h : bx8 st = some x) : st = bpl x := by
 unfold bx8 at h
 split at h
 · cases h; rfl
 · cases h
abbrev Y2_1 := P.bvh
def bzh (K : AExit → ASt → Option R) : Y2_1 → Option R := (fun x => K (.exit 0) (bpl x))
noncomputable def L2_1 : sj := fun st K => ad3 (bx8 st) fun x => P.bvi x (bzh K)
noncomputable def D3 : Ctx := ({ P := Tryd.prog, G := [(32, iy.spec), (49, je.spec), (68, y7.spec), (75, jl.spec)], globs := GLO.gB, hints := [], loops := [], inl := [], y := some (bj9 (atq Tryd.f52 8) 74 false) } : Ctx)
noncomputable def D2 : Ctx := ({ P := Tryd.prog, G := [(32, iy.spec), (49, je.spec), (68, y7.spec), (75, jl.spec)], globs := GLO.gB, hints := [(1, ⟨[0, 4], [], [], [], some (840, [1, 4, 5, 6]), [1, 5, 6], [], []⟩)], loops := [(1, L2_1)], inl := [], y := some (bj9 (atq Tryd.f52 8) 74 true), ys := some (ayp D3 (bj9 (atq Tryd.f52 8) 74 true)) } : Ctx)
noncomputable def D1 : Ctx := ({ P := Tryd.prog, G := [(32, iy.spec), (49, je.spec), (68, y7.spec), (75, jl.spec)], globs := GLO.gB, hints := [], loops := [], inl := [] } : Ctx)
noncomputable def D : Ctx := ({ P := Tryd.prog, G := [(32, iy.spec), (49, je.spec), (68, y7.spec), (75, jl.spec)], globs := GLO.gB, hints := [], loops := [], inl := [(47, anl D1 Tryd.f47)], top := true, rng := [(8, ⟨73, 74, [5, 13, 14], anl D2 Tryd.f73⟩)] } : Ctx)
theorem bkj (K) (next) (x) : ko D2 (dw Tryd.f73 1) K next (bpl x) = P.bpq x (fun x => next (bpl x)) (bzh K) := by kernel_rfl
theorem boe : jm D2 (dw Tryd.f73 1) := fq bpl bn5 (by kernel_rfl) P.bzy bkj
theorem loops : dh (Tryd.f52.body.getD .skip) = [] := by kernel_rfl
theorem bhw : dh (Tryd.f47.body.getD .skip) = [] := by kernel_rfl
theorem br0 : dh (Tryd.f73.body.getD .skip) = [dw Tryd.f73 1] := by kernel_rfl
theorem bpd : dh (bte (atq Tryd.f52 8)) = [] := by kernel_rfl
theorem ranges : tq (Tryd.f52.body.getD .skip) = [atq Tryd.f52 8] := by kernel_rfl
theorem bjo : apl D2 (ayp D3 (bj9 (atq Tryd.f52 8) 74 true)) := bhl (Y := bj9 (atq Tryd.f52 8) 74 true) (azm (D := D3) ⟨iy.ok, je.ok, y7.ok, jl.ok, trivial⟩) (aj (by kernel_rfl)) (bah (D := D3) trivial (asi rfl)) (by kernel_rfl) rfl rfl (by kernel_rfl) (by kernel_rfl) rfl rfl rfl (aj7 _ (by rw [show dh (bj9 (atq Tryd.f52 8) 74 true).assign = [] from by kernel_rfl]; exact trivial)) (aj7 _ (by rw [show dh (bj9 (atq Tryd.f52 8) 74 true).body = dh (bte (atq Tryd.f52 8)) from by kernel_rfl, bpd]; exact trivial))
noncomputable def au : Abs.Spec := fun args K => match args with
 | [.agg [.v (.int .i64 a), .v (.int .i64 b)], .sl (.ints .u8 c), .sl (.ints .u8 d), .sl (.ints .u8 e)] => P.aex a b c d e (fun f => K (.sl (.ints .u8 f)))
 | _ => none
noncomputable def spec : Abs.Spec := fun args K => au (mo [.any, .sl (.ints .u8 []), .sl (.ints .u8 []), .sl (.ints .u8 [])] args) K
theorem ok0 : Proved Tryd.prog GLO.gB 52 au := by
 refine cu (D := D) (fn := Tryd.f52) (c := Tryd.f52.body.getD .skip) [.sl (.ints .u8 [])] (by kernel_rfl) (aj (by kernel_rfl)) (by kernel_rfl) (by kernel_rfl) (by kernel_rfl) ⟨iy.ok, je.ok, y7.ok, jl.ok, trivial⟩ ⟨bh7 (D := D1) (D' := D) (fn := Tryd.f47) (c := Tryd.f47.body.getD .skip) rfl rfl (by kernel_rfl) (aj (by kernel_rfl)) (by kernel_rfl) (by kernel_rfl) (by kernel_rfl) ⟨iy.ok, je.ok, y7.ok, jl.ok, trivial⟩ trivial (by rw [bhw]; exact trivial) (fun _ _ _ _ _ h => h), trivial⟩ ?_ ?_ (hRg := by rw [ranges]; exact ⟨be3 (D := D) (Di := D2) (e := ⟨73, 74, [5, 13, 14], anl D2 Tryd.f73⟩) (by kernel_rfl) rfl rfl (by kernel_rfl) (bh7 (D := D2) (D' := D2) (fn := Tryd.f73) (c := Tryd.f73.body.getD .skip) rfl rfl (by kernel_rfl) (aj (by kernel_rfl)) (by kernel_rfl) (by kernel_rfl) (by kernel_rfl) ⟨iy.ok, je.ok, y7.ok, jl.ok, trivial⟩ trivial (by rw [br0]; exact ⟨boe, trivial⟩) (fun _ _ _ _ _ h => h) rfl rfl (aq6 rfl _) (fun s hs => by have hs : some (ayp D3 (bj9 (atq Tryd.f52 8) 74 true)) = some s := hs; cases hs; exact bjo)), trivial⟩)
 · rw [loops]; exact trivial
 · intro args K r h
   unfold au at h
   split at h
   · rw [P.as6] at h; exact Eq.trans (by kernel_rfl) h
   · cases h
theorem ok : Proved Tryd.prog GLO.gB 52 spec := dz _ ok0
end aex

namespace vo
noncomputable def D : Ctx := ({ P := Tryd.prog, G := [(25, zq.spec), (32, iy.spec), (43, ae1.spec), (48, ow.spec), (50, lg.spec), (51, uh.spec), (52, aex.spec)], globs := GLO.gB, hints := [], loops := [], inl := [] } : Ctx)
theorem loops : dh (Tryd.f27.body.getD .skip) = [] := by kernel_rfl
noncomputable def au : Abs.Spec := fun args K => match args with
 | [.sl (.ints .u8 a), .sl (.ints .u8 b), .sl (.ints .u8 c)] => P.vo a b c (fun d => K (.v (.int .i64 d)))
 | _ => none
noncomputable def spec : Abs.Spec := fun args K => au (mo [.sl (.ints .u8 []), .sl (.ints .u8 []), .sl (.ints .u8 [])] args) K
theorem ok0 : Proved Tryd.prog GLO.gB 27 au := by
 refine cu (D := D) (fn := Tryd.f27) (c := Tryd.f27.body.getD .skip) [.any] (by kernel_rfl) (aj (by kernel_rfl)) (by kernel_rfl) (by kernel_rfl) (by kernel_rfl) ⟨zq.ok, iy.ok, ae1.ok, ow.ok, lg.ok, uh.ok, aex.ok, trivial⟩ trivial ?_ ?_
 · rw [loops]; exact trivial
 · intro args K r h
   unfold au at h
   split at h
   · rw [P.aoi] at h; exact Eq.trans (by kernel_rfl) h
   · cases h
theorem ok : Proved Tryd.prog GLO.gB 27 spec := dz _ ok0
end vo

namespace af9
noncomputable def D : Ctx := ({ P := Tryd.prog, G := [(25, zq.spec), (27, vo.spec)], globs := GLO.gB, hints := [], loops := [], inl := [] } : Ctx)
theorem loops : dh (Tryd.f33.body.getD .skip) = [] := by kernel_rfl
noncomputable def au : Abs.Spec := fun args K => match args with
 | [.sl (.ints .u8 a), .sl (.ints .u8 b), .sl (.ints .u8 c), .v (.bool d)] => P.af9 a b c d (fun e f g => K (.tuple [.sl (.ints .u8 e), .sl (.ints .u8 f), .v (.int .i64 g)]))
 | _ => none
noncomputable def spec : Abs.Spec := fun args K => au (mo [.sl (.ints .u8 []), .sl (.ints .u8 []), .sl (.ints .u8 []), .any] args) K
theorem ok0 : Proved Tryd.prog GLO.gB 33 au := by
 refine cu (D := D) (fn := Tryd.f33) (c := Tryd.f33.body.getD .skip) [.sl (.ints .u8 []), .sl (.ints .u8 []), .any] (by kernel_rfl) (aj (by kernel_rfl)) (by kernel_rfl) (by kernel_rfl) (by kernel_rfl) ⟨zq.ok, vo.ok, trivial⟩ trivial ?_ ?_
 · rw [loops]; exact trivial
 · intro args K r h
   unfold au at h
   split at h
   · rw [P.ar4] at h; exact Eq.trans (by kernel_rfl) h
   · cases h
theorem ok : Proved Tryd.prog GLO.gB 33 spec := dz _ ok0
end af9

namespace qw
abbrev X9 := P.bti
def S9 : X9 → ASt := fun (a, b, c, d) => ⟨[(1, .sl (.ints .u8 a)), (7, .v (.int .u64 b)), (8, .sl (.ints .u8 c)), (9, .sl (.ints .u8 d))], [], 0, 57⟩
def V9 : ASt → Option X9
 | ⟨[(1, .sl (.ints .u8 a)), (7, .v (.int .u64 b)), (8, .sl (.ints .u8 c)), (9, .sl (.ints .u8 d))], [], 0, 57⟩ => some (a, b, c, d)
 | _ => none
theorem arv (st) (x) (h : V9 st = some x) : st = S9 x := by
 unfold V9 at h
 split at h
 · cases h; rfl
 · cases h
abbrev Y9 := P.bwr
def E9 (K : AExit → ASt → Option R) : Y9 → Option R := (Sum.elim (fun x => K (.exit 1) (S9 x)) (fun a => K .ret ⟨[(6, .v (.int .i64 a))], [], 0, 57⟩))
noncomputable def L9 : sj := fun st K => ad3 (V9 st) fun x => P.bw2 x (E9 K)
noncomputable def D : Ctx := ({ P := Tryd.prog, G := [(32, iy.spec), (33, af9.spec)], globs := GLO.gB, hints := [(9, ⟨[1, 7, 8, 9], [], [6], [(8, .sl (.ints .u8 [])), (9, .sl (.ints .u8 []))], none, [], [], []⟩)], loops := [(9, L9)], inl := [] } : Ctx)
theorem ajg (K) (next) (x) : ko D (dw Tryd.f17 9) K next (S9 x) = P.bq5 x (fun x => next (S9 x)) (E9 K) := by kernel_rfl
theorem ati : jm D (dw Tryd.f17 9) := fq S9 arv (by kernel_rfl) P.bzv ajg
theorem loops : dh (Tryd.f17.body.getD .skip) = [dw Tryd.f17 9] := by kernel_rfl
noncomputable def au : Abs.Spec := fun args K => match args with
 | [.sl (.ints .u8 a), .sl (.ints .u8 b), .sl (.ints .u8 c)] => P.qw a b c (fun d => K (.v (.int .i64 d)))
 | _ => none
noncomputable def spec : Abs.Spec := fun args K => au (mo [.sl (.ints .u8 []), .sl (.ints .u8 []), .sl (.ints .u8 [])] args) K
theorem ok0 : Proved Tryd.prog GLO.gB 17 au := by
 refine cu (D := D) (fn := Tryd.f17) (c := Tryd.f17.body.getD .skip) [.any] (by kernel_rfl) (aj (by kernel_rfl)) (by kernel_rfl) (by kernel_rfl) (by kernel_rfl) ⟨iy.ok, af9.ok, trivial⟩ trivial ?_ ?_
 · rw [loops]; exact ⟨ati, trivial⟩
 · intro args K r h
   unfold au at h
   split at h
   · rw [P.ail] at h; exact Eq.trans (by kernel_rfl) h
   · cases h
theorem ok : Proved Tryd.prog GLO.gB 17 spec := dz _ ok0
end qw

namespace ql
noncomputable def D : Ctx := ({ P := Tryd.prog, G := [(10, abq.spec), (14, abo.spec), (17, qw.spec)], globs := GLO.gB, hints := [], loops := [], inl := [] } : Ctx)
theorem loops : dh (Tryd.f9.body.getD .skip) = [] := by kernel_rfl
noncomputable def au : Abs.Spec := fun args K => match args with
 | [] => P.ql (fun a => K (.v (.bool a)))
 | _ => none
noncomputable def spec : Abs.Spec := au
theorem ok0 : Proved Tryd.prog GLO.gB 9 au := by
 refine cu (D := D) (fn := Tryd.f9) (c := Tryd.f9.body.getD .skip) [.any] (by kernel_rfl) (aj (by kernel_rfl)) (by kernel_rfl) (by kernel_rfl) (by kernel_rfl) ⟨abq.ok, abo.ok, qw.ok, trivial⟩ trivial ?_ ?_
 · rw [loops]; exact trivial
 · intro args K r h
   unfold au at h
   split at h
   · rw [P.aqb] at h; exact Eq.trans (by kernel_rfl) h
   · cases h
theorem ok : Proved Tryd.prog GLO.gB 9 spec := ok0
end ql

namespace aep
abbrev X2 := P.zt1
def S2 : X2 → ASt := fun (a, b, c) => ⟨[(5, .sl (.rows .u8 a)), (6, .v (.int .i64 b)), (7, .v (.int .i64 c))], [], 0, 15⟩
def V2 : ASt → Option X2
 | ⟨[(5, .sl (.rows .u8 a)), (6, .v (.int .i64 b)), (7, .v (.int .i64 c))], [], 0, 15⟩ => some (a, b, c)
 | _ => none
theorem ax7 (st) (x) (h : V2 st = some x) : st = S2 x := by
 unfold V2 at h
 split at h
 · cases h; rfl
 · cases h
abbrev Y2 := P.zy1
def E2 (K : AExit → ASt → Option R) : Y2 → Option R := (Sum.elim (fun x => K (.exit 0) (S2 x)) (fun a => K .ret ⟨[(2, .v (.bool a))], [], 0, 15⟩))
noncomputable def L2 : sj := fun st K => ad3 (V2 st) fun x => P.zm1 x (E2 K)
noncomputable def D : Ctx := ({ P := Tryd.prog, G := [], globs := GLO.gB, hints := [(2, ⟨[5, 6, 7], [], [2], [], none, [], [], []⟩)], loops := [(2, L2)], inl := [] } : Ctx)
theorem ane (K) (next) (x) : ko D (dw Tryd.f8 2) K next (S2 x) = P.zs1 x (fun x => next (S2 x)) (E2 K) := by kernel_rfl
theorem axh : jm D (dw Tryd.f8 2) := fq S2 ax7 (by kernel_rfl) P.ze1 ane
theorem loops : dh (Tryd.f8.body.getD .skip) = [dw Tryd.f8 2] := by kernel_rfl
noncomputable def au : Abs.Spec := fun args K => match args with
 | [.sl (.rows .u8 a)] => P.aep a (fun b => K (.v (.bool b)))
 | _ => none
noncomputable def spec : Abs.Spec := fun args K => au (mo [.sl (.rows .u8 [])] args) K
theorem ok0 : Proved Tryd.prog GLO.gB 8 au := by
 refine cu (D := D) (fn := Tryd.f8) (c := Tryd.f8.body.getD .skip) [.any] (by kernel_rfl) (aj (by kernel_rfl)) (by kernel_rfl) (by kernel_rfl) (by kernel_rfl) trivial trivial ?_ ?_
 · rw [loops]; exact ⟨axh, trivial⟩
 · intro args K r h
   unfold au at h
   split at h
   · rw [P.ava] at h; exact Eq.trans (by kernel_rfl) h
   · cases h
theorem ok : Proved Tryd.prog GLO.gB 8 spec := dz _ ok0
end aep

namespace oh
abbrev X3 := P.bqg
def S3 : X3 → ASt := fun (a, b, c) => ⟨[(0, .sl (.ints .u8 a)), (3, .v (.int .u64 b)), (4, .v (.int .i64 c))], [], 0, 20⟩
def V3 : ASt → Option X3
 | ⟨[(0, .sl (.ints .u8 a)), (3, .v (.int .u64 b)), (4, .v (.int .i64 c))], [], 0, 20⟩ => some (a, b, c)
 | _ => none
theorem apk (st) (x) (h : V3 st = some x) : st = S3 x := by
 unfold V3 at h
 split at h
 · cases h; rfl
 · cases h
abbrev Y3 := P.bus
def E3 (K : AExit → ASt → Option R) : Y3 → Option R := (fun x => K (.exit 0) (S3 x))
noncomputable def L3 : sj := fun st K => ad3 (V3 st) fun x => P.buo x (E3 K)
noncomputable def D : Ctx := ({ P := Tryd.prog, G := [], globs := GLO.gB, hints := [(3, ⟨[0, 3, 4], [], [2], [], none, [], [], []⟩)], loops := [(3, L3)], inl := [] } : Ctx)
theorem ahc (K) (next) (x) : ko D (dw Tryd.f34 3) K next (S3 x) = P.bpc x (fun x => next (S3 x)) (E3 K) := by kernel_rfl
theorem ao0 : jm D (dw Tryd.f34 3) := fq S3 apk (by kernel_rfl) P.bzt ahc
theorem loops : dh (Tryd.f34.body.getD .skip) = [dw Tryd.f34 3] := by kernel_rfl
noncomputable def au : Abs.Spec := fun args K => match args with
 | [.sl (.ints .u8 a)] => P.oh a (fun b => K (.v (.int .u64 b)))
 | _ => none
noncomputable def spec : Abs.Spec := fun args K => au (mo [.sl (.ints .u8 [])] args) K
theorem ok0 : Proved Tryd.prog GLO.gB 34 au := by
 refine cu (D := D) (fn := Tryd.f34) (c := Tryd.f34.body.getD .skip) [.any] (by kernel_rfl) (aj (by kernel_rfl)) (by kernel_rfl) (by kernel_rfl) (by kernel_rfl) trivial trivial ?_ ?_
 · rw [loops]; exact ⟨ao0, trivial⟩
 · intro args K r h
   unfold au at h
   split at h
   · rw [P.avb] at h; exact Eq.trans (by kernel_rfl) h
   · cases h
theorem ok : Proved Tryd.prog GLO.gB 34 spec := dz _ ok0
end oh

namespace ny
noncomputable def D : Ctx := ({ P := Tryd.prog, G := [], globs := GLO.gB, hints := [], loops := [], inl := [] } : Ctx)
theorem loops : dh (Tryd.f76.body.getD .skip) = [] := by kernel_rfl
noncomputable def au : Abs.Spec := fun args K => match args with
 | [.v (.int .i64 a)] => P.ny a (fun b c d => K (.tuple [.v (.int .i64 b), .v (.int .i64 c), .v (.int .u64 d)]))
 | _ => none
noncomputable def spec : Abs.Spec := au
theorem ok0 : Proved Tryd.prog GLO.gB 76 au := by
 refine cu (D := D) (fn := Tryd.f76) (c := Tryd.f76.body.getD .skip) [.any, .any, .any] (by kernel_rfl) (aj (by kernel_rfl)) (by kernel_rfl) (by kernel_rfl) (by kernel_rfl) trivial trivial ?_ ?_
 · rw [loops]; exact trivial
 · intro args K r h
   unfold au at h
   split at h
   · rw [P.aa4] at h; exact Eq.trans (by kernel_rfl) h
   · cases h
theorem ok : Proved Tryd.prog GLO.gB 76 spec := ok0
end ny

namespace qp
noncomputable def D : Ctx := ({ P := Tryd.prog, G := [(76, ny.spec)], globs := GLO.gB, hints := [], loops := [], inl := [] } : Ctx)
theorem loops : dh (Tryd.f55.body.getD .skip) = [] := by kernel_rfl
noncomputable def au : Abs.Spec := fun args K => match args with
 | [.v (.int .i64 a)] => P.qp a (fun b => K (.v (.int .i64 b)))
 | _ => none
noncomputable def spec : Abs.Spec := au
theorem ok0 : Proved Tryd.prog GLO.gB 55 au := by
 refine cu (D := D) (fn := Tryd.f55) (c := Tryd.f55.body.getD .skip) [.any] (by kernel_rfl) (aj (by kernel_rfl)) (by kernel_rfl) (by kernel_rfl) (by kernel_rfl) ⟨ny.ok, trivial⟩ trivial ?_ ?_
 · rw [loops]; exact trivial
 · intro args K r h
   unfold au at h
   split at h
   · rw [P.al3] at h; exact Eq.trans (by kernel_rfl) h
   · cases h
theorem ok : Proved Tryd.prog GLO.gB 55 spec := ok0
end qp

namespace ou
abbrev X2 := P.bwg
def S2 : X2 → ASt := fun (a, b) => ⟨[(0, .v (.int .u64 a)), (3, .v (.int .i64 b))], [], 0, 25⟩
def V2 : ASt → Option X2
 | ⟨[(0, .v (.int .u64 a)), (3, .v (.int .i64 b))], [], 0, 25⟩ => some (a, b)
 | _ => none
theorem ax7 (st) (x) (h : V2 st = some x) : st = S2 x := by
 unfold V2 at h
 split at h
 · cases h; rfl
 · cases h
abbrev Y2 := P.btt
def E2 (K : AExit → ASt → Option R) : Y2 → Option R := (Sum.elim (fun x => K (.exit 0) (S2 x)) (fun a => K .ret ⟨[(2, .v (.int .i64 a))], [], 0, 25⟩))
noncomputable def L2 : sj := fun st K => ad3 (V2 st) fun x => P.byg x (E2 K)
noncomputable def D : Ctx := ({ P := Tryd.prog, G := [(76, ny.spec)], globs := GLO.gB, hints := [(2, ⟨[0, 3], [], [2], [], none, [], [], []⟩)], loops := [(2, L2)], inl := [] } : Ctx)
theorem ane (K) (next) (x) : ko D (dw Tryd.f56 2) K next (S2 x) = P.bpb x (fun x => next (S2 x)) (E2 K) := by kernel_rfl
theorem axh : jm D (dw Tryd.f56 2) := fq S2 ax7 (by kernel_rfl) P.b0k ane
theorem loops : dh (Tryd.f56.body.getD .skip) = [dw Tryd.f56 2] := by kernel_rfl
noncomputable def au : Abs.Spec := fun args K => match args with
 | [.v (.int .u64 a)] => P.ou a (fun b => K (.v (.int .i64 b)))
 | _ => none
noncomputable def spec : Abs.Spec := au
theorem ok0 : Proved Tryd.prog GLO.gB 56 au := by
 refine cu (D := D) (fn := Tryd.f56) (c := Tryd.f56.body.getD .skip) [.any] (by kernel_rfl) (aj (by kernel_rfl)) (by kernel_rfl) (by kernel_rfl) (by kernel_rfl) ⟨ny.ok, trivial⟩ trivial ?_ ?_
 · rw [loops]; exact ⟨axh, trivial⟩
 · intro args K r h
   unfold au at h
   split at h
   · rw [P.aqe] at h; exact Eq.trans (by kernel_rfl) h
   · cases h
theorem ok : Proved Tryd.prog GLO.gB 56 spec := ok0
end ou

namespace uo
noncomputable def D : Ctx := ({ P := Tryd.prog, G := [], globs := GLO.gB, hints := [], loops := [], inl := [] } : Ctx)
theorem loops : dh (Tryd.f54.body.getD .skip) = [] := by kernel_rfl
noncomputable def au : Abs.Spec := fun args K => match args with
 | [.v (.int .i64 a)] => P.uo a (fun b => K (.v (.int .u64 b)))
 | _ => none
noncomputable def spec : Abs.Spec := au
theorem ok0 : Proved Tryd.prog GLO.gB 54 au := by
 refine cu (D := D) (fn := Tryd.f54) (c := Tryd.f54.body.getD .skip) [.any] (by kernel_rfl) (aj (by kernel_rfl)) (by kernel_rfl) (by kernel_rfl) (by kernel_rfl) trivial trivial ?_ ?_
 · rw [loops]; exact trivial
 · intro args K r h
   unfold au at h
   split at h
   · rw [P.al4] at h; exact Eq.trans (by kernel_rfl) h
   · cases h
theorem ok : Proved Tryd.prog GLO.gB 54 spec := ok0
end uo

end
