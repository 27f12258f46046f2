/-
  HssOnce, part 15: an interpreter of my own over abstract values, the pure functions, the walks and the plain law.
-/

import Derived.Test.YtmipokjdajiimaaDoorHssOnceK
import Derived.Test.YtmipokjdajiimaaDoorHssOnceH
import Derived.Test.YtmipokjdajiimaaDoorProg
import Derived.Test.YtmipokjdajiimaaDoorHssOnceJ
import Derived.Test.YtmipokjdajiimaaDoorHssOnceM
import Derived.Test.YtmipokjdajiimaaDoorHssOnceN
import Derived.Test.YtmipokjdajiimaaDoorHssOnceL
import Derived.KernelRfl
import Derived.Test.YtmipokjdajiimaaDoorHssOnceI

section
open Go Go.Abs Go.Proofs
set_option maxRecDepth 100000
set_option maxHeartbeats 0
set_option linter.unusedVariables false

namespace vv
abbrev X9 := P.bgr
def S9 : X9 → ASt := fun (f, g, d, e, a, b, c, h) => ⟨[(0, .v (.int .i64 f)), (6, .ptr 0 0), (8, .own 1), (9, .v (.int .u64 g)), (36, .own 1), (37, .v (.int .i64 d)), (38, .v (.int .i64 e))], [(0, some ⟨.box 101 [.v (.int .i64 a), .v (.int .i64 b), .v (.int .i64 c)], false⟩), (1, some ⟨.row 42 (.ints .u32 h), false⟩)], 2, 61⟩
def V9 : ASt → Option X9
 | ⟨[(0, .v (.int .i64 f)), (6, .ptr 0 0), (8, .own 1), (9, .v (.int .u64 g)), (36, .own 1), (37, .v (.int .i64 d)), (38, .v (.int .i64 e))], [(0, some ⟨.box 101 [.v (.int .i64 a), .v (.int .i64 b), .v (.int .i64 c)], false⟩), (1, some ⟨.row 42 (.ints .u32 h), false⟩)], 2, 61⟩ => some (f, g, d, e, a, b, c, h)
 | _ => none
theorem azu (st) (x) (h : V9 st = some x) : st = S9 x := by
 unfold V9 at h
 split at h
 · cases h; rfl
 · cases h
abbrev Y9 := P.bjd
def E9 (K : AExit → ASt → Option R) : Y9 → Option R := (fun x => K (.exit 1) (S9 x))
noncomputable def L9 : wz := fun st K => afx (V9 st) fun x => P.bj0 x (E9 K)
noncomputable def D : Ctx := ({ P := Tryd.prog, G := [(38, mo.spec), (74, l6.spec), (102, qo.spec)], globs := GLO.gB, hints := [(9, ⟨[0, 6, 8, 9, 36, 37, 38], [], [4, 5], [], none, [], [], []⟩)], loops := [(9, L9)], inl := [] } : Ctx)
theorem arz (K) (next) (x) : oq D (dx Tryd.f91 9) K next (S9 x) = P.bh9 x (fun x => next (S9 x)) (E9 K) := by kernel_rfl
theorem ay1 : l7 D (dx Tryd.f91 9) := jd S9 azu (by kernel_rfl) P.bm8 arz
theorem loops : bn (Tryd.f91.body.getD .skip) = [dx Tryd.f91 9] := by kernel_rfl
noncomputable def av : Abs.Spec := fun args K => match args with
 | [.v (.int .i64 a), .sl (.ints .u8 b)] => P.vv a b (fun c d => K (.tuple [.fr 42 (.ints .u32 c), .v (.int .i64 d)]))
 | _ => none
noncomputable def spec : Abs.Spec := fun args K => av (pq [.any, .sl (.ints .u8 [])] args) K
theorem ok0 : Proved Tryd.prog GLO.gB 91 av := by
 refine cu (D := D) (fn := Tryd.f91) (c := Tryd.f91.body.getD .skip) [.fr 42 (.ints .u32 []), .any] (by kernel_rfl) (ah (by kernel_rfl)) (by kernel_rfl) (by kernel_rfl) (by kernel_rfl) ⟨mo.ok, l6.ok, qo.ok, trivial⟩ trivial ?_ ?_
 · rw [loops]; exact ⟨ay1, trivial⟩
 · intro args K r h
   unfold av at h
   split at h
   · rw [P.anr] at h; exact Eq.trans (by kernel_rfl) h
   · cases h
theorem ok : Proved Tryd.prog GLO.gB 91 spec := dz _ ok0
end vv

namespace l5
noncomputable def D : Ctx := ({ P := Tryd.prog, G := [(86, jq.spec), (91, vv.spec)], globs := GLO.gB, hints := [], loops := [], inl := [] } : Ctx)
theorem loops : bn (Tryd.f71.body.getD .skip) = [] := by kernel_rfl
noncomputable def av : Abs.Spec := fun args K => match args with
 | [.agg [.v (.int .i64 e), .sl (.ints .u8 d), .v (.int .u32 f), .v (.int .i64 a), .v (.int .i64 b), .v (.int .i64 c)], .sl (.ints .u8 g), .sl (.ints .u8 h)] => P.l5 e d f a b c g h (fun i => K (.fr 42 (.ints .u32 i)))
 | _ => none
noncomputable def spec : Abs.Spec := fun args K => av (pq [.agg [.any, .sl (.ints .u8 []), .any, .any, .any, .any], .sl (.ints .u8 []), .sl (.ints .u8 [])] args) K
theorem ok0 : Proved Tryd.prog GLO.gB 71 av := by
 refine cu (D := D) (fn := Tryd.f71) (c := Tryd.f71.body.getD .skip) [.fr 42 (.ints .u32 [])] (by kernel_rfl) (ah (by kernel_rfl)) (by kernel_rfl) (by kernel_rfl) (by kernel_rfl) ⟨jq.ok, vv.ok, trivial⟩ trivial ?_ ?_
 · rw [loops]; exact trivial
 · intro args K r h
   unfold av at h
   split at h
   · rw [P.afw] at h; exact Eq.trans (by kernel_rfl) h
   · cases h
theorem ok : Proved Tryd.prog GLO.gB 71 spec := dz _ ok0
end l5

namespace oo
noncomputable def D : Ctx := ({ P := Tryd.prog, G := [], globs := GLO.gB, hints := [], loops := [], inl := [] } : Ctx)
theorem loops : bn (Tryd.f85.body.getD .skip) = [] := by kernel_rfl
noncomputable def av : Abs.Spec := fun args K => match args with
 | [.agg [.v (.int .i64 e), .sl (.ints .u8 d), .v (.int .u32 f), .v (.int .i64 a), .v (.int .i64 b), .v (.int .i64 c)]] => P.oo e d f a b c (fun g => K (.v (.int .u32 g)))
 | _ => none
noncomputable def spec : Abs.Spec := fun args K => av (pq [.agg [.any, .sl (.ints .u8 []), .any, .any, .any, .any]] args) K
theorem ok0 : Proved Tryd.prog GLO.gB 85 av := by
 refine cu (D := D) (fn := Tryd.f85) (c := Tryd.f85.body.getD .skip) [.any] (by kernel_rfl) (ah (by kernel_rfl)) (by kernel_rfl) (by kernel_rfl) (by kernel_rfl) trivial trivial ?_ ?_
 · rw [loops]; exact trivial
 · intro args K r h
   unfold av at h
   split at h
   · rw [P.aib] at h; exact Eq.trans (by kernel_rfl) h
   · cases h
theorem ok : Proved Tryd.prog GLO.gB 85 spec := dz _ ok0
end oo

namespace ji
abbrev X9 := P.bgp
def S9 : X9 → ASt := fun (g, h, i, j, a, b, c, d, e, f, k) => ⟨[(14, .own 2), (12, .ptr 0 0), (15, .sl (.ints .u8 g)), (51, .own 1), (52, .v (.int .i64 h)), (53, .v (.int .i64 i))], [(2, some ⟨.row 5 (.ints .u8 j), false⟩), (0, some ⟨.box 103 [.v (.int .i64 a), .sl (.ints .u8 b), .v (.int .u32 c), .v (.int .i64 d), .v (.int .i64 e), .v (.int .i64 f)], false⟩), (1, some ⟨.row 42 (.ints .u32 k), false⟩)], 3, 77⟩
def V9 : ASt → Option X9
 | ⟨[(14, .own 2), (12, .ptr 0 0), (15, .sl (.ints .u8 g)), (51, .own 1), (52, .v (.int .i64 h)), (53, .v (.int .i64 i))], [(2, some ⟨.row 5 (.ints .u8 j), false⟩), (0, some ⟨.box 103 [.v (.int .i64 a), .sl (.ints .u8 b), .v (.int .u32 c), .v (.int .i64 d), .v (.int .i64 e), .v (.int .i64 f)], false⟩), (1, some ⟨.row 42 (.ints .u32 k), false⟩)], 3, 77⟩ => some (g, h, i, j, a, b, c, d, e, f, k)
 | _ => none
theorem azu (st) (x) (h : V9 st = some x) : st = S9 x := by
 unfold V9 at h
 split at h
 · cases h; rfl
 · cases h
abbrev Y9 := P.blr
def E9 (K : AExit → ASt → Option R) : Y9 → Option R := (fun x => K (.exit 1) (S9 x))
noncomputable def L9 : wz := fun st K => afx (V9 st) fun x => P.bl1 x (E9 K)
noncomputable def D : Ctx := ({ P := Tryd.prog, G := [(32, iw.spec), (49, jg.spec), (71, l5.spec), (72, om.spec), (85, oo.spec), (86, jq.spec), (90, zq.spec)], globs := GLO.gB, hints := [(9, ⟨[12, 15, 51, 52, 53], [(14, 5, .ints .u8 [])], [10, 11], [(15, .sl (.ints .u8 []))], none, [], [], []⟩)], loops := [(9, L9)], inl := [] } : Ctx)
theorem arz (K) (next) (x) : oq D (dx Tryd.f75 9) K next (S9 x) = P.bi1 x (fun x => next (S9 x)) (E9 K) := by kernel_rfl
theorem ay1 : l7 D (dx Tryd.f75 9) := jd S9 azu (by kernel_rfl) P.bns arz
theorem loops : bn (Tryd.f75.body.getD .skip) = [dx Tryd.f75 9] := by kernel_rfl
noncomputable def av : Abs.Spec := fun args K => match args with
 | [.v (.int .i64 a), .sl (.ints .u8 b), .v (.int .u32 c), .sl (.ints .u8 d), .sl (.ints .u8 e)] => P.ji a b c d e (fun f g => K (.tuple [.fr 5 (.ints .u8 f), .v (.int .i64 g)]))
 | _ => none
noncomputable def spec : Abs.Spec := fun args K => av (pq [.any, .sl (.ints .u8 []), .any, .sl (.ints .u8 []), .sl (.ints .u8 [])] args) K
theorem ok0 : Proved Tryd.prog GLO.gB 75 av := by
 refine cu (D := D) (fn := Tryd.f75) (c := Tryd.f75.body.getD .skip) [.fr 5 (.ints .u8 []), .any] (by kernel_rfl) (ah (by kernel_rfl)) (by kernel_rfl) (by kernel_rfl) (by kernel_rfl) ⟨iw.ok, jg.ok, l5.ok, om.ok, oo.ok, jq.ok, zq.ok, trivial⟩ trivial ?_ ?_
 · rw [loops]; exact ⟨ay1, trivial⟩
 · intro args K r h
   unfold av at h
   split at h
   · rw [P.ajh] at h; exact Eq.trans (by kernel_rfl) h
   · cases h
theorem ok : Proved Tryd.prog GLO.gB 75 spec := dz _ ok0
end ji

namespace yu
noncomputable def D : Ctx := ({ P := Tryd.prog, G := [(37, jv.spec), (38, mo.spec), (87, abb.spec), (88, uh.spec), (89, aa7.spec)], globs := GLO.gB, hints := [], loops := [], inl := [] } : Ctx)
theorem loops : bn (Tryd.f68.body.getD .skip) = [] := by kernel_rfl
noncomputable def av : Abs.Spec := fun args K => match args with
 | [.sl (.ints .u8 a), .v (.int .u64 b), .v (.int .u64 c), .sl (.rows .u8 d)] => P.yu a b c d (fun e => K (.fr 5 (.ints .u8 e)))
 | _ => none
noncomputable def spec : Abs.Spec := fun args K => av (pq [.sl (.ints .u8 []), .any, .any, .sl (.rows .u8 [])] args) K
theorem ok0 : Proved Tryd.prog GLO.gB 68 av := by
 refine cu (D := D) (fn := Tryd.f68) (c := Tryd.f68.body.getD .skip) [.fr 5 (.ints .u8 [])] (by kernel_rfl) (ah (by kernel_rfl)) (by kernel_rfl) (by kernel_rfl) (by kernel_rfl) ⟨jv.ok, mo.ok, abb.ok, uh.ok, aa7.ok, trivial⟩ trivial ?_ ?_
 · rw [loops]; exact trivial
 · intro args K r h
   unfold av at h
   split at h
   · rw [P.aow] at h; exact Eq.trans (by kernel_rfl) h
   · cases h
theorem ok : Proved Tryd.prog GLO.gB 68 spec := dz _ ok0
end yu

namespace ad4
abbrev bm7 := P.bgf
def bgu : bm7 → ASt := fun (d, a, e, b, c) => ⟨[(0, .yld 9 [5, 13, 14] [.ptr 1 0, .ptr 5 0, .ptr 6 0]), (4, .v (.int .u64 d))], [(1, some ⟨.box 23 [.sl (.ints .u8 a)], false⟩), (4, some ⟨.row 5 (.ints .u8 e), true⟩), (5, some ⟨.box 23 [.sl (.ints .u8 b)], false⟩), (6, some ⟨.box 23 [.sl (.ints .u8 c)], false⟩)], 840, 19⟩
def bky : ASt → Option bm7
 | ⟨[(0, .yld 9 [5, 13, 14] [.ptr 1 0, .ptr 5 0, .ptr 6 0]), (4, .v (.int .u64 d))], [(1, some ⟨.box 23 [.sl (.ints .u8 a)], false⟩), (4, some ⟨.row 5 (.ints .u8 e), true⟩), (5, some ⟨.box 23 [.sl (.ints .u8 b)], false⟩), (6, some ⟨.box 23 [.sl (.ints .u8 c)], false⟩)], 840, 19⟩ => some (d, a, e, b, c)
 | _ => none
theorem bfe (st) (x) (h : bky st = some x) : st = bgu x := by
 unfold bky at h
 split at h
 · cases h; rfl
 · cases h
abbrev Y2_1 := P.bjh
def bmv (K : AExit → ASt → Option R) : Y2_1 → Option R := (fun x => K (.exit 0) (bgu x))
noncomputable def L2_1 : wz := fun st K => afx (bky st) fun x => P.bk0 x (bmv K)
noncomputable def D3 : Ctx := ({ P := Tryd.prog, G := [(32, iw.spec), (49, jg.spec), (68, yu.spec), (75, ji.spec)], globs := GLO.gB, hints := [], loops := [], inl := [], y := some (bbn (anj Tryd.f52 8) 74 false) } : Ctx)
noncomputable def D2 : Ctx := ({ P := Tryd.prog, G := [(32, iw.spec), (49, jg.spec), (68, yu.spec), (75, ji.spec)], globs := GLO.gB, hints := [(1, ⟨[0, 4], [], [], [], some (840, [1, 4, 5, 6]), [1, 5, 6], [], []⟩)], loops := [(1, L2_1)], inl := [], y := some (bbn (anj Tryd.f52 8) 74 true), ys := some (ars D3 (bbn (anj Tryd.f52 8) 74 true)) } : Ctx)
noncomputable def D1 : Ctx := ({ P := Tryd.prog, G := [(32, iw.spec), (49, jg.spec), (68, yu.spec), (75, ji.spec)], globs := GLO.gB, hints := [], loops := [], inl := [] } : Ctx)
noncomputable def D : Ctx := ({ P := Tryd.prog, G := [(32, iw.spec), (49, jg.spec), (68, yu.spec), (75, ji.spec)], globs := GLO.gB, hints := [], loops := [], inl := [(47, ajb D1 Tryd.f47)], top := true, rng := [(8, ⟨73, 74, [5, 13, 14], ajb D2 Tryd.f73⟩)] } : Ctx)
theorem bbr (K) (next) (x) : oq D2 (dx Tryd.f73 1) K next (bgu x) = P.biq x (fun x => next (bgu x)) (bmv K) := by kernel_rfl
theorem ber : l7 D2 (dx Tryd.f73 1) := jd bgu bfe (by kernel_rfl) P.bnj bbr
theorem loops : bn (Tryd.f52.body.getD .skip) = [] := by kernel_rfl
theorem bay : bn (Tryd.f47.body.getD .skip) = [] := by kernel_rfl
theorem bhp : bn (Tryd.f73.body.getD .skip) = [dx Tryd.f73 1] := by kernel_rfl
theorem bg7 : bn (bil (anj Tryd.f52 8)) = [] := by kernel_rfl
theorem ranges : o7 (Tryd.f52.body.getD .skip) = [anj Tryd.f52 8] := by kernel_rfl
theorem bcy : akh D2 (ars D3 (bbn (anj Tryd.f52 8) 74 true)) := ay5 (Y := bbn (anj Tryd.f52 8) 74 true) (aro (D := D3) ⟨iw.ok, jg.ok, yu.ok, ji.ok, trivial⟩) (ah (by kernel_rfl)) (ar0 (D := D3) trivial (am4 rfl)) (by kernel_rfl) rfl rfl (by kernel_rfl) (by kernel_rfl) rfl rfl rfl (agx _ (by rw [show bn (bbn (anj Tryd.f52 8) 74 true).assign = [] from by kernel_rfl]; exact trivial)) (agx _ (by rw [show bn (bbn (anj Tryd.f52 8) 74 true).body = bn (bil (anj Tryd.f52 8)) from by kernel_rfl, bg7]; exact trivial))
noncomputable def av : Abs.Spec := fun args K => match args with
 | [.agg [.v (.int .i64 a), .v (.int .i64 b)], .sl (.ints .u8 c), .sl (.ints .u8 d), .sl (.ints .u8 e)] => P.ad4 a b c d e (fun f => K (.sl (.ints .u8 f)))
 | _ => none
noncomputable def spec : Abs.Spec := fun args K => av (pq [.any, .sl (.ints .u8 []), .sl (.ints .u8 []), .sl (.ints .u8 [])] args) K
theorem ok0 : Proved Tryd.prog GLO.gB 52 av := by
 refine cu (D := D) (fn := Tryd.f52) (c := Tryd.f52.body.getD .skip) [.sl (.ints .u8 [])] (by kernel_rfl) (ah (by kernel_rfl)) (by kernel_rfl) (by kernel_rfl) (by kernel_rfl) ⟨iw.ok, jg.ok, yu.ok, ji.ok, trivial⟩ ⟨bav (D := D1) (D' := D) (fn := Tryd.f47) (c := Tryd.f47.body.getD .skip) rfl rfl (by kernel_rfl) (ah (by kernel_rfl)) (by kernel_rfl) (by kernel_rfl) (by kernel_rfl) ⟨iw.ok, jg.ok, yu.ok, ji.ok, trivial⟩ trivial (by rw [bay]; exact trivial) (fun _ _ _ _ _ h => h), trivial⟩ ?_ ?_ (hRg := by rw [ranges]; exact ⟨ax7 (D := D) (Di := D2) (e := ⟨73, 74, [5, 13, 14], ajb D2 Tryd.f73⟩) (by kernel_rfl) rfl rfl (by kernel_rfl) (bav (D := D2) (D' := D2) (fn := Tryd.f73) (c := Tryd.f73.body.getD .skip) rfl rfl (by kernel_rfl) (ah (by kernel_rfl)) (by kernel_rfl) (by kernel_rfl) (by kernel_rfl) ⟨iw.ok, jg.ok, yu.ok, ji.ok, trivial⟩ trivial (by rw [bhp]; exact ⟨ber, trivial⟩) (fun _ _ _ _ _ h => h) rfl rfl (aly rfl _) (fun s hs => by have hs : some (ars D3 (bbn (anj Tryd.f52 8) 74 true)) = some s := hs; cases hs; exact bcy)), trivial⟩)
 · rw [loops]; exact trivial
 · intro args K r h
   unfold av at h
   split at h
   · rw [P.auz] at h; exact Eq.trans (by kernel_rfl) h
   · cases h
theorem ok : Proved Tryd.prog GLO.gB 52 spec := dz _ ok0
end ad4

namespace aak
noncomputable def D : Ctx := ({ P := Tryd.prog, G := [(25, abz.spec), (32, iw.spec), (43, aea.spec), (48, uf.spec), (50, qc.spec), (51, zi.spec), (52, ad4.spec)], globs := GLO.gB, hints := [], loops := [], inl := [] } : Ctx)
theorem loops : bn (Tryd.f27.body.getD .skip) = [] := by kernel_rfl
noncomputable def av : Abs.Spec := fun args K => match args with
 | [.sl (.ints .u8 a), .sl (.ints .u8 b), .sl (.ints .u8 c)] => P.aak a b c (fun d => K (.v (.int .i64 d)))
 | _ => none
noncomputable def spec : Abs.Spec := fun args K => av (pq [.sl (.ints .u8 []), .sl (.ints .u8 []), .sl (.ints .u8 [])] args) K
theorem ok0 : Proved Tryd.prog GLO.gB 27 av := by
 refine cu (D := D) (fn := Tryd.f27) (c := Tryd.f27.body.getD .skip) [.any] (by kernel_rfl) (ah (by kernel_rfl)) (by kernel_rfl) (by kernel_rfl) (by kernel_rfl) ⟨abz.ok, iw.ok, aea.ok, uf.ok, qc.ok, zi.ok, ad4.ok, trivial⟩ trivial ?_ ?_
 · rw [loops]; exact trivial
 · intro args K r h
   unfold av at h
   split at h
   · rw [P.aqk] at h; exact Eq.trans (by kernel_rfl) h
   · cases h
theorem ok : Proved Tryd.prog GLO.gB 27 spec := dz _ ok0
end aak

namespace ad6
noncomputable def D : Ctx := ({ P := Tryd.prog, G := [(25, abz.spec), (27, aak.spec)], globs := GLO.gB, hints := [], loops := [], inl := [] } : Ctx)
theorem loops : bn (Tryd.f33.body.getD .skip) = [] := by kernel_rfl
noncomputable def av : Abs.Spec := fun args K => match args with
 | [.sl (.ints .u8 a), .sl (.ints .u8 b), .sl (.ints .u8 c), .v (.bool d)] => P.ad6 a b c d (fun e f g => K (.tuple [.sl (.ints .u8 e), .sl (.ints .u8 f), .v (.int .i64 g)]))
 | _ => none
noncomputable def spec : Abs.Spec := fun args K => av (pq [.sl (.ints .u8 []), .sl (.ints .u8 []), .sl (.ints .u8 []), .any] args) K
theorem ok0 : Proved Tryd.prog GLO.gB 33 av := by
 refine cu (D := D) (fn := Tryd.f33) (c := Tryd.f33.body.getD .skip) [.sl (.ints .u8 []), .sl (.ints .u8 []), .any] (by kernel_rfl) (ah (by kernel_rfl)) (by kernel_rfl) (by kernel_rfl) (by kernel_rfl) ⟨abz.ok, aak.ok, trivial⟩ trivial ?_ ?_
 · rw [loops]; exact trivial
 · intro args K r h
   unfold av at h
   split at h
   · rw [P.auw] at h; exact Eq.trans (by kernel_rfl) h
   · cases h
theorem ok : Proved Tryd.prog GLO.gB 33 spec := dz _ ok0
end ad6

namespace aai
abbrev X9 := P.bi6
def S9 : X9 → ASt := fun (a, b, c, d) => ⟨[(1, .sl (.ints .u8 a)), (7, .v (.int .u64 b)), (8, .sl (.ints .u8 c)), (9, .sl (.ints .u8 d))], [], 0, 57⟩
def V9 : ASt → Option X9
 | ⟨[(1, .sl (.ints .u8 a)), (7, .v (.int .u64 b)), (8, .sl (.ints .u8 c)), (9, .sl (.ints .u8 d))], [], 0, 57⟩ => some (a, b, c, d)
 | _ => none
theorem azu (st) (x) (h : V9 st = some x) : st = S9 x := by
 unfold V9 at h
 split at h
 · cases h; rfl
 · cases h
abbrev Y9 := P.bjw
def E9 (K : AExit → ASt → Option R) : Y9 → Option R := (Sum.elim (fun x => K (.exit 1) (S9 x)) (fun a => K .ret ⟨[(6, .v (.int .i64 a))], [], 0, 57⟩))
noncomputable def L9 : wz := fun st K => afx (V9 st) fun x => P.bln x (E9 K)
noncomputable def D : Ctx := ({ P := Tryd.prog, G := [(32, iw.spec), (33, ad6.spec)], globs := GLO.gB, hints := [(9, ⟨[1, 7, 8, 9], [], [6], [(8, .sl (.ints .u8 [])), (9, .sl (.ints .u8 []))], none, [], [], []⟩)], loops := [(9, L9)], inl := [] } : Ctx)
theorem arz (K) (next) (x) : oq D (dx Tryd.f17 9) K next (S9 x) = P.bii x (fun x => next (S9 x)) (E9 K) := by kernel_rfl
theorem ay1 : l7 D (dx Tryd.f17 9) := jd S9 azu (by kernel_rfl) P.bmp arz
theorem loops : bn (Tryd.f17.body.getD .skip) = [dx Tryd.f17 9] := by kernel_rfl
noncomputable def av : Abs.Spec := fun args K => match args with
 | [.sl (.ints .u8 a), .sl (.ints .u8 b), .sl (.ints .u8 c)] => P.aai a b c (fun d => K (.v (.int .i64 d)))
 | _ => none
noncomputable def spec : Abs.Spec := fun args K => av (pq [.sl (.ints .u8 []), .sl (.ints .u8 []), .sl (.ints .u8 [])] args) K
theorem ok0 : Proved Tryd.prog GLO.gB 17 av := by
 refine cu (D := D) (fn := Tryd.f17) (c := Tryd.f17.body.getD .skip) [.any] (by kernel_rfl) (ah (by kernel_rfl)) (by kernel_rfl) (by kernel_rfl) (by kernel_rfl) ⟨iw.ok, ad6.ok, trivial⟩ trivial ?_ ?_
 · rw [loops]; exact ⟨ay1, trivial⟩
 · intro args K r h
   unfold av at h
   split at h
   · rw [P.ajl] at h; exact Eq.trans (by kernel_rfl) h
   · cases h
theorem ok : Proved Tryd.prog GLO.gB 17 spec := dz _ ok0
end aai

namespace p8
noncomputable def D : Ctx := ({ P := Tryd.prog, G := [(10, oz.spec), (14, tq.spec), (17, aai.spec)], globs := GLO.gB, hints := [], loops := [], inl := [] } : Ctx)
theorem loops : bn (Tryd.f9.body.getD .skip) = [] := by kernel_rfl
noncomputable def av : Abs.Spec := fun args K => match args with
 | [] => P.p8 (fun a => K (.v (.bool a)))
 | _ => none
noncomputable def spec : Abs.Spec := av
theorem ok0 : Proved Tryd.prog GLO.gB 9 av := by
 refine cu (D := D) (fn := Tryd.f9) (c := Tryd.f9.body.getD .skip) [.any] (by kernel_rfl) (ah (by kernel_rfl)) (by kernel_rfl) (by kernel_rfl) (by kernel_rfl) ⟨oz.ok, tq.ok, aai.ok, trivial⟩ trivial ?_ ?_
 · rw [loops]; exact trivial
 · intro args K r h
   unfold av at h
   split at h
   · rw [P.alh] at h; exact Eq.trans (by kernel_rfl) h
   · cases h
theorem ok : Proved Tryd.prog GLO.gB 9 spec := ok0
end p8

namespace acw
abbrev X2 := P.zt1
def S2 : X2 → ASt := fun (a, b, c) => ⟨[(5, .sl (.rows .u8 a)), (6, .v (.int .i64 b)), (7, .v (.int .i64 c))], [], 0, 15⟩
def V2 : ASt → Option X2
 | ⟨[(5, .sl (.rows .u8 a)), (6, .v (.int .i64 b)), (7, .v (.int .i64 c))], [], 0, 15⟩ => some (a, b, c)
 | _ => none
theorem bff (st) (x) (h : V2 st = some x) : st = S2 x := by
 unfold V2 at h
 split at h
 · cases h; rfl
 · cases h
abbrev Y2 := P.zy1
def E2 (K : AExit → ASt → Option R) : Y2 → Option R := (Sum.elim (fun x => K (.exit 0) (S2 x)) (fun a => K .ret ⟨[(2, .v (.bool a))], [], 0, 15⟩))
noncomputable def L2 : wz := fun st K => afx (V2 st) fun x => P.zm1 x (E2 K)
noncomputable def D : Ctx := ({ P := Tryd.prog, G := [], globs := GLO.gB, hints := [(2, ⟨[5, 6, 7], [], [2], [], none, [], [], []⟩)], loops := [(2, L2)], inl := [] } : Ctx)
theorem ayg (K) (next) (x) : oq D (dx Tryd.f8 2) K next (S2 x) = P.zs1 x (fun x => next (S2 x)) (E2 K) := by kernel_rfl
theorem bd0 : l7 D (dx Tryd.f8 2) := jd S2 bff (by kernel_rfl) P.ze1 ayg
theorem loops : bn (Tryd.f8.body.getD .skip) = [dx Tryd.f8 2] := by kernel_rfl
noncomputable def av : Abs.Spec := fun args K => match args with
 | [.sl (.rows .u8 a)] => P.acw a (fun b => K (.v (.bool b)))
 | _ => none
noncomputable def spec : Abs.Spec := fun args K => av (pq [.sl (.rows .u8 [])] args) K
theorem ok0 : Proved Tryd.prog GLO.gB 8 av := by
 refine cu (D := D) (fn := Tryd.f8) (c := Tryd.f8.body.getD .skip) [.any] (by kernel_rfl) (ah (by kernel_rfl)) (by kernel_rfl) (by kernel_rfl) (by kernel_rfl) trivial trivial ?_ ?_
 · rw [loops]; exact ⟨bd0, trivial⟩
 · intro args K r h
   unfold av at h
   split at h
   · rw [P.apo] at h; exact Eq.trans (by kernel_rfl) h
   · cases h
theorem ok : Proved Tryd.prog GLO.gB 8 spec := dz _ ok0
end acw

namespace pz
abbrev X4 := P.biz
def S4 : X4 → ASt := fun (a, b, c) => ⟨[(0, .sl (.ints .u32 a)), (1, .sl (.ints .u32 b)), (5, .v (.int .i64 c))], [], 0, 26⟩
def V4 : ASt → Option X4
 | ⟨[(0, .sl (.ints .u32 a)), (1, .sl (.ints .u32 b)), (5, .v (.int .i64 c))], [], 0, 26⟩ => some (a, b, c)
 | _ => none
theorem bai (st) (x) (h : V4 st = some x) : st = S4 x := by
 unfold V4 at h
 split at h
 · cases h; rfl
 · cases h
abbrev Y4 := P.bl4
def E4 (K : AExit → ASt → Option R) : Y4 → Option R := (Sum.elim (fun x => K (.exit 0) (S4 x)) (fun a => K .ret ⟨[(4, .v (.bool a))], [], 0, 26⟩))
noncomputable def L4 : wz := fun st K => afx (V4 st) fun x => P.blf x (E4 K)
noncomputable def D : Ctx := ({ P := Tryd.prog, G := [], globs := GLO.gB, hints := [(4, ⟨[0, 1, 5], [], [4], [], none, [], [], []⟩)], loops := [(4, L4)], inl := [] } : Ctx)
theorem atw (K) (next) (x) : oq D (dx Tryd.f16 4) K next (S4 x) = P.bgo x (fun x => next (S4 x)) (E4 K) := by kernel_rfl
theorem bam : l7 D (dx Tryd.f16 4) := jd S4 bai (by kernel_rfl) P.bno atw
theorem loops : bn (Tryd.f16.body.getD .skip) = [dx Tryd.f16 4] := by kernel_rfl
noncomputable def av : Abs.Spec := fun args K => match args with
 | [.sl (.ints .u32 a), .sl (.ints .u32 b)] => P.pz a b (fun c => K (.v (.bool c)))
 | _ => none
noncomputable def spec : Abs.Spec := fun args K => av (pq [.sl (.ints .u32 []), .sl (.ints .u32 [])] args) K
theorem ok0 : Proved Tryd.prog GLO.gB 16 av := by
 refine cu (D := D) (fn := Tryd.f16) (c := Tryd.f16.body.getD .skip) [.any] (by kernel_rfl) (ah (by kernel_rfl)) (by kernel_rfl) (by kernel_rfl) (by kernel_rfl) trivial trivial ?_ ?_
 · rw [loops]; exact ⟨bam, trivial⟩
 · intro args K r h
   unfold av at h
   split at h
   · rw [P.agk] at h; exact Eq.trans (by kernel_rfl) h
   · cases h
theorem ok : Proved Tryd.prog GLO.gB 16 spec := dz _ ok0
end pz

namespace aau
noncomputable def D : Ctx := ({ P := Tryd.prog, G := [], globs := GLO.gB, hints := [], loops := [], inl := [] } : Ctx)
theorem loops : bn (Tryd.f76.body.getD .skip) = [] := by kernel_rfl
noncomputable def av : Abs.Spec := fun args K => match args with
 | [.v (.int .i64 a)] => P.aau a (fun b c d => K (.tuple [.v (.int .i64 b), .v (.int .i64 c), .v (.int .u64 d)]))
 | _ => none
noncomputable def spec : Abs.Spec := av
theorem ok0 : Proved Tryd.prog GLO.gB 76 av := by
 refine cu (D := D) (fn := Tryd.f76) (c := Tryd.f76.body.getD .skip) [.any, .any, .any] (by kernel_rfl) (ah (by kernel_rfl)) (by kernel_rfl) (by kernel_rfl) (by kernel_rfl) trivial trivial ?_ ?_
 · rw [loops]; exact trivial
 · intro args K r h
   unfold av at h
   split at h
   · rw [P.abu] at h; exact Eq.trans (by kernel_rfl) h
   · cases h
theorem ok : Proved Tryd.prog GLO.gB 76 spec := ok0
end aau

namespace aaw
noncomputable def D : Ctx := ({ P := Tryd.prog, G := [(76, aau.spec)], globs := GLO.gB, hints := [], loops := [], inl := [] } : Ctx)
theorem loops : bn (Tryd.f55.body.getD .skip) = [] := by kernel_rfl
noncomputable def av : Abs.Spec := fun args K => match args with
 | [.v (.int .i64 a)] => P.aaw a (fun b => K (.v (.int .i64 b)))
 | _ => none
noncomputable def spec : Abs.Spec := av
theorem ok0 : Proved Tryd.prog GLO.gB 55 av := by
 refine cu (D := D) (fn := Tryd.f55) (c := Tryd.f55.body.getD .skip) [.any] (by kernel_rfl) (ah (by kernel_rfl)) (by kernel_rfl) (by kernel_rfl) (by kernel_rfl) ⟨aau.ok, trivial⟩ trivial ?_ ?_
 · rw [loops]; exact trivial
 · intro args K r h
   unfold av at h
   split at h
   · rw [P.ah2] at h; exact Eq.trans (by kernel_rfl) h
   · cases h
theorem ok : Proved Tryd.prog GLO.gB 55 spec := ok0
end aaw

namespace aav
noncomputable def D : Ctx := ({ P := Tryd.prog, G := [], globs := GLO.gB, hints := [], loops := [], inl := [] } : Ctx)
theorem loops : bn (Tryd.f54.body.getD .skip) = [] := by kernel_rfl
noncomputable def av : Abs.Spec := fun args K => match args with
 | [.v (.int .i64 a)] => P.aav a (fun b => K (.v (.int .u64 b)))
 | _ => none
noncomputable def spec : Abs.Spec := av
theorem ok0 : Proved Tryd.prog GLO.gB 54 av := by
 refine cu (D := D) (fn := Tryd.f54) (c := Tryd.f54.body.getD .skip) [.any] (by kernel_rfl) (ah (by kernel_rfl)) (by kernel_rfl) (by kernel_rfl) (by kernel_rfl) trivial trivial ?_ ?_
 · rw [loops]; exact trivial
 · intro args K r h
   unfold av at h
   split at h
   · rw [P.ahh] at h; exact Eq.trans (by kernel_rfl) h
   · cases h
theorem ok : Proved Tryd.prog GLO.gB 54 spec := ok0
end aav

namespace aeu
noncomputable def D : Ctx := ({ P := Tryd.prog, G := [(54, aav.spec), (55, aaw.spec)], globs := GLO.gB, hints := [], loops := [], inl := [] } : Ctx)
theorem loops : bn (Tryd.f31.body.getD .skip) = [] := by kernel_rfl
noncomputable def av : Abs.Spec := fun args K => match args with
 | [.agg [.v (.int .i64 a), .v (.int .i64 b)]] => P.aeu a b (fun c => K (.v (.bool c)))
 | _ => none
noncomputable def spec : Abs.Spec := av
theorem ok0 : Proved Tryd.prog GLO.gB 31 av := by
 refine cu (D := D) (fn := Tryd.f31) (c := Tryd.f31.body.getD .skip) [.any] (by kernel_rfl) (ah (by kernel_rfl)) (by kernel_rfl) (by kernel_rfl) (by kernel_rfl) ⟨aav.ok, aaw.ok, trivial⟩ trivial ?_ ?_
 · rw [loops]; exact trivial
 · intro args K r h
   unfold av at h
   split at h
   · rw [P.apx] at h; exact Eq.trans (by kernel_rfl) h
   · cases h
theorem ok : Proved Tryd.prog GLO.gB 31 spec := ok0
end aeu

end
