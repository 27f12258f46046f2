/-
  HssTells, part 15: an interpreter of my own over abstract values, the pure functions, the walks and the plain law.
-/

import Derived.Test.YtmipokjdajiimaaDoorHssTellsK
import Derived.Test.YtmipokjdajiimaaDoorHssTellsH
import Derived.Test.YtmipokjdajiimaaDoorProg
import Derived.Test.YtmipokjdajiimaaDoorHssTellsJ
import Derived.Test.YtmipokjdajiimaaDoorHssTellsM
import Derived.Test.YtmipokjdajiimaaDoorHssTellsN
import Derived.Test.YtmipokjdajiimaaDoorHssTellsL
import Derived.KernelRfl
import Derived.Test.YtmipokjdajiimaaDoorHssTellsI

section
open Go Go.Abs Go.Proofs
set_option maxRecDepth 100000
set_option maxHeartbeats 0
set_option linter.unusedVariables false

namespace wu
abbrev X9 := P.bgm
def S9 : X9 → ASt := fun (f, g, d, e, a, b, c, h) => ⟨[(0, .v (.int .i64 f)), (6, .ptr 0 0), (8, .own 1), (9, .v (.int .u64 g)), (36, .own 1), (37, .v (.int .i64 d)), (38, .v (.int .i64 e))], [(0, some ⟨.box 101 [.v (.int .i64 a), .v (.int .i64 b), .v (.int .i64 c)], false⟩), (1, some ⟨.row 42 (.ints .u32 h), false⟩)], 2, 61⟩
def V9 : ASt → Option X9
 | ⟨[(0, .v (.int .i64 f)), (6, .ptr 0 0), (8, .own 1), (9, .v (.int .u64 g)), (36, .own 1), (37, .v (.int .i64 d)), (38, .v (.int .i64 e))], [(0, some ⟨.box 101 [.v (.int .i64 a), .v (.int .i64 b), .v (.int .i64 c)], false⟩), (1, some ⟨.row 42 (.ints .u32 h), false⟩)], 2, 61⟩ => some (f, g, d, e, a, b, c, h)
 | _ => none
theorem ay7 (st) (x) (h : V9 st = some x) : st = S9 x := by
 unfold V9 at h
 split at h
 · cases h; rfl
 · cases h
abbrev Y9 := P.bj9
def E9 (K : AExit → ASt → Option R) : Y9 → Option R := (fun x => K (.exit 1) (S9 x))
noncomputable def L9 : xg := fun st K => af5 (V9 st) fun x => P.bkk x (E9 K)
noncomputable def D : Ctx := ({ P := Tryd.prog, G := [(38, mq.spec), (74, l5.spec), (102, qp.spec)], globs := GLO.gB, hints := [(9, ⟨[0, 6, 8, 9, 36, 37, 38], [], [4, 5], [], none, [], [], []⟩)], loops := [(9, L9)], inl := [] } : Ctx)
theorem ata (K) (next) (x) : og D (dw Tryd.f91 9) K next (S9 x) = P.bi0 x (fun x => next (S9 x)) (E9 K) := by kernel_rfl
theorem bbh : l6 D (dw Tryd.f91 9) := jc S9 ay7 (by kernel_rfl) P.bnq ata
theorem loops : bn (Tryd.f91.body.getD .skip) = [dw Tryd.f91 9] := by kernel_rfl
noncomputable def av : Abs.Spec := fun args K => match args with
 | [.v (.int .i64 a), .sl (.ints .u8 b)] => P.wu a b (fun c d => K (.tuple [.fr 42 (.ints .u32 c), .v (.int .i64 d)]))
 | _ => none
noncomputable def spec : Abs.Spec := fun args K => av (o7 [.any, .sl (.ints .u8 [])] args) K
theorem ok0 : Proved Tryd.prog GLO.gB 91 av := by
 refine bq (D := D) (fn := Tryd.f91) (c := Tryd.f91.body.getD .skip) [.fr 42 (.ints .u32 []), .any] (by kernel_rfl) (ah (by kernel_rfl)) (by kernel_rfl) (by kernel_rfl) (by kernel_rfl) ⟨mq.ok, l5.ok, qp.ok, trivial⟩ trivial ?_ ?_
 · rw [loops]; exact ⟨bbh, trivial⟩
 · intro args K r h
   unfold av at h
   split at h
   · rw [P.am6] at h; exact Eq.trans (by kernel_rfl) h
   · cases h
theorem ok : Proved Tryd.prog GLO.gB 91 spec := dz _ ok0
end wu

namespace lu
noncomputable def D : Ctx := ({ P := Tryd.prog, G := [(86, jq.spec), (91, wu.spec)], globs := GLO.gB, hints := [], loops := [], inl := [] } : Ctx)
theorem loops : bn (Tryd.f71.body.getD .skip) = [] := by kernel_rfl
noncomputable def av : Abs.Spec := fun args K => match args with
 | [.agg [.v (.int .i64 e), .sl (.ints .u8 d), .v (.int .u32 f), .v (.int .i64 a), .v (.int .i64 b), .v (.int .i64 c)], .sl (.ints .u8 g), .sl (.ints .u8 h)] => P.lu e d f a b c g h (fun i => K (.fr 42 (.ints .u32 i)))
 | _ => none
noncomputable def spec : Abs.Spec := fun args K => av (o7 [.agg [.any, .sl (.ints .u8 []), .any, .any, .any, .any], .sl (.ints .u8 []), .sl (.ints .u8 [])] args) K
theorem ok0 : Proved Tryd.prog GLO.gB 71 av := by
 refine bq (D := D) (fn := Tryd.f71) (c := Tryd.f71.body.getD .skip) [.fr 42 (.ints .u32 [])] (by kernel_rfl) (ah (by kernel_rfl)) (by kernel_rfl) (by kernel_rfl) (by kernel_rfl) ⟨jq.ok, wu.ok, trivial⟩ trivial ?_ ?_
 · rw [loops]; exact trivial
 · intro args K r h
   unfold av at h
   split at h
   · rw [P.af8] at h; exact Eq.trans (by kernel_rfl) h
   · cases h
theorem ok : Proved Tryd.prog GLO.gB 71 spec := dz _ ok0
end lu

namespace oq
noncomputable def D : Ctx := ({ P := Tryd.prog, G := [], globs := GLO.gB, hints := [], loops := [], inl := [] } : Ctx)
theorem loops : bn (Tryd.f85.body.getD .skip) = [] := by kernel_rfl
noncomputable def av : Abs.Spec := fun args K => match args with
 | [.agg [.v (.int .i64 e), .sl (.ints .u8 d), .v (.int .u32 f), .v (.int .i64 a), .v (.int .i64 b), .v (.int .i64 c)]] => P.oq e d f a b c (fun g => K (.v (.int .u32 g)))
 | _ => none
noncomputable def spec : Abs.Spec := fun args K => av (o7 [.agg [.any, .sl (.ints .u8 []), .any, .any, .any, .any]] args) K
theorem ok0 : Proved Tryd.prog GLO.gB 85 av := by
 refine bq (D := D) (fn := Tryd.f85) (c := Tryd.f85.body.getD .skip) [.any] (by kernel_rfl) (ah (by kernel_rfl)) (by kernel_rfl) (by kernel_rfl) (by kernel_rfl) trivial trivial ?_ ?_
 · rw [loops]; exact trivial
 · intro args K r h
   unfold av at h
   split at h
   · rw [P.ain] at h; exact Eq.trans (by kernel_rfl) h
   · cases h
theorem ok : Proved Tryd.prog GLO.gB 85 spec := dz _ ok0
end oq

namespace ji
abbrev X9 := P.bhu
def S9 : X9 → ASt := fun (g, h, i, j, a, b, c, d, e, f, k) => ⟨[(14, .own 2), (12, .ptr 0 0), (15, .sl (.ints .u8 g)), (51, .own 1), (52, .v (.int .i64 h)), (53, .v (.int .i64 i))], [(2, some ⟨.row 5 (.ints .u8 j), false⟩), (0, some ⟨.box 103 [.v (.int .i64 a), .sl (.ints .u8 b), .v (.int .u32 c), .v (.int .i64 d), .v (.int .i64 e), .v (.int .i64 f)], false⟩), (1, some ⟨.row 42 (.ints .u32 k), false⟩)], 3, 77⟩
def V9 : ASt → Option X9
 | ⟨[(14, .own 2), (12, .ptr 0 0), (15, .sl (.ints .u8 g)), (51, .own 1), (52, .v (.int .i64 h)), (53, .v (.int .i64 i))], [(2, some ⟨.row 5 (.ints .u8 j), false⟩), (0, some ⟨.box 103 [.v (.int .i64 a), .sl (.ints .u8 b), .v (.int .u32 c), .v (.int .i64 d), .v (.int .i64 e), .v (.int .i64 f)], false⟩), (1, some ⟨.row 42 (.ints .u32 k), false⟩)], 3, 77⟩ => some (g, h, i, j, a, b, c, d, e, f, k)
 | _ => none
theorem ay7 (st) (x) (h : V9 st = some x) : st = S9 x := by
 unfold V9 at h
 split at h
 · cases h; rfl
 · cases h
abbrev Y9 := P.bmu
def E9 (K : AExit → ASt → Option R) : Y9 → Option R := (fun x => K (.exit 1) (S9 x))
noncomputable def L9 : xg := fun st K => af5 (V9 st) fun x => P.bjt x (E9 K)
noncomputable def D : Ctx := ({ P := Tryd.prog, G := [(32, iw.spec), (49, jg.spec), (71, lu.spec), (72, ou.spec), (85, oq.spec), (86, jq.spec), (90, zw.spec)], globs := GLO.gB, hints := [(9, ⟨[12, 15, 51, 52, 53], [(14, 5, .ints .u8 [])], [10, 11], [(15, .sl (.ints .u8 []))], none, [], [], []⟩)], loops := [(9, L9)], inl := [] } : Ctx)
theorem ata (K) (next) (x) : og D (dw Tryd.f75 9) K next (S9 x) = P.biq x (fun x => next (S9 x)) (E9 K) := by kernel_rfl
theorem bbh : l6 D (dw Tryd.f75 9) := jc S9 ay7 (by kernel_rfl) P.bof ata
theorem loops : bn (Tryd.f75.body.getD .skip) = [dw Tryd.f75 9] := by kernel_rfl
noncomputable def av : Abs.Spec := fun args K => match args with
 | [.v (.int .i64 a), .sl (.ints .u8 b), .v (.int .u32 c), .sl (.ints .u8 d), .sl (.ints .u8 e)] => P.ji a b c d e (fun f g => K (.tuple [.fr 5 (.ints .u8 f), .v (.int .i64 g)]))
 | _ => none
noncomputable def spec : Abs.Spec := fun args K => av (o7 [.any, .sl (.ints .u8 []), .any, .sl (.ints .u8 []), .sl (.ints .u8 [])] args) K
theorem ok0 : Proved Tryd.prog GLO.gB 75 av := by
 refine bq (D := D) (fn := Tryd.f75) (c := Tryd.f75.body.getD .skip) [.fr 5 (.ints .u8 []), .any] (by kernel_rfl) (ah (by kernel_rfl)) (by kernel_rfl) (by kernel_rfl) (by kernel_rfl) ⟨iw.ok, jg.ok, lu.ok, ou.ok, oq.ok, jq.ok, zw.ok, trivial⟩ trivial ?_ ?_
 · rw [loops]; exact ⟨bbh, trivial⟩
 · intro args K r h
   unfold av at h
   split at h
   · rw [P.aje] at h; exact Eq.trans (by kernel_rfl) h
   · cases h
theorem ok : Proved Tryd.prog GLO.gB 75 spec := dz _ ok0
end ji

namespace yj
noncomputable def D : Ctx := ({ P := Tryd.prog, G := [(37, jr.spec), (38, mq.spec), (87, abj.spec), (88, um.spec), (89, abg.spec)], globs := GLO.gB, hints := [], loops := [], inl := [] } : Ctx)
theorem loops : bn (Tryd.f68.body.getD .skip) = [] := by kernel_rfl
noncomputable def av : Abs.Spec := fun args K => match args with
 | [.sl (.ints .u8 a), .v (.int .u64 b), .v (.int .u64 c), .sl (.rows .u8 d)] => P.yj a b c d (fun e => K (.fr 5 (.ints .u8 e)))
 | _ => none
noncomputable def spec : Abs.Spec := fun args K => av (o7 [.sl (.ints .u8 []), .any, .any, .sl (.rows .u8 [])] args) K
theorem ok0 : Proved Tryd.prog GLO.gB 68 av := by
 refine bq (D := D) (fn := Tryd.f68) (c := Tryd.f68.body.getD .skip) [.fr 5 (.ints .u8 [])] (by kernel_rfl) (ah (by kernel_rfl)) (by kernel_rfl) (by kernel_rfl) (by kernel_rfl) ⟨jr.ok, mq.ok, abj.ok, um.ok, abg.ok, trivial⟩ trivial ?_ ?_
 · rw [loops]; exact trivial
 · intro args K r h
   unfold av at h
   split at h
   · rw [P.apm] at h; exact Eq.trans (by kernel_rfl) h
   · cases h
theorem ok : Proved Tryd.prog GLO.gB 68 spec := dz _ ok0
end yj

namespace aec
abbrev bnn := P.bgo
def bg2 : bnn → ASt := fun (d, a, e, b, c) => ⟨[(0, .yld 9 [5, 13, 14] [.ptr 1 0, .ptr 5 0, .ptr 6 0]), (4, .v (.int .u64 d))], [(1, some ⟨.box 23 [.sl (.ints .u8 a)], false⟩), (4, some ⟨.row 5 (.ints .u8 e), true⟩), (5, some ⟨.box 23 [.sl (.ints .u8 b)], false⟩), (6, some ⟨.box 23 [.sl (.ints .u8 c)], false⟩)], 840, 19⟩
def bmp : ASt → Option bnn
 | ⟨[(0, .yld 9 [5, 13, 14] [.ptr 1 0, .ptr 5 0, .ptr 6 0]), (4, .v (.int .u64 d))], [(1, some ⟨.box 23 [.sl (.ints .u8 a)], false⟩), (4, some ⟨.row 5 (.ints .u8 e), true⟩), (5, some ⟨.box 23 [.sl (.ints .u8 b)], false⟩), (6, some ⟨.box 23 [.sl (.ints .u8 c)], false⟩)], 840, 19⟩ => some (d, a, e, b, c)
 | _ => none
theorem bed (st) (x) (h : bmp st = some x) : st = bg2 x := by
 unfold bmp at h
 split at h
 · cases h; rfl
 · cases h
abbrev Y2_1 := P.bke
def bnx (K : AExit → ASt → Option R) : Y2_1 → Option R := (fun x => K (.exit 0) (bg2 x))
noncomputable def L2_1 : xg := fun st K => af5 (bmp st) fun x => P.blp x (bnx K)
noncomputable def D3 : Ctx := ({ P := Tryd.prog, G := [(32, iw.spec), (49, jg.spec), (68, yj.spec), (75, ji.spec)], globs := GLO.gB, hints := [], loops := [], inl := [], y := some (bc9 (anh Tryd.f52 8) 74 false) } : Ctx)
noncomputable def D2 : Ctx := ({ P := Tryd.prog, G := [(32, iw.spec), (49, jg.spec), (68, yj.spec), (75, ji.spec)], globs := GLO.gB, hints := [(1, ⟨[0, 4], [], [], [], some (840, [1, 4, 5, 6]), [1, 5, 6], [], []⟩)], loops := [(1, L2_1)], inl := [], y := some (bc9 (anh Tryd.f52 8) 74 true), ys := some (ase D3 (bc9 (anh Tryd.f52 8) 74 true)) } : Ctx)
noncomputable def D1 : Ctx := ({ P := Tryd.prog, G := [(32, iw.spec), (49, jg.spec), (68, yj.spec), (75, ji.spec)], globs := GLO.gB, hints := [], loops := [], inl := [] } : Ctx)
noncomputable def D : Ctx := ({ P := Tryd.prog, G := [(32, iw.spec), (49, jg.spec), (68, yj.spec), (75, ji.spec)], globs := GLO.gB, hints := [], loops := [], inl := [(47, ajr D1 Tryd.f47)], top := true, rng := [(8, ⟨73, 74, [5, 13, 14], ajr D2 Tryd.f73⟩)] } : Ctx)
theorem bb8 (K) (next) (x) : og D2 (dw Tryd.f73 1) K next (bg2 x) = P.biy x (fun x => next (bg2 x)) (bnx K) := by kernel_rfl
theorem bex : l6 D2 (dw Tryd.f73 1) := jc bg2 bed (by kernel_rfl) P.bnb bb8
theorem loops : bn (Tryd.f52.body.getD .skip) = [] := by kernel_rfl
theorem azo : bn (Tryd.f47.body.getD .skip) = [] := by kernel_rfl
theorem bid : bn (Tryd.f73.body.getD .skip) = [dw Tryd.f73 1] := by kernel_rfl
theorem bhr : bn (bi7 (anh Tryd.f52 8)) = [] := by kernel_rfl
theorem ranges : pq (Tryd.f52.body.getD .skip) = [anh Tryd.f52 8] := by kernel_rfl
theorem bbt : akp D2 (ase D3 (bc9 (anh Tryd.f52 8) 74 true)) := ba4 (Y := bc9 (anh Tryd.f52 8) 74 true) (atd (D := D3) ⟨iw.ok, jg.ok, yj.ok, ji.ok, trivial⟩) (ah (by kernel_rfl)) (aug (D := D3) trivial (amo rfl)) (by kernel_rfl) rfl rfl (by kernel_rfl) (by kernel_rfl) rfl rfl rfl (ag7 _ (by rw [show bn (bc9 (anh Tryd.f52 8) 74 true).assign = [] from by kernel_rfl]; exact trivial)) (ag7 _ (by rw [show bn (bc9 (anh Tryd.f52 8) 74 true).body = bn (bi7 (anh Tryd.f52 8)) from by kernel_rfl, bhr]; exact trivial))
noncomputable def av : Abs.Spec := fun args K => match args with
 | [.agg [.v (.int .i64 a), .v (.int .i64 b)], .sl (.ints .u8 c), .sl (.ints .u8 d), .sl (.ints .u8 e)] => P.aec a b c d e (fun f => K (.sl (.ints .u8 f)))
 | _ => none
noncomputable def spec : Abs.Spec := fun args K => av (o7 [.any, .sl (.ints .u8 []), .sl (.ints .u8 []), .sl (.ints .u8 [])] args) K
theorem ok0 : Proved Tryd.prog GLO.gB 52 av := by
 refine bq (D := D) (fn := Tryd.f52) (c := Tryd.f52.body.getD .skip) [.sl (.ints .u8 [])] (by kernel_rfl) (ah (by kernel_rfl)) (by kernel_rfl) (by kernel_rfl) (by kernel_rfl) ⟨iw.ok, jg.ok, yj.ok, ji.ok, trivial⟩ ⟨bal (D := D1) (D' := D) (fn := Tryd.f47) (c := Tryd.f47.body.getD .skip) rfl rfl (by kernel_rfl) (ah (by kernel_rfl)) (by kernel_rfl) (by kernel_rfl) (by kernel_rfl) ⟨iw.ok, jg.ok, yj.ok, ji.ok, trivial⟩ trivial (by rw [azo]; exact trivial) (fun _ _ _ _ _ h => h), trivial⟩ ?_ ?_ (hRg := by rw [ranges]; exact ⟨ayc (D := D) (Di := D2) (e := ⟨73, 74, [5, 13, 14], ajr D2 Tryd.f73⟩) (by kernel_rfl) rfl rfl (by kernel_rfl) (bal (D := D2) (D' := D2) (fn := Tryd.f73) (c := Tryd.f73.body.getD .skip) rfl rfl (by kernel_rfl) (ah (by kernel_rfl)) (by kernel_rfl) (by kernel_rfl) (by kernel_rfl) ⟨iw.ok, jg.ok, yj.ok, ji.ok, trivial⟩ trivial (by rw [bid]; exact ⟨bex, trivial⟩) (fun _ _ _ _ _ h => h) rfl rfl (ama rfl _) (fun s hs => by have hs : some (ase D3 (bc9 (anh Tryd.f52 8) 74 true)) = some s := hs; cases hs; exact bbt)), trivial⟩)
 · rw [loops]; exact trivial
 · intro args K r h
   unfold av at h
   split at h
   · rw [P.auy] at h; exact Eq.trans (by kernel_rfl) h
   · cases h
theorem ok : Proved Tryd.prog GLO.gB 52 spec := dz _ ok0
end aec

namespace aal
noncomputable def D : Ctx := ({ P := Tryd.prog, G := [(25, ab7.spec), (32, iw.spec), (43, aej.spec), (48, ug.spec), (50, qd.spec), (51, zf.spec), (52, aec.spec)], globs := GLO.gB, hints := [], loops := [], inl := [] } : Ctx)
theorem loops : bn (Tryd.f27.body.getD .skip) = [] := by kernel_rfl
noncomputable def av : Abs.Spec := fun args K => match args with
 | [.sl (.ints .u8 a), .sl (.ints .u8 b), .sl (.ints .u8 c)] => P.aal a b c (fun d => K (.v (.int .i64 d)))
 | _ => none
noncomputable def spec : Abs.Spec := fun args K => av (o7 [.sl (.ints .u8 []), .sl (.ints .u8 []), .sl (.ints .u8 [])] args) K
theorem ok0 : Proved Tryd.prog GLO.gB 27 av := by
 refine bq (D := D) (fn := Tryd.f27) (c := Tryd.f27.body.getD .skip) [.any] (by kernel_rfl) (ah (by kernel_rfl)) (by kernel_rfl) (by kernel_rfl) (by kernel_rfl) ⟨ab7.ok, iw.ok, aej.ok, ug.ok, qd.ok, zf.ok, aec.ok, trivial⟩ trivial ?_ ?_
 · rw [loops]; exact trivial
 · intro args K r h
   unfold av at h
   split at h
   · rw [P.aqf] at h; exact Eq.trans (by kernel_rfl) h
   · cases h
theorem ok : Proved Tryd.prog GLO.gB 27 spec := dz _ ok0
end aal

namespace aeo
noncomputable def D : Ctx := ({ P := Tryd.prog, G := [(25, ab7.spec), (27, aal.spec)], globs := GLO.gB, hints := [], loops := [], inl := [] } : Ctx)
theorem loops : bn (Tryd.f33.body.getD .skip) = [] := by kernel_rfl
noncomputable def av : Abs.Spec := fun args K => match args with
 | [.sl (.ints .u8 a), .sl (.ints .u8 b), .sl (.ints .u8 c), .v (.bool d)] => P.aeo a b c d (fun e f g => K (.tuple [.sl (.ints .u8 e), .sl (.ints .u8 f), .v (.int .i64 g)]))
 | _ => none
noncomputable def spec : Abs.Spec := fun args K => av (o7 [.sl (.ints .u8 []), .sl (.ints .u8 []), .sl (.ints .u8 []), .any] args) K
theorem ok0 : Proved Tryd.prog GLO.gB 33 av := by
 refine bq (D := D) (fn := Tryd.f33) (c := Tryd.f33.body.getD .skip) [.sl (.ints .u8 []), .sl (.ints .u8 []), .any] (by kernel_rfl) (ah (by kernel_rfl)) (by kernel_rfl) (by kernel_rfl) (by kernel_rfl) ⟨ab7.ok, aal.ok, trivial⟩ trivial ?_ ?_
 · rw [loops]; exact trivial
 · intro args K r h
   unfold av at h
   split at h
   · rw [P.auw] at h; exact Eq.trans (by kernel_rfl) h
   · cases h
theorem ok : Proved Tryd.prog GLO.gB 33 spec := dz _ ok0
end aeo

namespace aap
abbrev X9 := P.bi3
def S9 : X9 → ASt := fun (a, b, c, d) => ⟨[(1, .sl (.ints .u8 a)), (7, .v (.int .u64 b)), (8, .sl (.ints .u8 c)), (9, .sl (.ints .u8 d))], [], 0, 57⟩
def V9 : ASt → Option X9
 | ⟨[(1, .sl (.ints .u8 a)), (7, .v (.int .u64 b)), (8, .sl (.ints .u8 c)), (9, .sl (.ints .u8 d))], [], 0, 57⟩ => some (a, b, c, d)
 | _ => none
theorem ay7 (st) (x) (h : V9 st = some x) : st = S9 x := by
 unfold V9 at h
 split at h
 · cases h; rfl
 · cases h
abbrev Y9 := P.bm3
def E9 (K : AExit → ASt → Option R) : Y9 → Option R := (Sum.elim (fun x => K (.exit 1) (S9 x)) (fun a => K .ret ⟨[(6, .v (.int .i64 a))], [], 0, 57⟩))
noncomputable def L9 : xg := fun st K => af5 (V9 st) fun x => P.bks x (E9 K)
noncomputable def D : Ctx := ({ P := Tryd.prog, G := [(32, iw.spec), (33, aeo.spec)], globs := GLO.gB, hints := [(9, ⟨[1, 7, 8, 9], [], [6], [(8, .sl (.ints .u8 [])), (9, .sl (.ints .u8 []))], none, [], [], []⟩)], loops := [(9, L9)], inl := [] } : Ctx)
theorem ata (K) (next) (x) : og D (dw Tryd.f17 9) K next (S9 x) = P.bjo x (fun x => next (S9 x)) (E9 K) := by kernel_rfl
theorem bbh : l6 D (dw Tryd.f17 9) := jc S9 ay7 (by kernel_rfl) P.bnr ata
theorem loops : bn (Tryd.f17.body.getD .skip) = [dw Tryd.f17 9] := by kernel_rfl
noncomputable def av : Abs.Spec := fun args K => match args with
 | [.sl (.ints .u8 a), .sl (.ints .u8 b), .sl (.ints .u8 c)] => P.aap a b c (fun d => K (.v (.int .i64 d)))
 | _ => none
noncomputable def spec : Abs.Spec := fun args K => av (o7 [.sl (.ints .u8 []), .sl (.ints .u8 []), .sl (.ints .u8 [])] args) K
theorem ok0 : Proved Tryd.prog GLO.gB 17 av := by
 refine bq (D := D) (fn := Tryd.f17) (c := Tryd.f17.body.getD .skip) [.any] (by kernel_rfl) (ah (by kernel_rfl)) (by kernel_rfl) (by kernel_rfl) (by kernel_rfl) ⟨iw.ok, aeo.ok, trivial⟩ trivial ?_ ?_
 · rw [loops]; exact ⟨bbh, trivial⟩
 · intro args K r h
   unfold av at h
   split at h
   · rw [P.ai4] at h; exact Eq.trans (by kernel_rfl) h
   · cases h
theorem ok : Proved Tryd.prog GLO.gB 17 spec := dz _ ok0
end aap

namespace p9
noncomputable def D : Ctx := ({ P := Tryd.prog, G := [(10, qc.spec), (14, qm.spec), (17, aap.spec)], globs := GLO.gB, hints := [], loops := [], inl := [] } : Ctx)
theorem loops : bn (Tryd.f9.body.getD .skip) = [] := by kernel_rfl
noncomputable def av : Abs.Spec := fun args K => match args with
 | [] => P.p9 (fun a => K (.v (.bool a)))
 | _ => none
noncomputable def spec : Abs.Spec := av
theorem ok0 : Proved Tryd.prog GLO.gB 9 av := by
 refine bq (D := D) (fn := Tryd.f9) (c := Tryd.f9.body.getD .skip) [.any] (by kernel_rfl) (ah (by kernel_rfl)) (by kernel_rfl) (by kernel_rfl) (by kernel_rfl) ⟨qc.ok, qm.ok, aap.ok, trivial⟩ trivial ?_ ?_
 · rw [loops]; exact trivial
 · intro args K r h
   unfold av at h
   split at h
   · rw [P.ak1] at h; exact Eq.trans (by kernel_rfl) h
   · cases h
theorem ok : Proved Tryd.prog GLO.gB 9 spec := ok0
end p9

namespace ac4
abbrev X2 := P.zt1
def S2 : X2 → ASt := fun (a, b, c) => ⟨[(5, .sl (.rows .u8 a)), (6, .v (.int .i64 b)), (7, .v (.int .i64 c))], [], 0, 15⟩
def V2 : ASt → Option X2
 | ⟨[(5, .sl (.rows .u8 a)), (6, .v (.int .i64 b)), (7, .v (.int .i64 c))], [], 0, 15⟩ => some (a, b, c)
 | _ => none
theorem be7 (st) (x) (h : V2 st = some x) : st = S2 x := by
 unfold V2 at h
 split at h
 · cases h; rfl
 · cases h
abbrev Y2 := P.zy1
def E2 (K : AExit → ASt → Option R) : Y2 → Option R := (Sum.elim (fun x => K (.exit 0) (S2 x)) (fun a => K .ret ⟨[(2, .v (.bool a))], [], 0, 15⟩))
noncomputable def L2 : xg := fun st K => af5 (V2 st) fun x => P.zm1 x (E2 K)
noncomputable def D : Ctx := ({ P := Tryd.prog, G := [], globs := GLO.gB, hints := [(2, ⟨[5, 6, 7], [], [2], [], none, [], [], []⟩)], loops := [(2, L2)], inl := [] } : Ctx)
theorem ay2 (K) (next) (x) : og D (dw Tryd.f8 2) K next (S2 x) = P.zs1 x (fun x => next (S2 x)) (E2 K) := by kernel_rfl
theorem be8 : l6 D (dw Tryd.f8 2) := jc S2 be7 (by kernel_rfl) P.ze1 ay2
theorem loops : bn (Tryd.f8.body.getD .skip) = [dw Tryd.f8 2] := by kernel_rfl
noncomputable def av : Abs.Spec := fun args K => match args with
 | [.sl (.rows .u8 a)] => P.ac4 a (fun b => K (.v (.bool b)))
 | _ => none
noncomputable def spec : Abs.Spec := fun args K => av (o7 [.sl (.rows .u8 [])] args) K
theorem ok0 : Proved Tryd.prog GLO.gB 8 av := by
 refine bq (D := D) (fn := Tryd.f8) (c := Tryd.f8.body.getD .skip) [.any] (by kernel_rfl) (ah (by kernel_rfl)) (by kernel_rfl) (by kernel_rfl) (by kernel_rfl) trivial trivial ?_ ?_
 · rw [loops]; exact ⟨be8, trivial⟩
 · intro args K r h
   unfold av at h
   split at h
   · rw [P.apk] at h; exact Eq.trans (by kernel_rfl) h
   · cases h
theorem ok : Proved Tryd.prog GLO.gB 8 spec := dz _ ok0
end ac4

namespace mh
abbrev X4 := P.bjg
def S4 : X4 → ASt := fun (a, b, c) => ⟨[(0, .sl (.ints .u32 a)), (1, .sl (.ints .u32 b)), (5, .v (.int .i64 c))], [], 0, 26⟩
def V4 : ASt → Option X4
 | ⟨[(0, .sl (.ints .u32 a)), (1, .sl (.ints .u32 b)), (5, .v (.int .i64 c))], [], 0, 26⟩ => some (a, b, c)
 | _ => none
theorem bas (st) (x) (h : V4 st = some x) : st = S4 x := by
 unfold V4 at h
 split at h
 · cases h; rfl
 · cases h
abbrev Y4 := P.blx
def E4 (K : AExit → ASt → Option R) : Y4 → Option R := (Sum.elim (fun x => K (.exit 0) (S4 x)) (fun a => K .ret ⟨[(4, .v (.bool a))], [], 0, 26⟩))
noncomputable def L4 : xg := fun st K => af5 (V4 st) fun x => P.bkg x (E4 K)
noncomputable def D : Ctx := ({ P := Tryd.prog, G := [], globs := GLO.gB, hints := [(4, ⟨[0, 1, 5], [], [4], [], none, [], [], []⟩)], loops := [(4, L4)], inl := [] } : Ctx)
theorem asl (K) (next) (x) : og D (dw Tryd.f16 4) K next (S4 x) = P.bg9 x (fun x => next (S4 x)) (E4 K) := by kernel_rfl
theorem az8 : l6 D (dw Tryd.f16 4) := jc S4 bas (by kernel_rfl) P.bn6 asl
theorem loops : bn (Tryd.f16.body.getD .skip) = [dw Tryd.f16 4] := by kernel_rfl
noncomputable def av : Abs.Spec := fun args K => match args with
 | [.sl (.ints .u32 a), .sl (.ints .u32 b)] => P.mh a b (fun c => K (.v (.bool c)))
 | _ => none
noncomputable def spec : Abs.Spec := fun args K => av (o7 [.sl (.ints .u32 []), .sl (.ints .u32 [])] args) K
theorem ok0 : Proved Tryd.prog GLO.gB 16 av := by
 refine bq (D := D) (fn := Tryd.f16) (c := Tryd.f16.body.getD .skip) [.any] (by kernel_rfl) (ah (by kernel_rfl)) (by kernel_rfl) (by kernel_rfl) (by kernel_rfl) trivial trivial ?_ ?_
 · rw [loops]; exact ⟨az8, trivial⟩
 · intro args K r h
   unfold av at h
   split at h
   · rw [P.agi] at h; exact Eq.trans (by kernel_rfl) h
   · cases h
theorem ok : Proved Tryd.prog GLO.gB 16 spec := dz _ ok0
end mh

namespace aa3
noncomputable def D : Ctx := ({ P := Tryd.prog, G := [], globs := GLO.gB, hints := [], loops := [], inl := [] } : Ctx)
theorem loops : bn (Tryd.f76.body.getD .skip) = [] := by kernel_rfl
noncomputable def av : Abs.Spec := fun args K => match args with
 | [.v (.int .i64 a)] => P.aa3 a (fun b c d => K (.tuple [.v (.int .i64 b), .v (.int .i64 c), .v (.int .u64 d)]))
 | _ => none
noncomputable def spec : Abs.Spec := av
theorem ok0 : Proved Tryd.prog GLO.gB 76 av := by
 refine bq (D := D) (fn := Tryd.f76) (c := Tryd.f76.body.getD .skip) [.any, .any, .any] (by kernel_rfl) (ah (by kernel_rfl)) (by kernel_rfl) (by kernel_rfl) (by kernel_rfl) trivial trivial ?_ ?_
 · rw [loops]; exact trivial
 · intro args K r h
   unfold av at h
   split at h
   · rw [P.aby] at h; exact Eq.trans (by kernel_rfl) h
   · cases h
theorem ok : Proved Tryd.prog GLO.gB 76 spec := ok0
end aa3

namespace aa1
noncomputable def D : Ctx := ({ P := Tryd.prog, G := [(76, aa3.spec)], globs := GLO.gB, hints := [], loops := [], inl := [] } : Ctx)
theorem loops : bn (Tryd.f55.body.getD .skip) = [] := by kernel_rfl
noncomputable def av : Abs.Spec := fun args K => match args with
 | [.v (.int .i64 a)] => P.aa1 a (fun b => K (.v (.int .i64 b)))
 | _ => none
noncomputable def spec : Abs.Spec := av
theorem ok0 : Proved Tryd.prog GLO.gB 55 av := by
 refine bq (D := D) (fn := Tryd.f55) (c := Tryd.f55.body.getD .skip) [.any] (by kernel_rfl) (ah (by kernel_rfl)) (by kernel_rfl) (by kernel_rfl) (by kernel_rfl) ⟨aa3.ok, trivial⟩ trivial ?_ ?_
 · rw [loops]; exact trivial
 · intro args K r h
   unfold av at h
   split at h
   · rw [P.ahu] at h; exact Eq.trans (by kernel_rfl) h
   · cases h
theorem ok : Proved Tryd.prog GLO.gB 55 spec := ok0
end aa1

namespace aa0
noncomputable def D : Ctx := ({ P := Tryd.prog, G := [], globs := GLO.gB, hints := [], loops := [], inl := [] } : Ctx)
theorem loops : bn (Tryd.f54.body.getD .skip) = [] := by kernel_rfl
noncomputable def av : Abs.Spec := fun args K => match args with
 | [.v (.int .i64 a)] => P.aa0 a (fun b => K (.v (.int .u64 b)))
 | _ => none
noncomputable def spec : Abs.Spec := av
theorem ok0 : Proved Tryd.prog GLO.gB 54 av := by
 refine bq (D := D) (fn := Tryd.f54) (c := Tryd.f54.body.getD .skip) [.any] (by kernel_rfl) (ah (by kernel_rfl)) (by kernel_rfl) (by kernel_rfl) (by kernel_rfl) trivial trivial ?_ ?_
 · rw [loops]; exact trivial
 · intro args K r h
   unfold av at h
   split at h
   · rw [P.ail] at h; exact Eq.trans (by kernel_rfl) h
   · cases h
theorem ok : Proved Tryd.prog GLO.gB 54 spec := ok0
end aa0

namespace ae2
noncomputable def D : Ctx := ({ P := Tryd.prog, G := [(54, aa0.spec), (55, aa1.spec)], globs := GLO.gB, hints := [], loops := [], inl := [] } : Ctx)
theorem loops : bn (Tryd.f31.body.getD .skip) = [] := by kernel_rfl
noncomputable def av : Abs.Spec := fun args K => match args with
 | [.agg [.v (.int .i64 a), .v (.int .i64 b)]] => P.ae2 a b (fun c => K (.v (.bool c)))
 | _ => none
noncomputable def spec : Abs.Spec := av
theorem ok0 : Proved Tryd.prog GLO.gB 31 av := by
 refine bq (D := D) (fn := Tryd.f31) (c := Tryd.f31.body.getD .skip) [.any] (by kernel_rfl) (ah (by kernel_rfl)) (by kernel_rfl) (by kernel_rfl) (by kernel_rfl) ⟨aa0.ok, aa1.ok, trivial⟩ trivial ?_ ?_
 · rw [loops]; exact trivial
 · intro args K r h
   unfold av at h
   split at h
   · rw [P.ao1] at h; exact Eq.trans (by kernel_rfl) h
   · cases h
theorem ok : Proved Tryd.prog GLO.gB 31 spec := ok0
end ae2

end
