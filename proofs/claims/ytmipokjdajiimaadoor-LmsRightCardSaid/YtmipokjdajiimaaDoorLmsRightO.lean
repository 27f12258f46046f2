/-
  LmsRight, part 15: an interpreter of my own over abstract values, the pure functions, the walks and the plain law.
-/

import Derived.Test.YtmipokjdajiimaaDoorLmsRightK
import Derived.Test.YtmipokjdajiimaaDoorLmsRightH
import Derived.Test.YtmipokjdajiimaaDoorProg
import Derived.Test.YtmipokjdajiimaaDoorLmsRightJ
import Derived.Test.YtmipokjdajiimaaDoorLmsRightL
import Derived.Test.YtmipokjdajiimaaDoorLmsRightN
import Derived.KernelRfl
import Derived.Test.YtmipokjdajiimaaDoorLmsRightI

section
open Go Go.Abs Go.Proofs
set_option maxRecDepth 100000
set_option maxHeartbeats 0
set_option linter.unusedVariables false

namespace jq
abbrev X9 := P.bh2
def S9 : X9 → ASt := fun (g, h, i, j, a, b, c, d, e, f, k) => ⟨[(14, .own 2), (12, .ptr 0 0), (15, .sl (.ints .u8 g)), (51, .own 1), (52, .v (.int .i64 h)), (53, .v (.int .i64 i))], [(2, some ⟨.row 5 (.ints .u8 j), false⟩), (0, some ⟨.box 103 [.v (.int .i64 a), .sl (.ints .u8 b), .v (.int .u32 c), .v (.int .i64 d), .v (.int .i64 e), .v (.int .i64 f)], false⟩), (1, some ⟨.row 42 (.ints .u32 k), false⟩)], 3, 77⟩
def V9 : ASt → Option X9
 | ⟨[(14, .own 2), (12, .ptr 0 0), (15, .sl (.ints .u8 g)), (51, .own 1), (52, .v (.int .i64 h)), (53, .v (.int .i64 i))], [(2, some ⟨.row 5 (.ints .u8 j), false⟩), (0, some ⟨.box 103 [.v (.int .i64 a), .sl (.ints .u8 b), .v (.int .u32 c), .v (.int .i64 d), .v (.int .i64 e), .v (.int .i64 f)], false⟩), (1, some ⟨.row 42 (.ints .u32 k), false⟩)], 3, 77⟩ => some (g, h, i, j, a, b, c, d, e, f, k)
 | _ => none
theorem bf0 (st) (x) (h : V9 st = some x) : st = S9 x := by
 unfold V9 at h
 split at h
 · cases h; rfl
 · cases h
abbrev Y9 := P.bnb
def E9 (K : AExit → ASt → Option R) : Y9 → Option R := (fun x => K (.exit 1) (S9 x))
noncomputable def L9 : aat := fun st K => ahy (V9 st) fun x => P.bmo x (E9 K)
noncomputable def D : Ctx := ({ P := Tryd.prog, G := [(32, jl.spec), (49, jf.spec), (71, jh.spec), (72, ji.spec), (85, ko.spec), (86, gq.spec), (90, qz.spec)], globs := GLO.gB, hints := [(9, ⟨[12, 15, 51, 52, 53], [(14, 5, .ints .u8 [])], [10, 11], [(15, .sl (.ints .u8 []))], none, [], [], []⟩)], loops := [(9, L9)], inl := [] } : Ctx)
theorem azi (K) (next) (x) : qw D (eu Tryd.f75 9) K next (S9 x) = P.bim x (fun x => next (S9 x)) (E9 K) := by kernel_rfl
theorem bgu : oh D (eu Tryd.f75 9) := jv S9 bf0 (by kernel_rfl) P.boy azi
theorem loops : bg (Tryd.f75.body.getD .skip) = [eu Tryd.f75 9] := by kernel_rfl
noncomputable def av : Abs.Spec := fun args K => match args with
 | [.v (.int .i64 a), .sl (.ints .u8 b), .v (.int .u32 c), .sl (.ints .u8 d), .sl (.ints .u8 e)] => P.jq a b c d e (fun f g => K (.tuple [.fr 5 (.ints .u8 f), .v (.int .i64 g)]))
 | _ => none
noncomputable def spec : Abs.Spec := fun args K => av (qb [.any, .sl (.ints .u8 []), .any, .sl (.ints .u8 []), .sl (.ints .u8 [])] args) K
theorem ok0 : Proved Tryd.prog GLO.gB 75 av := by
 refine cu (D := D) (fn := Tryd.f75) (c := Tryd.f75.body.getD .skip) [.fr 5 (.ints .u8 []), .any] (by kernel_rfl) (ah (by kernel_rfl)) (by kernel_rfl) (by kernel_rfl) (by kernel_rfl) ⟨jl.ok, jf.ok, jh.ok, ji.ok, ko.ok, gq.ok, qz.ok, trivial⟩ trivial ?_ ?_
 · rw [loops]; exact ⟨bgu, trivial⟩
 · intro args K r h
   unfold av at h
   split at h
   · rw [P.ae6] at h; exact Eq.trans (by kernel_rfl) h
   · cases h
theorem ok : Proved Tryd.prog GLO.gB 75 spec := dz _ ok0
end jq

namespace qg
noncomputable def D : Ctx := ({ P := Tryd.prog, G := [(37, d9.spec), (38, jg.spec), (87, abj.spec), (88, uf.spec), (89, abo.spec)], globs := GLO.gB, hints := [], loops := [], inl := [] } : Ctx)
theorem loops : bg (Tryd.f68.body.getD .skip) = [] := by kernel_rfl
noncomputable def av : Abs.Spec := fun args K => match args with
 | [.sl (.ints .u8 a), .v (.int .u64 b), .v (.int .u64 c), .sl (.rows .u8 d)] => P.qg a b c d (fun e => K (.fr 5 (.ints .u8 e)))
 | _ => none
noncomputable def spec : Abs.Spec := fun args K => av (qb [.sl (.ints .u8 []), .any, .any, .sl (.rows .u8 [])] args) K
theorem ok0 : Proved Tryd.prog GLO.gB 68 av := by
 refine cu (D := D) (fn := Tryd.f68) (c := Tryd.f68.body.getD .skip) [.fr 5 (.ints .u8 [])] (by kernel_rfl) (ah (by kernel_rfl)) (by kernel_rfl) (by kernel_rfl) (by kernel_rfl) ⟨d9.ok, jg.ok, abj.ok, uf.ok, abo.ok, trivial⟩ trivial ?_ ?_
 · rw [loops]; exact trivial
 · intro args K r h
   unfold av at h
   split at h
   · rw [P.aqr] at h; exact Eq.trans (by kernel_rfl) h
   · cases h
theorem ok : Proved Tryd.prog GLO.gB 68 spec := dz _ ok0
end qg

namespace acz
abbrev biv := P.bj2
def ba3 : biv → ASt := fun (d, a, e, b, c) => ⟨[(0, .yld 9 [5, 13, 14] [.ptr 1 0, .ptr 5 0, .ptr 6 0]), (4, .v (.int .u64 d))], [(1, some ⟨.box 23 [.sl (.ints .u8 a)], false⟩), (4, some ⟨.row 5 (.ints .u8 e), true⟩), (5, some ⟨.box 23 [.sl (.ints .u8 b)], false⟩), (6, some ⟨.box 23 [.sl (.ints .u8 c)], false⟩)], 840, 19⟩
def bfn : ASt → Option biv
 | ⟨[(0, .yld 9 [5, 13, 14] [.ptr 1 0, .ptr 5 0, .ptr 6 0]), (4, .v (.int .u64 d))], [(1, some ⟨.box 23 [.sl (.ints .u8 a)], false⟩), (4, some ⟨.row 5 (.ints .u8 e), true⟩), (5, some ⟨.box 23 [.sl (.ints .u8 b)], false⟩), (6, some ⟨.box 23 [.sl (.ints .u8 c)], false⟩)], 840, 19⟩ => some (d, a, e, b, c)
 | _ => none
theorem avs (st) (x) (h : bfn st = some x) : st = ba3 x := by
 unfold bfn at h
 split at h
 · cases h; rfl
 · cases h
abbrev blv := P.bl6
def bjd (K : AExit → ASt → Option R) : blv → Option R := (fun x => K (.exit 0) (ba3 x))
noncomputable def bnf : aat := fun st K => ahy (bfn st) fun x => P.bmr x (bjd K)
noncomputable def D3 : Ctx := ({ P := Tryd.prog, G := [(32, jl.spec), (49, jf.spec), (68, qg.spec), (75, jq.spec)], globs := GLO.gB, hints := [], loops := [], inl := [], y := some (asz (aes Tryd.f52 8) 74 false) } : Ctx)
noncomputable def D2 : Ctx := ({ P := Tryd.prog, G := [(32, jl.spec), (49, jf.spec), (68, qg.spec), (75, jq.spec)], globs := GLO.gB, hints := [(1, ⟨[0, 4], [], [], [], some (840, [1, 4, 5, 6]), [1, 5, 6], [], []⟩)], loops := [(1, bnf)], inl := [], y := some (asz (aes Tryd.f52 8) 74 true), ys := some (al7 D3 (asz (aes Tryd.f52 8) 74 true)) } : Ctx)
noncomputable def D1 : Ctx := ({ P := Tryd.prog, G := [(32, jl.spec), (49, jf.spec), (68, qg.spec), (75, jq.spec)], globs := GLO.gB, hints := [], loops := [], inl := [] } : Ctx)
noncomputable def D : Ctx := ({ P := Tryd.prog, G := [(32, jl.spec), (49, jf.spec), (68, qg.spec), (75, jq.spec)], globs := GLO.gB, hints := [], loops := [], inl := [(47, agk D1 Tryd.f47)], top := true, rng := [(8, ⟨73, 74, [5, 13, 14], agk D2 Tryd.f73⟩)] } : Ctx)
theorem ari (K) (next) (x) : qw D2 (eu Tryd.f73 1) K next (ba3 x) = P.bjn x (fun x => next (ba3 x)) (bjd K) := by kernel_rfl
theorem awj : oh D2 (eu Tryd.f73 1) := jv ba3 avs (by kernel_rfl) P.boc ari
theorem loops : bg (Tryd.f52.body.getD .skip) = [] := by kernel_rfl
theorem asq : bg (Tryd.f47.body.getD .skip) = [] := by kernel_rfl
theorem azh : bg (Tryd.f73.body.getD .skip) = [eu Tryd.f73 1] := by kernel_rfl
theorem azf : bg (bhj (aes Tryd.f52 8)) = [] := by kernel_rfl
theorem ranges : p8 (Tryd.f52.body.getD .skip) = [aes Tryd.f52 8] := by kernel_rfl
theorem asa : ai4 D2 (al7 D3 (asz (aes Tryd.f52 8) 74 true)) := au4 (Y := asz (aes Tryd.f52 8) 74 true) (apy (D := D3) ⟨jl.ok, jf.ok, qg.ok, jq.ok, trivial⟩) (ah (by kernel_rfl)) (apj (D := D3) trivial (ak0 rfl)) (by kernel_rfl) rfl rfl (by kernel_rfl) (by kernel_rfl) rfl rfl rfl (ae0 _ (by rw [show bg (asz (aes Tryd.f52 8) 74 true).assign = [] from by kernel_rfl]; exact trivial)) (ae0 _ (by rw [show bg (asz (aes Tryd.f52 8) 74 true).body = bg (bhj (aes Tryd.f52 8)) from by kernel_rfl, azf]; exact trivial))
noncomputable def av : Abs.Spec := fun args K => match args with
 | [.agg [.v (.int .i64 a), .v (.int .i64 b)], .sl (.ints .u8 c), .sl (.ints .u8 d), .sl (.ints .u8 e)] => P.acz a b c d e (fun f => K (.sl (.ints .u8 f)))
 | _ => none
noncomputable def spec : Abs.Spec := fun args K => av (qb [.any, .sl (.ints .u8 []), .sl (.ints .u8 []), .sl (.ints .u8 [])] args) K
theorem ok0 : Proved Tryd.prog GLO.gB 52 av := by
 refine cu (D := D) (fn := Tryd.f52) (c := Tryd.f52.body.getD .skip) [.sl (.ints .u8 [])] (by kernel_rfl) (ah (by kernel_rfl)) (by kernel_rfl) (by kernel_rfl) (by kernel_rfl) ⟨jl.ok, jf.ok, qg.ok, jq.ok, trivial⟩ ⟨auh (D := D1) (D' := D) (fn := Tryd.f47) (c := Tryd.f47.body.getD .skip) rfl rfl (by kernel_rfl) (ah (by kernel_rfl)) (by kernel_rfl) (by kernel_rfl) (by kernel_rfl) ⟨jl.ok, jf.ok, qg.ok, jq.ok, trivial⟩ trivial (by rw [asq]; exact trivial) (fun _ _ _ _ _ h => h), trivial⟩ ?_ ?_ (hRg := by rw [ranges]; exact ⟨aqp (D := D) (Di := D2) (e := ⟨73, 74, [5, 13, 14], agk D2 Tryd.f73⟩) (by kernel_rfl) rfl rfl (by kernel_rfl) (auh (D := D2) (D' := D2) (fn := Tryd.f73) (c := Tryd.f73.body.getD .skip) rfl rfl (by kernel_rfl) (ah (by kernel_rfl)) (by kernel_rfl) (by kernel_rfl) (by kernel_rfl) ⟨jl.ok, jf.ok, qg.ok, jq.ok, trivial⟩ trivial (by rw [azh]; exact ⟨awj, trivial⟩) (fun _ _ _ _ _ h => h) rfl rfl (akp rfl _) (fun s hs => by have hs : some (al7 D3 (asz (aes Tryd.f52 8) 74 true)) = some s := hs; cases hs; exact asa)), trivial⟩)
 · rw [loops]; exact trivial
 · intro args K r h
   unfold av at h
   split at h
   · rw [P.anc] at h; exact Eq.trans (by kernel_rfl) h
   · cases h
theorem ok : Proved Tryd.prog GLO.gB 52 spec := dz _ ok0
end acz

namespace lg
noncomputable def D : Ctx := ({ P := Tryd.prog, G := [(25, abp.spec), (32, jl.spec), (43, abe.spec), (48, um.spec), (50, qj.spec), (51, vo.spec), (52, acz.spec)], globs := GLO.gB, hints := [], loops := [], inl := [] } : Ctx)
theorem loops : bg (Tryd.f27.body.getD .skip) = [] := by kernel_rfl
noncomputable def av : Abs.Spec := fun args K => match args with
 | [.sl (.ints .u8 a), .sl (.ints .u8 b), .sl (.ints .u8 c)] => P.lg a b c (fun d => K (.v (.int .i64 d)))
 | _ => none
noncomputable def spec : Abs.Spec := fun args K => av (qb [.sl (.ints .u8 []), .sl (.ints .u8 []), .sl (.ints .u8 [])] args) K
theorem ok0 : Proved Tryd.prog GLO.gB 27 av := by
 refine cu (D := D) (fn := Tryd.f27) (c := Tryd.f27.body.getD .skip) [.any] (by kernel_rfl) (ah (by kernel_rfl)) (by kernel_rfl) (by kernel_rfl) (by kernel_rfl) ⟨abp.ok, jl.ok, abe.ok, um.ok, qj.ok, vo.ok, acz.ok, trivial⟩ trivial ?_ ?_
 · rw [loops]; exact trivial
 · intro args K r h
   unfold av at h
   split at h
   · rw [P.afy] at h; exact Eq.trans (by kernel_rfl) h
   · cases h
theorem ok : Proved Tryd.prog GLO.gB 27 spec := dz _ ok0
end lg

namespace uj
noncomputable def D : Ctx := ({ P := Tryd.prog, G := [(26, y5.spec), (27, lg.spec), (30, w9.spec)], globs := GLO.gB, hints := [], loops := [], inl := [] } : Ctx)
theorem loops : bg (Tryd.f22.body.getD .skip) = [] := by kernel_rfl
noncomputable def av : Abs.Spec := fun args K => match args with
 | [] => P.uj (fun a => K (.v (.bool a)))
 | _ => none
noncomputable def spec : Abs.Spec := av
theorem ok0 : Proved Tryd.prog GLO.gB 22 av := by
 refine cu (D := D) (fn := Tryd.f22) (c := Tryd.f22.body.getD .skip) [.any] (by kernel_rfl) (ah (by kernel_rfl)) (by kernel_rfl) (by kernel_rfl) (by kernel_rfl) ⟨y5.ok, lg.ok, w9.ok, trivial⟩ trivial ?_ ?_
 · rw [loops]; exact trivial
 · intro args K r h
   unfold av at h
   split at h
   · rw [P.alm] at h; exact Eq.trans (by kernel_rfl) h
   · cases h
theorem ok : Proved Tryd.prog GLO.gB 22 spec := ok0
end uj

namespace adq
abbrev X2 := P.zt1
def S2 : X2 → ASt := fun (a, b, c) => ⟨[(5, .sl (.rows .u8 a)), (6, .v (.int .i64 b)), (7, .v (.int .i64 c))], [], 0, 15⟩
def V2 : ASt → Option X2
 | ⟨[(5, .sl (.rows .u8 a)), (6, .v (.int .i64 b)), (7, .v (.int .i64 c))], [], 0, 15⟩ => some (a, b, c)
 | _ => none
theorem bgc (st) (x) (h : V2 st = some x) : st = S2 x := by
 unfold V2 at h
 split at h
 · cases h; rfl
 · cases h
abbrev Y2 := P.zy1
def E2 (K : AExit → ASt → Option R) : Y2 → Option R := (Sum.elim (fun x => K (.exit 0) (S2 x)) (fun a => K .ret ⟨[(2, .v (.bool a))], [], 0, 15⟩))
noncomputable def L2 : aat := fun st K => ahy (V2 st) fun x => P.zm1 x (E2 K)
noncomputable def D : Ctx := ({ P := Tryd.prog, G := [], globs := GLO.gB, hints := [(2, ⟨[5, 6, 7], [], [2], [], none, [], [], []⟩)], loops := [(2, L2)], inl := [] } : Ctx)
theorem azz (K) (next) (x) : qw D (eu Tryd.f21 2) K next (S2 x) = P.zs1 x (fun x => next (S2 x)) (E2 K) := by kernel_rfl
theorem bg1 : oh D (eu Tryd.f21 2) := jv S2 bgc (by kernel_rfl) P.ze1 azz
theorem loops : bg (Tryd.f21.body.getD .skip) = [eu Tryd.f21 2] := by kernel_rfl
noncomputable def av : Abs.Spec := fun args K => match args with
 | [.sl (.rows .u8 a)] => P.adq a (fun b => K (.v (.bool b)))
 | _ => none
noncomputable def spec : Abs.Spec := fun args K => av (qb [.sl (.rows .u8 [])] args) K
theorem ok0 : Proved Tryd.prog GLO.gB 21 av := by
 refine cu (D := D) (fn := Tryd.f21) (c := Tryd.f21.body.getD .skip) [.any] (by kernel_rfl) (ah (by kernel_rfl)) (by kernel_rfl) (by kernel_rfl) (by kernel_rfl) trivial trivial ?_ ?_
 · rw [loops]; exact ⟨bg1, trivial⟩
 · intro args K r h
   unfold av at h
   split at h
   · rw [P.apv] at h; exact Eq.trans (by kernel_rfl) h
   · cases h
theorem ok : Proved Tryd.prog GLO.gB 21 spec := dz _ ok0
end adq

namespace aa2
abbrev X4 := P.bkr
def S4 : X4 → ASt := fun (a, b, c) => ⟨[(0, .sl (.ints .u8 a)), (1, .sl (.ints .u8 b)), (5, .v (.int .i64 c))], [], 0, 26⟩
def V4 : ASt → Option X4
 | ⟨[(0, .sl (.ints .u8 a)), (1, .sl (.ints .u8 b)), (5, .v (.int .i64 c))], [], 0, 26⟩ => some (a, b, c)
 | _ => none
theorem bcc (st) (x) (h : V4 st = some x) : st = S4 x := by
 unfold V4 at h
 split at h
 · cases h; rfl
 · cases h
abbrev Y4 := P.bn1
def E4 (K : AExit → ASt → Option R) : Y4 → Option R := (Sum.elim (fun x => K (.exit 0) (S4 x)) (fun a => K .ret ⟨[(4, .v (.bool a))], [], 0, 26⟩))
noncomputable def L4 : aat := fun st K => ahy (V4 st) fun x => P.bl3 x (E4 K)
noncomputable def D : Ctx := ({ P := Tryd.prog, G := [], globs := GLO.gB, hints := [(4, ⟨[0, 1, 5], [], [4], [], none, [], [], []⟩)], loops := [(4, L4)], inl := [] } : Ctx)
theorem att (K) (next) (x) : qw D (eu Tryd.f28 4) K next (S4 x) = P.bjj x (fun x => next (S4 x)) (E4 K) := by kernel_rfl
theorem bay : oh D (eu Tryd.f28 4) := jv S4 bcc (by kernel_rfl) P.boj att
theorem loops : bg (Tryd.f28.body.getD .skip) = [eu Tryd.f28 4] := by kernel_rfl
noncomputable def av : Abs.Spec := fun args K => match args with
 | [.sl (.ints .u8 a), .sl (.ints .u8 b)] => P.aa2 a b (fun c => K (.v (.bool c)))
 | _ => none
noncomputable def spec : Abs.Spec := fun args K => av (qb [.sl (.ints .u8 []), .sl (.ints .u8 [])] args) K
theorem ok0 : Proved Tryd.prog GLO.gB 28 av := by
 refine cu (D := D) (fn := Tryd.f28) (c := Tryd.f28.body.getD .skip) [.any] (by kernel_rfl) (ah (by kernel_rfl)) (by kernel_rfl) (by kernel_rfl) (by kernel_rfl) trivial trivial ?_ ?_
 · rw [loops]; exact ⟨bay, trivial⟩
 · intro args K r h
   unfold av at h
   split at h
   · rw [P.anh] at h; exact Eq.trans (by kernel_rfl) h
   · cases h
theorem ok : Proved Tryd.prog GLO.gB 28 spec := dz _ ok0
end aa2

namespace kr
noncomputable def D : Ctx := ({ P := Tryd.prog, G := [(86, gq.spec)], globs := GLO.gB, hints := [], loops := [], inl := [] } : Ctx)
theorem loops : bg (Tryd.f70.body.getD .skip) = [] := by kernel_rfl
noncomputable def av : Abs.Spec := fun args K => match args with
 | [.agg [.v (.int .i64 e), .sl (.ints .u8 d), .v (.int .u32 f), .v (.int .i64 a), .v (.int .i64 b), .v (.int .i64 c)], .v (.int .u64 g), .sl (.ints .u8 h)] => P.kr e d f a b c g h (fun i => K (.fr 5 (.ints .u8 i)))
 | _ => none
noncomputable def spec : Abs.Spec := fun args K => av (qb [.agg [.any, .sl (.ints .u8 []), .any, .any, .any, .any], .any, .sl (.ints .u8 [])] args) K
theorem ok0 : Proved Tryd.prog GLO.gB 70 av := by
 refine cu (D := D) (fn := Tryd.f70) (c := Tryd.f70.body.getD .skip) [.fr 5 (.ints .u8 [])] (by kernel_rfl) (ah (by kernel_rfl)) (by kernel_rfl) (by kernel_rfl) (by kernel_rfl) ⟨gq.ok, trivial⟩ trivial ?_ ?_
 · rw [loops]; exact trivial
 · intro args K r h
   unfold av at h
   split at h
   · rw [P.ae8] at h; exact Eq.trans (by kernel_rfl) h
   · cases h
theorem ok : Proved Tryd.prog GLO.gB 70 spec := dz _ ok0
end kr

namespace pq
noncomputable def D : Ctx := ({ P := Tryd.prog, G := [(90, qz.spec)], globs := GLO.gB, hints := [], loops := [], inl := [] } : Ctx)
theorem loops : bg (Tryd.f69.body.getD .skip) = [] := by kernel_rfl
noncomputable def av : Abs.Spec := fun args K => match args with
 | [.v (.int .i64 g), .sl (.ints .u8 h), .v (.int .u32 i), .sl (.ints .u8 j)] => P.pq g h i j (fun e d f a b c k => K (.tuple [.agg [.v (.int .i64 e), .sl (.ints .u8 d), .v (.int .u32 f), .v (.int .i64 a), .v (.int .i64 b), .v (.int .i64 c)], .v (.int .i64 k)]))
 | _ => none
noncomputable def spec : Abs.Spec := fun args K => av (qb [.any, .sl (.ints .u8 []), .any, .sl (.ints .u8 [])] args) K
theorem ok0 : Proved Tryd.prog GLO.gB 69 av := by
 refine cu (D := D) (fn := Tryd.f69) (c := Tryd.f69.body.getD .skip) [.agg [.any, .sl (.ints .u8 []), .any, .any, .any, .any], .any] (by kernel_rfl) (ah (by kernel_rfl)) (by kernel_rfl) (by kernel_rfl) (by kernel_rfl) ⟨qz.ok, trivial⟩ trivial ?_ ?_
 · rw [loops]; exact trivial
 · intro args K r h
   unfold av at h
   split at h
   · rw [P.ahi] at h; exact Eq.trans (by kernel_rfl) h
   · cases h
theorem ok : Proved Tryd.prog GLO.gB 69 spec := dz _ ok0
end pq

namespace vw
abbrev X6 := P.bid
def S6 : X6 → ASt := fun (i, g, h, j, a, b, c, d, e, f) => ⟨[(12, .own 1), (3, .sl (.ints .u8 i)), (10, .ptr 0 0), (27, .v (.int .i64 g)), (28, .v (.int .i64 h))], [(1, some ⟨.row 5 (.ints .u8 j), false⟩), (0, some ⟨.box 103 [.v (.int .i64 a), .sl (.ints .u8 b), .v (.int .u32 c), .v (.int .i64 d), .v (.int .i64 e), .v (.int .i64 f)], false⟩)], 2, 48⟩
def V6 : ASt → Option X6
 | ⟨[(12, .own 1), (3, .sl (.ints .u8 i)), (10, .ptr 0 0), (27, .v (.int .i64 g)), (28, .v (.int .i64 h))], [(1, some ⟨.row 5 (.ints .u8 j), false⟩), (0, some ⟨.box 103 [.v (.int .i64 a), .sl (.ints .u8 b), .v (.int .u32 c), .v (.int .i64 d), .v (.int .i64 e), .v (.int .i64 f)], false⟩)], 2, 48⟩ => some (i, g, h, j, a, b, c, d, e, f)
 | _ => none
theorem bfm (st) (x) (h : V6 st = some x) : st = S6 x := by
 unfold V6 at h
 split at h
 · cases h; rfl
 · cases h
abbrev Y6 := P.bns
def E6 (K : AExit → ASt → Option R) : Y6 → Option R := (fun x => K (.exit 0) (S6 x))
noncomputable def L6 : aat := fun st K => ahy (V6 st) fun x => P.bnt x (E6 K)
noncomputable def D : Ctx := ({ P := Tryd.prog, G := [(69, pq.spec), (70, kr.spec), (72, ji.spec), (85, ko.spec), (86, gq.spec)], globs := GLO.gB, hints := [(6, ⟨[3, 10, 27, 28], [(12, 5, .ints .u8 [])], [8, 9], [], none, [], [], []⟩)], loops := [(6, L6)], inl := [] } : Ctx)
theorem bbw (K) (next) (x) : qw D (eu Tryd.f67 6) K next (S6 x) = P.bhs x (fun x => next (S6 x)) (E6 K) := by kernel_rfl
theorem bfw : oh D (eu Tryd.f67 6) := jv S6 bfm (by kernel_rfl) P.bn3 bbw
theorem loops : bg (Tryd.f67.body.getD .skip) = [eu Tryd.f67 6] := by kernel_rfl
noncomputable def av : Abs.Spec := fun args K => match args with
 | [.v (.int .i64 a), .sl (.ints .u8 b), .v (.int .u32 c), .sl (.ints .u8 d)] => P.vw a b c d (fun e f => K (.tuple [.fr 5 (.ints .u8 e), .v (.int .i64 f)]))
 | _ => none
noncomputable def spec : Abs.Spec := fun args K => av (qb [.any, .sl (.ints .u8 []), .any, .sl (.ints .u8 [])] args) K
theorem ok0 : Proved Tryd.prog GLO.gB 67 av := by
 refine cu (D := D) (fn := Tryd.f67) (c := Tryd.f67.body.getD .skip) [.fr 5 (.ints .u8 []), .any] (by kernel_rfl) (ah (by kernel_rfl)) (by kernel_rfl) (by kernel_rfl) (by kernel_rfl) ⟨pq.ok, kr.ok, ji.ok, ko.ok, gq.ok, trivial⟩ trivial ?_ ?_
 · rw [loops]; exact ⟨bfw, trivial⟩
 · intro args K r h
   unfold av at h
   split at h
   · rw [P.aha] at h; exact Eq.trans (by kernel_rfl) h
   · cases h
theorem ok : Proved Tryd.prog GLO.gB 67 spec := dz _ ok0
end vw

namespace fq
noncomputable def awq (n : Nat) : Abs.Spec := fun args K => match args with
 | [.sta [.v (.int .i64 a), .v (.int .i64 b), .sl (.ints .u8 d), .sl (.ints .u8 c)], .v (.int .u64 e)] => P.fq n a b d c e (fun f => K (.fr 5 (.ints .u8 f)))
 | _ => none
noncomputable def bl5 (n : Nat) : Abs.Spec := fun args K => awq n (qb [.agg [.any, .any, .sl (.ints .u8 []), .sl (.ints .u8 [])], .any] args) K
noncomputable def D (n : Nat) : Ctx := ({ P := Tryd.prog, G := [(67, vw.spec), (68, qg.spec), (44, bl5 n)], globs := GLO.gB, hints := [], loops := [], inl := [] } : Ctx)
theorem body (n : Nat) (a : Int) (b : Int) (d : List Int) (c : List Int) (e : Int) (K : AVal → Option R) : bc9 (D n) Tryd.f44 [.fr 5 (.ints .u8 [])] [.sta [.v (.int .i64 a), .v (.int .i64 b), .sl (.ints .u8 d), .sl (.ints .u8 c)], .v (.int .u64 e)] K = P.fq (n + 1) a b d c e (fun f => K (.fr 5 (.ints .u8 f))) := by
 rw [P.ab6]
 kernel_rfl
theorem loops : bg (Tryd.f44.body.getD .skip) = [] := by kernel_rfl
noncomputable def av : Abs.Spec := fun args K => match args with
 | [.sta [.v (.int .i64 a), .v (.int .i64 b), .sl (.ints .u8 d), .sl (.ints .u8 c)], .v (.int .u64 e)] => P.fq ((a.toNat+2)) a b d c e (fun f => K (.fr 5 (.ints .u8 f)))
 | _ => none
noncomputable def spec : Abs.Spec := fun args K => av (qb [.agg [.any, .any, .sl (.ints .u8 []), .sl (.ints .u8 [])], .any] args) K
theorem step (n : Nat) (ih : Proved Tryd.prog GLO.gB 44 (awq n)) : Proved Tryd.prog GLO.gB 44 (awq (n + 1)) := by
 refine cu (D := D n) (fn := Tryd.f44) (c := Tryd.f44.body.getD .skip) [.fr 5 (.ints .u8 [])] (by kernel_rfl) (ah (by kernel_rfl)) (by kernel_rfl) (by kernel_rfl) (by kernel_rfl) ⟨vw.ok, qg.ok, dz _ ih, trivial⟩ trivial ?_ ?_
 · rw [loops]; exact trivial
 · intro args K r h
   unfold awq at h
   split at h
   · rw [body]; exact h
   · cases h
theorem okN : ∀ n, Proved Tryd.prog GLO.gB 44 (awq n)
 | 0 => ⟨⟨Tryd.f44, by kernel_rfl, by kernel_rfl, by kernel_rfl⟩, fun args K r h => by unfold awq at h; split at h <;> cases h⟩
 | n + 1 => step n (okN n)
theorem ok0 : Proved Tryd.prog GLO.gB 44 av := ⟨(okN 0).enters, fun args K r h => by
 unfold av at h
 split at h
 · exact (okN _).sound _ K r (by unfold awq; exact h)
 · cases h⟩
theorem ok : Proved Tryd.prog GLO.gB 44 spec := dz _ ok0
end fq

namespace qc
noncomputable def D : Ctx := ({ P := Tryd.prog, G := [(30, w9.spec)], globs := GLO.gB, hints := [], loops := [], inl := [] } : Ctx)
theorem loops : bg (Tryd.f42.body.getD .skip) = [] := by kernel_rfl
noncomputable def av : Abs.Spec := fun args K => match args with
 | [.agg [.v (.int .i64 a), .v (.int .i64 b)], .sl (.ints .u8 c), .sl (.ints .u8 d)] => P.qc a b c d (fun e => K (.v (.int .i64 e)))
 | _ => none
noncomputable def spec : Abs.Spec := fun args K => av (qb [.any, .sl (.ints .u8 []), .sl (.ints .u8 [])] args) K
theorem ok0 : Proved Tryd.prog GLO.gB 42 av := by
 refine cu (D := D) (fn := Tryd.f42) (c := Tryd.f42.body.getD .skip) [.any] (by kernel_rfl) (ah (by kernel_rfl)) (by kernel_rfl) (by kernel_rfl) (by kernel_rfl) ⟨w9.ok, trivial⟩ trivial ?_ ?_
 · rw [loops]; exact trivial
 · intro args K r h
   unfold av at h
   split at h
   · rw [P.aly] at h; exact Eq.trans (by kernel_rfl) h
   · cases h
theorem ok : Proved Tryd.prog GLO.gB 42 spec := dz _ ok0
end qc

namespace aay
noncomputable def D : Ctx := ({ P := Tryd.prog, G := [(37, d9.spec), (42, qc.spec), (43, abe.spec), (44, fq.spec)], globs := GLO.gB, hints := [], loops := [], inl := [], sta := true } : Ctx)
theorem loops : bg (Tryd.f23.body.getD .skip) = [] := by kernel_rfl
noncomputable def av : Abs.Spec := fun args K => match args with
 | [.agg [.v (.int .i64 a), .v (.int .i64 b)], .sl (.ints .u8 c), .sl (.ints .u8 d)] => P.aay a b c d (fun e f => K (.tuple [.fr 5 (.ints .u8 e), .v (.int .i64 f)]))
 | _ => none
noncomputable def spec : Abs.Spec := fun args K => av (qb [.any, .sl (.ints .u8 []), .sl (.ints .u8 [])] args) K
theorem ok0 : Proved Tryd.prog GLO.gB 23 av := by
 refine cu (D := D) (fn := Tryd.f23) (c := Tryd.f23.body.getD .skip) [.fr 5 (.ints .u8 []), .any] (by kernel_rfl) (ah (by kernel_rfl)) (by kernel_rfl) (by kernel_rfl) (by kernel_rfl) ⟨d9.ok, qc.ok, abe.ok, fq.ok, trivial⟩ trivial ?_ ?_
 · rw [loops]; exact trivial
 · intro args K r h
   unfold av at h
   split at h
   · rw [P.akn] at h; exact Eq.trans (by kernel_rfl) h
   · cases h
theorem ok : Proved Tryd.prog GLO.gB 23 spec := dz _ ok0
end aay

namespace qh
abbrev X7 := P.bjs
def S7 : X7 → ASt := fun (j, g, h, i, a, b, c, d, e, f, k) => ⟨[(15, .own 40), (3, .sl (.ints .u8 j)), (12, .ptr 0 0), (43, .own 5), (44, .v (.int .i64 g)), (45, .v (.int .i64 h))], [(40, some ⟨.row 5 (.ints .u8 i), false⟩), (0, some ⟨.box 103 [.v (.int .i64 a), .sl (.ints .u8 b), .v (.int .u32 c), .v (.int .i64 d), .v (.int .i64 e), .v (.int .i64 f)], false⟩), (5, some ⟨.row 42 (.ints .u32 k), false⟩)], 41, 63⟩
def V7 : ASt → Option X7
 | ⟨[(15, .own 40), (3, .sl (.ints .u8 j)), (12, .ptr 0 0), (43, .own 5), (44, .v (.int .i64 g)), (45, .v (.int .i64 h))], [(40, some ⟨.row 5 (.ints .u8 i), false⟩), (0, some ⟨.box 103 [.v (.int .i64 a), .sl (.ints .u8 b), .v (.int .u32 c), .v (.int .i64 d), .v (.int .i64 e), .v (.int .i64 f)], false⟩), (5, some ⟨.row 42 (.ints .u32 k), false⟩)], 41, 63⟩ => some (j, g, h, i, a, b, c, d, e, f, k)
 | _ => none
theorem blm (st) (x) (h : V7 st = some x) : st = S7 x := by
 unfold V7 at h
 split at h
 · cases h; rfl
 · cases h
abbrev Y7 := P.bn0
def E7 (K : AExit → ASt → Option R) : Y7 → Option R := (fun x => K (.exit 0) (S7 x))
noncomputable def L7 : aat := fun st K => ahy (V7 st) fun x => P.bme x (E7 K)
noncomputable def D : Ctx := ({ P := Tryd.prog, G := [(37, d9.spec), (38, jg.spec), (69, pq.spec), (70, kr.spec), (71, jh.spec), (72, ji.spec)], globs := GLO.gB, hints := [(7, ⟨[3, 12, 43, 44, 45], [(15, 5, .ints .u8 [])], [10, 11], [], some (40, [0, 5]), [], [], []⟩)], loops := [(7, L7)], inl := [] } : Ctx)
theorem bht (K) (next) (x) : qw D (eu Tryd.f45 7) K next (S7 x) = P.bij x (fun x => next (S7 x)) (E7 K) := by kernel_rfl
theorem bnx : oh D (eu Tryd.f45 7) := jv S7 blm (by kernel_rfl) P.bos bht
theorem loops : bg (Tryd.f45.body.getD .skip) = [eu Tryd.f45 7] := by kernel_rfl
noncomputable def av : Abs.Spec := fun args K => match args with
 | [.v (.int .i64 a), .sl (.ints .u8 b), .v (.int .u32 c), .sl (.ints .u8 d), .sl (.ints .u8 e)] => P.qh a b c d e (fun f g => K (.tuple [.fr 5 (.ints .u8 f), .v (.int .i64 g)]))
 | _ => none
noncomputable def spec : Abs.Spec := fun args K => av (qb [.any, .sl (.ints .u8 []), .any, .sl (.ints .u8 []), .sl (.ints .u8 [])] args) K
theorem ok0 : Proved Tryd.prog GLO.gB 45 av := by
 refine cu (D := D) (fn := Tryd.f45) (c := Tryd.f45.body.getD .skip) [.fr 5 (.ints .u8 []), .any] (by kernel_rfl) (ah (by kernel_rfl)) (by kernel_rfl) (by kernel_rfl) (by kernel_rfl) ⟨d9.ok, jg.ok, pq.ok, kr.ok, jh.ok, ji.ok, trivial⟩ trivial ?_ ?_
 · rw [loops]; exact ⟨bnx, trivial⟩
 · intro args K r h
   unfold av at h
   split at h
   · rw [P.ajc] at h; exact Eq.trans (by kernel_rfl) h
   · cases h
theorem ok : Proved Tryd.prog GLO.gB 45 spec := dz _ ok0
end qh

end
