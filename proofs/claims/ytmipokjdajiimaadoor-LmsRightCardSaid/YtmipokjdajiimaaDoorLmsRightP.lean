/-
  LmsRight, part 16: an interpreter of my own over abstract values, the pure functions, the walks and the plain law.
-/

import Derived.Test.YtmipokjdajiimaaDoorLmsRightK
import Derived.Test.YtmipokjdajiimaaDoorLmsRightH
import Derived.Test.YtmipokjdajiimaaDoorProg
import Derived.Test.YtmipokjdajiimaaDoorLmsRightJ
import Derived.Test.YtmipokjdajiimaaDoorLmsRightL
import Derived.Test.YtmipokjdajiimaaDoorLmsRightO
import Derived.KernelRfl

section
open Go Go.Abs Go.Proofs
set_option maxRecDepth 100000
set_option maxHeartbeats 0
set_option linter.unusedVariables false

namespace ac1
abbrev biv := P.bhl
def ba3 : biv → ASt := fun (f, e, a, b, c, d) => ⟨[(0, .yld 11 [15, 17] [.ptr 6 0, .ptr 8 0]), (4, .v (.int .u64 f))], [(840, some ⟨.row 5 (.ints .u8 e), false⟩), (6, some ⟨.box 23 [.own 840], false⟩), (8, some ⟨.box 82 [.fn (.func 44) [.sta [.v (.int .i64 a), .v (.int .i64 b), .sl (.ints .u8 c), .sl (.ints .u8 d)]] []], false⟩)], 841, 19⟩
def bfn : ASt → Option biv
 | ⟨[(0, .yld 11 [15, 17] [.ptr 6 0, .ptr 8 0]), (4, .v (.int .u64 f))], [(840, some ⟨.row 5 (.ints .u8 e), false⟩), (6, some ⟨.box 23 [.own 840], false⟩), (8, some ⟨.box 82 [.fn (.func 44) [.sta [.v (.int .i64 a), .v (.int .i64 b), .sl (.ints .u8 c), .sl (.ints .u8 d)]] []], false⟩)], 841, 19⟩ => some (f, e, a, b, c, d)
 | _ => none
theorem avs (st) (x) (h : bfn st = some x) : st = ba3 x := by
 unfold bfn at h
 split at h
 · cases h; rfl
 · cases h
abbrev blv := P.bm1
def bjd (K : AExit → ASt → Option R) : blv → Option R := (fun x => K (.exit 0) (ba3 x))
noncomputable def bnf : aat := fun st K => ahy (bfn st) fun x => P.bk9 x (bjd K)
noncomputable def D3 : Ctx := ({ P := Tryd.prog, G := [(37, d9.spec), (38, jg.spec), (42, qc.spec), (44, fq.spec), (45, qh.spec), (46, mg.spec)], globs := GLO.gB, hints := [], loops := [], inl := [], y := some (asz (aes Tryd.f24 12) 70 false), sta := true } : Ctx)
noncomputable def D2 : Ctx := ({ P := Tryd.prog, G := [(37, d9.spec), (38, jg.spec), (42, qc.spec), (44, fq.spec), (45, qh.spec), (46, mg.spec)], globs := GLO.gB, hints := [(1, ⟨[0, 4], [(1000006, 5, .ints .u8 [])], [], [], some (840, [6, 8]), [8], [], []⟩)], loops := [(1, bnf)], inl := [], y := some (asz (aes Tryd.f24 12) 70 true), ys := some (al7 D3 (asz (aes Tryd.f24 12) 70 true)) } : Ctx)
noncomputable def D1 : Ctx := ({ P := Tryd.prog, G := [(37, d9.spec), (38, jg.spec), (42, qc.spec), (44, fq.spec), (45, qh.spec), (46, mg.spec)], globs := GLO.gB, hints := [], loops := [], inl := [] } : Ctx)
noncomputable def D : Ctx := ({ P := Tryd.prog, G := [(37, d9.spec), (38, jg.spec), (42, qc.spec), (44, fq.spec), (45, qh.spec), (46, mg.spec)], globs := GLO.gB, hints := [], loops := [], inl := [(47, agk D1 Tryd.f47)], top := true, rng := [(12, ⟨73, 70, [15, 17], agk D2 Tryd.f73⟩)], sta := true } : Ctx)
theorem ari (K) (next) (x) : qw D2 (eu Tryd.f73 1) K next (ba3 x) = P.bjx x (fun x => next (ba3 x)) (bjd K) := by kernel_rfl
theorem awj : oh D2 (eu Tryd.f73 1) := jv ba3 avs (by kernel_rfl) P.bok ari
theorem loops : bg (Tryd.f24.body.getD .skip) = [] := by kernel_rfl
theorem asq : bg (Tryd.f47.body.getD .skip) = [] := by kernel_rfl
theorem azh : bg (Tryd.f73.body.getD .skip) = [eu Tryd.f73 1] := by kernel_rfl
theorem azf : bg (bhj (aes Tryd.f24 12)) = [] := by kernel_rfl
theorem ranges : p8 (Tryd.f24.body.getD .skip) = [aes Tryd.f24 12] := by kernel_rfl
theorem asa : ai4 D2 (al7 D3 (asz (aes Tryd.f24 12) 70 true)) := au4 (Y := asz (aes Tryd.f24 12) 70 true) (apy (D := D3) ⟨d9.ok, jg.ok, qc.ok, fq.ok, qh.ok, mg.ok, trivial⟩) (ah (by kernel_rfl)) (apj (D := D3) trivial (ak0 rfl)) (by kernel_rfl) rfl rfl (by kernel_rfl) (by kernel_rfl) rfl rfl rfl (ae0 _ (by rw [show bg (asz (aes Tryd.f24 12) 70 true).assign = [] from by kernel_rfl]; exact trivial)) (ae0 _ (by rw [show bg (asz (aes Tryd.f24 12) 70 true).body = bg (bhj (aes Tryd.f24 12)) from by kernel_rfl, azf]; exact trivial))
noncomputable def av : Abs.Spec := fun args K => match args with
 | [.agg [.v (.int .i64 a), .v (.int .i64 b)], .sl (.ints .u8 c), .sl (.ints .u8 d), .v (.int .u32 e), .sl (.ints .u8 f)] => P.ac1 a b c d e f (fun g h => K (.tuple [.fr 5 (.ints .u8 g), .v (.int .i64 h)]))
 | _ => none
noncomputable def spec : Abs.Spec := fun args K => av (qb [.any, .sl (.ints .u8 []), .sl (.ints .u8 []), .any, .sl (.ints .u8 [])] args) K
theorem ok0 : Proved Tryd.prog GLO.gB 24 av := by
 refine cu (D := D) (fn := Tryd.f24) (c := Tryd.f24.body.getD .skip) [.fr 5 (.ints .u8 []), .any] (by kernel_rfl) (ah (by kernel_rfl)) (by kernel_rfl) (by kernel_rfl) (by kernel_rfl) ⟨d9.ok, jg.ok, qc.ok, fq.ok, qh.ok, mg.ok, trivial⟩ ⟨auh (D := D1) (D' := D) (fn := Tryd.f47) (c := Tryd.f47.body.getD .skip) rfl rfl (by kernel_rfl) (ah (by kernel_rfl)) (by kernel_rfl) (by kernel_rfl) (by kernel_rfl) ⟨d9.ok, jg.ok, qc.ok, fq.ok, qh.ok, mg.ok, trivial⟩ trivial (by rw [asq]; exact trivial) (fun _ _ _ _ _ h => h), trivial⟩ ?_ ?_ (hRg := by rw [ranges]; exact ⟨aqp (D := D) (Di := D2) (e := ⟨73, 70, [15, 17], agk D2 Tryd.f73⟩) (by kernel_rfl) rfl rfl (by kernel_rfl) (auh (D := D2) (D' := D2) (fn := Tryd.f73) (c := Tryd.f73.body.getD .skip) rfl rfl (by kernel_rfl) (ah (by kernel_rfl)) (by kernel_rfl) (by kernel_rfl) (by kernel_rfl) ⟨d9.ok, jg.ok, qc.ok, fq.ok, qh.ok, mg.ok, trivial⟩ trivial (by rw [azh]; exact ⟨awj, trivial⟩) (fun _ _ _ _ _ h => h) rfl rfl (akp rfl _) (fun s hs => by have hs : some (al7 D3 (asz (aes Tryd.f24 12) 70 true)) = some s := hs; cases hs; exact asa)), trivial⟩)
 · rw [loops]; exact trivial
 · intro args K r h
   unfold av at h
   split at h
   · rw [P.aix] at h; exact Eq.trans (by kernel_rfl) h
   · cases h
theorem ok : Proved Tryd.prog GLO.gB 24 spec := dz _ ok0
end ac1

namespace vv
noncomputable def D : Ctx := ({ P := Tryd.prog, G := [(21, adq.spec), (22, uj.spec), (23, aay.spec), (24, ac1.spec), (25, abp.spec), (26, y5.spec), (27, lg.spec), (28, aa2.spec)], globs := GLO.gB, hints := [], loops := [], inl := [] } : Ctx)
theorem loops : bg (Tryd.f7.body.getD .skip) = [] := by kernel_rfl
noncomputable def av : Abs.Spec := fun args K => match args with
 | [.v (.int .u8 a), .v (.int .u8 b), .arr .u8 16 c, .arr .u8 32 d, .v (.int .u32 e), .sl (.ints .u8 f), .sl (.ints .u8 g)] => P.vv a b c d e f g (fun h => K (.v (.bool h)))
 | _ => none
noncomputable def spec : Abs.Spec := fun args K => av (qb [.any, .any, .any, .any, .any, .sl (.ints .u8 []), .sl (.ints .u8 [])] args) K
theorem ok0 : Proved Tryd.prog GLO.gB 7 av := by
 refine cu (D := D) (fn := Tryd.f7) (c := Tryd.f7.body.getD .skip) [.any] (by kernel_rfl) (ah (by kernel_rfl)) (by kernel_rfl) (by kernel_rfl) (by kernel_rfl) ⟨adq.ok, uj.ok, aay.ok, ac1.ok, abp.ok, y5.ok, lg.ok, aa2.ok, trivial⟩ trivial ?_ ?_
 · rw [loops]; exact trivial
 · intro args K r h
   unfold av at h
   split at h
   · rw [P.ag6] at h; exact Eq.trans (by kernel_rfl) h
   · cases h
theorem ok : Proved Tryd.prog GLO.gB 7 spec := dz _ ok0
end vv

end
