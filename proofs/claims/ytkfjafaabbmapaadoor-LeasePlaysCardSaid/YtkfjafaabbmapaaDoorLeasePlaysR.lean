/-
  LeasePlays, part 18: an interpreter of my own over abstract values, the pure functions, the walks and the plain law.
-/

import Derived.Test.YtkfjafaabbmapaaDoorLeasePlaysK
import Derived.Test.YtkfjafaabbmapaaDoorLeasePlaysH
import Derived.Test.YtkfjafaabbmapaaDoorProg
import Derived.Test.YtkfjafaabbmapaaDoorLeasePlaysJ
import Derived.Test.YtkfjafaabbmapaaDoorLeasePlaysQ
import Derived.KernelRfl
import Derived.Test.YtkfjafaabbmapaaDoorLeasePlaysP
import Derived.Test.YtkfjafaabbmapaaDoorLeasePlaysO

section
open Go Go.Abs Go.Proofs
set_option maxRecDepth 100000
set_option maxHeartbeats 0
set_option linter.unusedVariables false

namespace ab8
noncomputable def D : Ctx := ({ P := Tryd.prog, G := [(32, ab7.spec)], globs := GLO.gB, hints := [], loops := [], inl := [] } : Ctx)
theorem loops : dh (Tryd.f14.body.getD .skip) = [] := by kernel_rfl
noncomputable def bg : Abs.Spec := fun args K => match args with
 | [.agg [.sl (.ints .u8 a), .sl (.ints .u8 b), .v (.int .u64 e), .v (.int .u64 g), .v (.int .u64 k), .v (.int .u64 h), .v (.bool m)], .agg [.sl (.ints .u8 c), .sl (.ints .u8 d), .v (.int .u64 f), .v (.int .u64 i), .v (.int .u64 l), .v (.int .u64 j), .v (.bool n)]] => P.ab8 a b e g k h m c d f i l j n (fun o => K (.v (.bool o)))
 | _ => none
noncomputable def spec : Abs.Spec := fun args K => bg (nk [.agg [.sl (.ints .u8 []), .sl (.ints .u8 []), .any, .any, .any, .any, .any], .agg [.sl (.ints .u8 []), .sl (.ints .u8 []), .any, .any, .any, .any, .any]] args) K
theorem ok0 : Proved Tryd.prog GLO.gB 14 bg := by
 refine fq (D := D) (fn := Tryd.f14) (c := Tryd.f14.body.getD .skip) [.any] (by kernel_rfl) (au (by kernel_rfl)) (by kernel_rfl) (by kernel_rfl) (by kernel_rfl) ⟨ab7.ok, trivial⟩ trivial ?_ ?_
 · rw [loops]; exact trivial
 · intro args K r h
   unfold bg at h
   split at h
   · rw [P.ap6] at h; exact Eq.trans (by kernel_rfl) h
   · cases h
theorem ok : Proved Tryd.prog GLO.gB 14 spec := gu _ ok0
end ab8

namespace qw
abbrev X4 := P.blv
def S4 : X4 → ASt := fun (a, b, c) => ⟨[(0, .sl (.ints .u64 a)), (1, .sl (.ints .u64 b)), (5, .v (.int .i64 c))], [], 0, 26⟩
def V4 : ASt → Option X4
 | ⟨[(0, .sl (.ints .u64 a)), (1, .sl (.ints .u64 b)), (5, .v (.int .i64 c))], [], 0, 26⟩ => some (a, b, c)
 | _ => none
theorem amr (st) (x) (h : V4 st = some x) : st = S4 x := by
 unfold V4 at h
 split at h
 · cases h; rfl
 · cases h
abbrev Y4 := P.bn6
def E4 (K : AExit → ASt → Option R) : Y4 → Option R := (Sum.elim (fun x => K (.exit 0) (S4 x)) (fun a => K .ret ⟨[(4, .v (.bool a))], [], 0, 26⟩))
noncomputable def L4 : yu := fun st K => ag3 (V4 st) fun x => P.bpq x (E4 K)
noncomputable def D : Ctx := ({ P := Tryd.prog, G := [], globs := GLO.gB, hints := [(4, ⟨[0, 1, 5], [], [4], [], none, [], [], []⟩)], loops := [(4, L4)], inl := [] } : Ctx)
theorem af6 (K) (next) (x) : oq D (iw Tryd.f23 4) K next (S4 x) = P.bjz x (fun x => next (S4 x)) (E4 K) := by kernel_rfl
theorem ams : ng D (iw Tryd.f23 4) := jl S4 amr (by kernel_rfl) P.bqo af6
theorem loops : dh (Tryd.f23.body.getD .skip) = [iw Tryd.f23 4] := by kernel_rfl
noncomputable def bg : Abs.Spec := fun args K => match args with
 | [.sl (.ints .u64 a), .sl (.ints .u64 b)] => P.qw a b (fun c => K (.v (.bool c)))
 | _ => none
noncomputable def spec : Abs.Spec := fun args K => bg (nk [.sl (.ints .u64 []), .sl (.ints .u64 [])] args) K
theorem ok0 : Proved Tryd.prog GLO.gB 23 bg := by
 refine fq (D := D) (fn := Tryd.f23) (c := Tryd.f23.body.getD .skip) [.any] (by kernel_rfl) (au (by kernel_rfl)) (by kernel_rfl) (by kernel_rfl) (by kernel_rfl) trivial trivial ?_ ?_
 · rw [loops]; exact ⟨ams, trivial⟩
 · intro args K r h
   unfold bg at h
   split at h
   · rw [P.ail] at h; exact Eq.trans (by kernel_rfl) h
   · cases h
theorem ok : Proved Tryd.prog GLO.gB 23 spec := gu _ ok0
end qw

namespace qm
noncomputable def D : Ctx := ({ P := Tryd.prog, G := [(8, agr.spec), (9, uz.spec), (14, ab8.spec), (16, agq.spec), (23, qw.spec), (24, qd.spec), (25, ab9.spec)], globs := GLO.gB, hints := [], loops := [], inl := [] } : Ctx)
theorem loops : dh (Tryd.f4.body.getD .skip) = [] := by kernel_rfl
noncomputable def bg : Abs.Spec := fun args K => match args with
 | [.agg [.sl (.ints .u8 a), .sl (.ints .u8 b), .v (.int .u64 c), .v (.int .u64 d), .v (.int .u64 f), .v (.int .u64 e), .v (.bool g)], .sl (.cols h [.ints .i64 i, .ints .i64 j, .rows .u8 k])] => P.qm a b c d f e g h i j k (fun l => K (.v (.bool l)))
 | _ => none
noncomputable def spec : Abs.Spec := fun args K => bg (nk [.agg [.sl (.ints .u8 []), .sl (.ints .u8 []), .any, .any, .any, .any, .any], .sl (.cols 0 [.ints .i64 [], .ints .i64 [], .rows .u8 []])] args) K
theorem ok0 : Proved Tryd.prog GLO.gB 4 bg := by
 refine fq (D := D) (fn := Tryd.f4) (c := Tryd.f4.body.getD .skip) [.any] (by kernel_rfl) (au (by kernel_rfl)) (by kernel_rfl) (by kernel_rfl) (by kernel_rfl) ⟨agr.ok, uz.ok, ab8.ok, agq.ok, qw.ok, qd.ok, ab9.ok, trivial⟩ trivial ?_ ?_
 · rw [loops]; exact trivial
 · intro args K r h
   unfold bg at h
   split at h
   · rw [P.af9] at h; exact Eq.trans (by kernel_rfl) h
   · cases h
theorem ok : Proved Tryd.prog GLO.gB 4 spec := gu _ ok0
end qm

end
