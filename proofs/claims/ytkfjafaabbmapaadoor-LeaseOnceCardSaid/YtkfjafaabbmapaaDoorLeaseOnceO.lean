/-
  LeaseOnce, part 15: an interpreter of my own over abstract values, the pure functions, the walks and the plain law.
-/

import Derived.Test.YtkfjafaabbmapaaDoorLeaseOnceK
import Derived.Test.YtkfjafaabbmapaaDoorLeaseOnceH
import Derived.Test.YtkfjafaabbmapaaDoorProg
import Derived.Test.YtkfjafaabbmapaaDoorLeaseOnceJ
import Derived.Test.YtkfjafaabbmapaaDoorLeaseOnceN
import Derived.KernelRfl
import Derived.Test.YtkfjafaabbmapaaDoorLeaseOnceI

section
open Go Go.Abs Go.Proofs
set_option maxRecDepth 100000
set_option maxHeartbeats 0
set_option linter.unusedVariables false

namespace wu
noncomputable def D6 : Ctx := ({ P := Tryd.prog, G := [(10, gy.spec), (28, bf.spec), (50, bn.spec), (52, gq.spec)], globs := GLO.gB, hints := [], loops := [], inl := [] } : Ctx)
noncomputable def D5 : Ctx := ({ P := Tryd.prog, G := [(10, gy.spec), (28, bf.spec), (50, bn.spec), (52, gq.spec)], globs := GLO.gB, hints := [], loops := [], inl := [] } : Ctx)
noncomputable def D4 : Ctx := ({ P := Tryd.prog, G := [(10, gy.spec), (28, bf.spec), (50, bn.spec), (52, gq.spec)], globs := GLO.gB, hints := [], loops := [], inl := [] } : Ctx)
noncomputable def D3 : Ctx := ({ P := Tryd.prog, G := [(10, gy.spec), (28, bf.spec), (50, bn.spec), (52, gq.spec)], globs := GLO.gB, hints := [], loops := [], inl := [(49, zx D5 Tryd.f49), (40, zx D6 Tryd.f40)] } : Ctx)
noncomputable def D2 : Ctx := ({ P := Tryd.prog, G := [(10, gy.spec), (28, bf.spec), (50, bn.spec), (52, gq.spec)], globs := GLO.gB, hints := [], loops := [], inl := [(49, zx D5 Tryd.f49)] } : Ctx)
noncomputable def D1 : Ctx := ({ P := Tryd.prog, G := [(10, gy.spec), (28, bf.spec), (50, bn.spec), (52, gq.spec)], globs := GLO.gB, hints := [], loops := [], inl := [(34, zx D2 Tryd.f34)] } : Ctx)
noncomputable def D : Ctx := ({ P := Tryd.prog, G := [(10, gy.spec), (28, bf.spec), (50, bn.spec), (52, gq.spec)], globs := GLO.gB, hints := [], loops := [], inl := [(37, zx D1 Tryd.f37)] } : Ctx)
theorem loops : dn (Tryd.f19.body.getD .skip) = [] := by kernel_rfl
theorem an2 : dn (Tryd.f37.body.getD .skip) = [] := by kernel_rfl
theorem aps : dn (Tryd.f34.body.getD .skip) = [] := by kernel_rfl
theorem aye : dn (Tryd.f39.body.getD .skip) = [] := by kernel_rfl
theorem bey : dn (Tryd.f38.body.getD .skip) = [] := by kernel_rfl
theorem avd : dn (Tryd.f49.body.getD .skip) = [] := by kernel_rfl
theorem azr : dn (Tryd.f40.body.getD .skip) = [] := by kernel_rfl
noncomputable def bg : Abs.Spec := fun args K => match args with
 | [.agg [.sl (.ints .u8 a), .sl (.ints .u8 b), .v (.int .u64 e), .v (.int .u64 g), .v (.int .u64 k), .v (.int .u64 h), .v (.bool m)]] => P.wu a b e g k h m (fun c d f i l j n o p => K (.tuple [.agg [.sl (.ints .u8 c), .sl (.ints .u8 d), .v (.int .u64 f), .v (.int .u64 i), .v (.int .u64 l), .v (.int .u64 j), .v (.bool n)], .v (.int .u64 o), .v (.int .i64 p)]))
 | _ => none
noncomputable def spec : Abs.Spec := fun args K => bg (p9 [.agg [.sl (.ints .u8 []), .sl (.ints .u8 []), .any, .any, .any, .any, .any]] args) K
theorem ok0 : Proved Tryd.prog GLO.gB 19 bg := by
 refine d9 (D := D) (fn := Tryd.f19) (c := Tryd.f19.body.getD .skip) [.agg [.sl (.ints .u8 []), .sl (.ints .u8 []), .any, .any, .any, .any, .any], .any, .any] (by kernel_rfl) (ak (by kernel_rfl)) (by kernel_rfl) (by kernel_rfl) (by kernel_rfl) ⟨gy.ok, bf.ok, bn.ok, gq.ok, trivial⟩ ⟨ado (D := D1) (D' := D) (fn := Tryd.f37) (c := Tryd.f37.body.getD .skip) rfl rfl (by kernel_rfl) (ak (by kernel_rfl)) (by kernel_rfl) (by kernel_rfl) (by kernel_rfl) ⟨gy.ok, bf.ok, bn.ok, gq.ok, trivial⟩ ⟨ado (D := D2) (D' := D1) (fn := Tryd.f34) (c := Tryd.f34.body.getD .skip) rfl rfl (by kernel_rfl) (ak (by kernel_rfl)) (by kernel_rfl) (by kernel_rfl) (by kernel_rfl) ⟨gy.ok, bf.ok, bn.ok, gq.ok, trivial⟩ ⟨ado (D := D5) (D' := D2) (fn := Tryd.f49) (c := Tryd.f49.body.getD .skip) rfl rfl (by kernel_rfl) (ak (by kernel_rfl)) (by kernel_rfl) (by kernel_rfl) (by kernel_rfl) ⟨gy.ok, bf.ok, bn.ok, gq.ok, trivial⟩ trivial (by rw [avd]; exact trivial) (fun _ _ _ _ _ h => h), trivial⟩ (by rw [aps]; exact trivial) (fun _ _ _ _ _ h => h), trivial⟩ (by rw [an2]; exact trivial) (fun _ _ _ _ _ h => h), trivial⟩ ?_ ?_
 · rw [loops]; exact trivial
 · intro args K r h
   unfold bg at h
   split at h
   · rw [P.aji] at h; exact Eq.trans (by kernel_rfl) h
   · cases h
theorem ok : Proved Tryd.prog GLO.gB 19 spec := iw _ ok0
end wu

namespace qg
noncomputable def D : Ctx := ({ P := Tryd.prog, G := [(12, tq.spec), (19, wu.spec), (24, o9.spec)], globs := GLO.gB, hints := [], loops := [], inl := [] } : Ctx)
theorem loops : dn (Tryd.f9.body.getD .skip) = [] := by kernel_rfl
noncomputable def bg : Abs.Spec := fun args K => match args with
 | [] => P.qg (fun a => K (.v (.bool a)))
 | _ => none
noncomputable def spec : Abs.Spec := bg
theorem ok0 : Proved Tryd.prog GLO.gB 9 bg := by
 refine d9 (D := D) (fn := Tryd.f9) (c := Tryd.f9.body.getD .skip) [.any] (by kernel_rfl) (ak (by kernel_rfl)) (by kernel_rfl) (by kernel_rfl) (by kernel_rfl) ⟨tq.ok, wu.ok, o9.ok, trivial⟩ trivial ?_ ?_
 · rw [loops]; exact trivial
 · intro args K r h
   unfold bg at h
   split at h
   · rw [P.amb] at h; exact Eq.trans (by kernel_rfl) h
   · cases h
theorem ok : Proved Tryd.prog GLO.gB 9 spec := ok0
end qg

namespace afs
abbrev X4 := P.zt1
def S4 : X4 → ASt := fun (a, b, c, d, e, f) => ⟨[(22, .sl (.cols a [.ints .i64 b, .ints .i64 c, .rows .u8 d])), (23, .v (.int .i64 e)), (24, .v (.int .i64 f))], [], 40, 33⟩
def V4 : ASt → Option X4
 | ⟨[(22, .sl (.cols a [.ints .i64 b, .ints .i64 c, .rows .u8 d])), (23, .v (.int .i64 e)), (24, .v (.int .i64 f))], [], 40, 33⟩ => some (a, b, c, d, e, f)
 | _ => none
theorem aot (st) (x) (h : V4 st = some x) : st = S4 x := by
 unfold V4 at h
 split at h
 · cases h; rfl
 · cases h
abbrev Y4 := P.zy1
def E4 (K : AExit → ASt → Option R) : Y4 → Option R := (Sum.elim (fun x => K (.exit 0) (S4 x)) (fun (f, c, d, e, a, b) => K .ret ⟨[(4, .v (.bool f))], [(40, some ⟨.box 29 [.v (.int .i64 c), .v (.int .i64 d), .sl (.ints .u8 e)], false⟩), (40, some ⟨.box 29 [.v (.int .i64 a), .v (.int .i64 b), .v (.slice none 0 0)], false⟩)], 41, 33⟩))
noncomputable def L4 : w9 := fun st K => agn (V4 st) fun x => P.zm1 x (E4 K)
noncomputable def D : Ctx := ({ P := Tryd.prog, G := [], globs := GLO.gB, hints := [(4, ⟨[22, 23, 24], [], [4], [], some (40, []), [], [], []⟩)], loops := [(4, L4)], inl := [] } : Ctx)
theorem agx (K) (next) (x) : ny D (gu Tryd.f8 4) K next (S4 x) = P.zs1 x (fun x => next (S4 x)) (E4 K) := by kernel_rfl
theorem aox : mo D (gu Tryd.f8 4) := jk S4 aot (by kernel_rfl) P.ze1 agx
theorem loops : dn (Tryd.f8.body.getD .skip) = [gu Tryd.f8 4] := by kernel_rfl
noncomputable def bg : Abs.Spec := fun args K => match args with
 | [.agg [.sl (.ints .u8 a), .sl (.ints .u8 b)], .sl (.cols c [.ints .i64 d, .ints .i64 e, .rows .u8 f])] => P.afs a b c d e f (fun g => K (.v (.bool g)))
 | _ => none
noncomputable def spec : Abs.Spec := fun args K => bg (p9 [.agg [.sl (.ints .u8 []), .sl (.ints .u8 [])], .sl (.cols 0 [.ints .i64 [], .ints .i64 [], .rows .u8 []])] args) K
theorem ok0 : Proved Tryd.prog GLO.gB 8 bg := by
 refine d9 (D := D) (fn := Tryd.f8) (c := Tryd.f8.body.getD .skip) [.any] (by kernel_rfl) (ak (by kernel_rfl)) (by kernel_rfl) (by kernel_rfl) (by kernel_rfl) trivial trivial ?_ ?_
 · rw [loops]; exact ⟨aox, trivial⟩
 · intro args K r h
   unfold bg at h
   split at h
   · rw [P.adv] at h; exact Eq.trans (by kernel_rfl) h
   · cases h
theorem ok : Proved Tryd.prog GLO.gB 8 spec := iw _ ok0
end afs

namespace y9
abbrev X3 := P.bke
def S3 : X3 → ASt := fun (a, b, c) => ⟨[(0, .sl (.ints .u8 a)), (3, .v (.int .u64 b)), (4, .v (.int .i64 c))], [], 0, 20⟩
def V3 : ASt → Option X3
 | ⟨[(0, .sl (.ints .u8 a)), (3, .v (.int .u64 b)), (4, .v (.int .i64 c))], [], 0, 20⟩ => some (a, b, c)
 | _ => none
theorem ald (st) (x) (h : V3 st = some x) : st = S3 x := by
 unfold V3 at h
 split at h
 · cases h; rfl
 · cases h
abbrev Y3 := P.blj
def E3 (K : AExit → ASt → Option R) : Y3 → Option R := (fun x => K (.exit 0) (S3 x))
noncomputable def L3 : w9 := fun st K => agn (V3 st) fun x => P.bl4 x (E3 K)
noncomputable def D : Ctx := ({ P := Tryd.prog, G := [], globs := GLO.gB, hints := [(3, ⟨[0, 3, 4], [], [2], [], none, [], [], []⟩)], loops := [(3, L3)], inl := [] } : Ctx)
theorem afh (K) (next) (x) : ny D (gu Tryd.f53 3) K next (S3 x) = P.bii x (fun x => next (S3 x)) (E3 K) := by kernel_rfl
theorem alf : mo D (gu Tryd.f53 3) := jk S3 ald (by kernel_rfl) P.bqf afh
theorem loops : dn (Tryd.f53.body.getD .skip) = [gu Tryd.f53 3] := by kernel_rfl
noncomputable def bg : Abs.Spec := fun args K => match args with
 | [.sl (.ints .u8 a)] => P.y9 a (fun b => K (.v (.int .u64 b)))
 | _ => none
noncomputable def spec : Abs.Spec := fun args K => bg (p9 [.sl (.ints .u8 [])] args) K
theorem ok0 : Proved Tryd.prog GLO.gB 53 bg := by
 refine d9 (D := D) (fn := Tryd.f53) (c := Tryd.f53.body.getD .skip) [.any] (by kernel_rfl) (ak (by kernel_rfl)) (by kernel_rfl) (by kernel_rfl) (by kernel_rfl) trivial trivial ?_ ?_
 · rw [loops]; exact ⟨alf, trivial⟩
 · intro args K r h
   unfold bg at h
   split at h
   · rw [P.aqr] at h; exact Eq.trans (by kernel_rfl) h
   · cases h
theorem ok : Proved Tryd.prog GLO.gB 53 spec := iw _ ok0
end y9

namespace abq
abbrev X4 := P.bkw
def S4 : X4 → ASt := fun (a, b, c) => ⟨[(0, .sl (.ints .u8 a)), (1, .sl (.ints .u8 b)), (5, .v (.int .i64 c))], [], 0, 26⟩
def V4 : ASt → Option X4
 | ⟨[(0, .sl (.ints .u8 a)), (1, .sl (.ints .u8 b)), (5, .v (.int .i64 c))], [], 0, 26⟩ => some (a, b, c)
 | _ => none
theorem aot (st) (x) (h : V4 st = some x) : st = S4 x := by
 unfold V4 at h
 split at h
 · cases h; rfl
 · cases h
abbrev Y4 := P.bmi
def E4 (K : AExit → ASt → Option R) : Y4 → Option R := (Sum.elim (fun x => K (.exit 0) (S4 x)) (fun a => K .ret ⟨[(4, .v (.bool a))], [], 0, 26⟩))
noncomputable def L4 : w9 := fun st K => agn (V4 st) fun x => P.bok x (E4 K)
noncomputable def D : Ctx := ({ P := Tryd.prog, G := [], globs := GLO.gB, hints := [(4, ⟨[0, 1, 5], [], [4], [], none, [], [], []⟩)], loops := [(4, L4)], inl := [] } : Ctx)
theorem agx (K) (next) (x) : ny D (gu Tryd.f47 4) K next (S4 x) = P.biu x (fun x => next (S4 x)) (E4 K) := by kernel_rfl
theorem aox : mo D (gu Tryd.f47 4) := jk S4 aot (by kernel_rfl) P.bpj agx
theorem loops : dn (Tryd.f47.body.getD .skip) = [gu Tryd.f47 4] := by kernel_rfl
noncomputable def bg : Abs.Spec := fun args K => match args with
 | [.sl (.ints .u8 a), .sl (.ints .u8 b)] => P.abq a b (fun c => K (.v (.bool c)))
 | _ => none
noncomputable def spec : Abs.Spec := fun args K => bg (p9 [.sl (.ints .u8 []), .sl (.ints .u8 [])] args) K
theorem ok0 : Proved Tryd.prog GLO.gB 47 bg := by
 refine d9 (D := D) (fn := Tryd.f47) (c := Tryd.f47.body.getD .skip) [.any] (by kernel_rfl) (ak (by kernel_rfl)) (by kernel_rfl) (by kernel_rfl) (by kernel_rfl) trivial trivial ?_ ?_
 · rw [loops]; exact ⟨aox, trivial⟩
 · intro args K r h
   unfold bg at h
   split at h
   · rw [P.aoj] at h; exact Eq.trans (by kernel_rfl) h
   · cases h
theorem ok : Proved Tryd.prog GLO.gB 47 spec := iw _ ok0
end abq

namespace aat
abbrev X5 := P.bj8
def S5 : X5 → ASt := fun (a, b, c) => ⟨[(0, .v (.int .u64 a)), (5, .own 0), (6, .v (.int .i64 b))], [(0, some ⟨.row 5 (.ints .u8 c), false⟩)], 1, 30⟩
def V5 : ASt → Option X5
 | ⟨[(0, .v (.int .u64 a)), (5, .own 0), (6, .v (.int .i64 b))], [(0, some ⟨.row 5 (.ints .u8 c), false⟩)], 1, 30⟩ => some (a, b, c)
 | _ => none
theorem azx (st) (x) (h : V5 st = some x) : st = S5 x := by
 unfold V5 at h
 split at h
 · cases h; rfl
 · cases h
abbrev Y5 := P.bmt
def E5 (K : AExit → ASt → Option R) : Y5 → Option R := (fun x => K (.exit 0) (S5 x))
noncomputable def L5 : w9 := fun st K => agn (V5 st) fun x => P.bnj x (E5 K)
noncomputable def D : Ctx := ({ P := Tryd.prog, G := [], globs := GLO.gB, hints := [(5, ⟨[0, 5, 6], [], [4], [], none, [], [], []⟩)], loops := [(5, L5)], inl := [] } : Ctx)
theorem atq (K) (next) (x) : ny D (gu Tryd.f60 5) K next (S5 x) = P.bjb x (fun x => next (S5 x)) (E5 K) := by kernel_rfl
theorem bcd : mo D (gu Tryd.f60 5) := jk S5 azx (by kernel_rfl) P.bp2 atq
theorem loops : dn (Tryd.f60.body.getD .skip) = [gu Tryd.f60 5] := by kernel_rfl
noncomputable def bg : Abs.Spec := fun args K => match args with
 | [.v (.int .u64 a), .v (.int .i64 b)] => P.aat a b (fun c => K (.fr 5 (.ints .u8 c)))
 | _ => none
noncomputable def spec : Abs.Spec := bg
theorem ok0 : Proved Tryd.prog GLO.gB 60 bg := by
 refine d9 (D := D) (fn := Tryd.f60) (c := Tryd.f60.body.getD .skip) [.fr 5 (.ints .u8 [])] (by kernel_rfl) (ak (by kernel_rfl)) (by kernel_rfl) (by kernel_rfl) (by kernel_rfl) trivial trivial ?_ ?_
 · rw [loops]; exact ⟨bcd, trivial⟩
 · intro args K r h
   unfold bg at h
   split at h
   · rw [P.at5] at h; exact Eq.trans (by kernel_rfl) h
   · cases h
theorem ok : Proved Tryd.prog GLO.gB 60 spec := ok0
end aat

namespace xu
abbrev X3 := P.bkg
def S3 : X3 → ASt := fun (a, b, c) => ⟨[(3, .own 0), (0, .sl (.rows .u8 a)), (4, .v (.int .i64 b))], [(0, some ⟨.row 5 (.ints .u8 c), false⟩)], 1, 18⟩
def V3 : ASt → Option X3
 | ⟨[(3, .own 0), (0, .sl (.rows .u8 a)), (4, .v (.int .i64 b))], [(0, some ⟨.row 5 (.ints .u8 c), false⟩)], 1, 18⟩ => some (a, b, c)
 | _ => none
theorem ald (st) (x) (h : V3 st = some x) : st = S3 x := by
 unfold V3 at h
 split at h
 · cases h; rfl
 · cases h
abbrev Y3 := P.bmv
def E3 (K : AExit → ASt → Option R) : Y3 → Option R := (fun x => K (.exit 0) (S3 x))
noncomputable def L3 : w9 := fun st K => agn (V3 st) fun x => P.bov x (E3 K)
noncomputable def D : Ctx := ({ P := Tryd.prog, G := [], globs := GLO.gB, hints := [(3, ⟨[0, 4], [(3, 5, .ints .u8 [])], [2], [], none, [], [], []⟩)], loops := [(3, L3)], inl := [] } : Ctx)
theorem afh (K) (next) (x) : ny D (gu Tryd.f59 3) K next (S3 x) = P.bh3 x (fun x => next (S3 x)) (E3 K) := by kernel_rfl
theorem alf : mo D (gu Tryd.f59 3) := jk S3 ald (by kernel_rfl) P.bpg afh
theorem loops : dn (Tryd.f59.body.getD .skip) = [gu Tryd.f59 3] := by kernel_rfl
noncomputable def bg : Abs.Spec := fun args K => match args with
 | [.sl (.rows .u8 a)] => P.xu a (fun b => K (.fr 5 (.ints .u8 b)))
 | _ => none
noncomputable def spec : Abs.Spec := fun args K => bg (p9 [.sl (.rows .u8 [])] args) K
theorem ok0 : Proved Tryd.prog GLO.gB 59 bg := by
 refine d9 (D := D) (fn := Tryd.f59) (c := Tryd.f59.body.getD .skip) [.fr 5 (.ints .u8 [])] (by kernel_rfl) (ak (by kernel_rfl)) (by kernel_rfl) (by kernel_rfl) (by kernel_rfl) trivial trivial ?_ ?_
 · rw [loops]; exact ⟨alf, trivial⟩
 · intro args K r h
   unfold bg at h
   split at h
   · rw [P.aos] at h; exact Eq.trans (by kernel_rfl) h
   · cases h
theorem ok : Proved Tryd.prog GLO.gB 59 spec := iw _ ok0
end xu

namespace qy
noncomputable def D : Ctx := ({ P := Tryd.prog, G := [], globs := GLO.gB, hints := [], loops := [], inl := [] } : Ctx)
theorem loops : dn (Tryd.f82.body.getD .skip) = [] := by kernel_rfl
noncomputable def bg : Abs.Spec := fun args K => match args with
 | [.v (.int .i64 a)] => P.qy a (fun b => K (.v (.int .i64 b)))
 | _ => none
noncomputable def spec : Abs.Spec := bg
theorem ok0 : Proved Tryd.prog GLO.gB 82 bg := by
 refine d9 (D := D) (fn := Tryd.f82) (c := Tryd.f82.body.getD .skip) [.any] (by kernel_rfl) (ak (by kernel_rfl)) (by kernel_rfl) (by kernel_rfl) (by kernel_rfl) trivial trivial ?_ ?_
 · rw [loops]; exact trivial
 · intro args K r h
   unfold bg at h
   split at h
   · rw [P.al4] at h; exact Eq.trans (by kernel_rfl) h
   · cases h
theorem ok : Proved Tryd.prog GLO.gB 82 spec := ok0
end qy

namespace qz
noncomputable def D : Ctx := ({ P := Tryd.prog, G := [], globs := GLO.gB, hints := [], loops := [], inl := [] } : Ctx)
theorem loops : dn (Tryd.f96.body.getD .skip) = [] := by kernel_rfl
noncomputable def bg : Abs.Spec := fun args K => match args with
 | [.v (.int .u64 a), .v (.int .i64 b), .v (.bool c)] => P.qz a b c (fun d => K (.v (.int .u64 d)))
 | _ => none
noncomputable def spec : Abs.Spec := bg
theorem ok0 : Proved Tryd.prog GLO.gB 96 bg := by
 refine d9 (D := D) (fn := Tryd.f96) (c := Tryd.f96.body.getD .skip) [.any] (by kernel_rfl) (ak (by kernel_rfl)) (by kernel_rfl) (by kernel_rfl) (by kernel_rfl) trivial trivial ?_ ?_
 · rw [loops]; exact trivial
 · intro args K r h
   unfold bg at h
   split at h
   · rw [P.aes] at h; exact Eq.trans (by kernel_rfl) h
   · cases h
theorem ok : Proved Tryd.prog GLO.gB 96 spec := ok0
end qz

namespace sw
noncomputable def D : Ctx := ({ P := Tryd.prog, G := [(96, qz.spec)], globs := GLO.gB, hints := [], loops := [], inl := [] } : Ctx)
theorem loops : dn (Tryd.f91.body.getD .skip) = [] := by kernel_rfl
noncomputable def bg : Abs.Spec := fun args K => match args with
 | [.v (.int .u64 a), .v (.int .i64 b), .v (.int .i64 c), .v (.int .i64 d), .v (.bool e), .v (.bool f)] => P.sw a b c d e f (fun g => K (.v (.int .u64 g)))
 | _ => none
noncomputable def spec : Abs.Spec := bg
theorem ok0 : Proved Tryd.prog GLO.gB 91 bg := by
 refine d9 (D := D) (fn := Tryd.f91) (c := Tryd.f91.body.getD .skip) [.any] (by kernel_rfl) (ak (by kernel_rfl)) (by kernel_rfl) (by kernel_rfl) (by kernel_rfl) ⟨qz.ok, trivial⟩ trivial ?_ ?_
 · rw [loops]; exact trivial
 · intro args K r h
   unfold bg at h
   split at h
   · rw [P.ab8] at h; exact Eq.trans (by kernel_rfl) h
   · cases h
theorem ok : Proved Tryd.prog GLO.gB 91 spec := ok0
end sw

namespace qw
noncomputable def D : Ctx := ({ P := Tryd.prog, G := [], globs := GLO.gB, hints := [], loops := [], inl := [] } : Ctx)
theorem loops : dn (Tryd.f88.body.getD .skip) = [] := by kernel_rfl
noncomputable def bg : Abs.Spec := fun args K => match args with
 | [] => P.qw (fun a => K (.arr .u64 64 a))
 | _ => none
noncomputable def spec : Abs.Spec := bg
theorem ok0 : Proved Tryd.prog GLO.gB 88 bg := by
 refine d9 (D := D) (fn := Tryd.f88) (c := Tryd.f88.body.getD .skip) [.any] (by kernel_rfl) (ak (by kernel_rfl)) (by kernel_rfl) (by kernel_rfl) (by kernel_rfl) trivial trivial ?_ ?_
 · rw [loops]; exact trivial
 · intro args K r h
   unfold bg at h
   split at h
   · rw [P.ad9] at h; exact Eq.trans (by kernel_rfl) h
   · cases h
theorem ok : Proved Tryd.prog GLO.gB 88 spec := ok0
end qw

namespace qx
noncomputable def D : Ctx := ({ P := Tryd.prog, G := [], globs := GLO.gB, hints := [], loops := [], inl := [] } : Ctx)
theorem loops : dn (Tryd.f89.body.getD .skip) = [] := by kernel_rfl
noncomputable def bg : Abs.Spec := fun args K => match args with
 | [] => P.qx (fun a => K (.arr .u64 80 a))
 | _ => none
noncomputable def spec : Abs.Spec := bg
theorem ok0 : Proved Tryd.prog GLO.gB 89 bg := by
 refine d9 (D := D) (fn := Tryd.f89) (c := Tryd.f89.body.getD .skip) [.any] (by kernel_rfl) (ak (by kernel_rfl)) (by kernel_rfl) (by kernel_rfl) (by kernel_rfl) trivial trivial ?_ ?_
 · rw [loops]; exact trivial
 · intro args K r h
   unfold bg at h
   split at h
   · rw [P.aeb] at h; exact Eq.trans (by kernel_rfl) h
   · cases h
theorem ok : Proved Tryd.prog GLO.gB 89 spec := ok0
end qx

namespace aal
abbrev X6 := P.bhp
def S6 : X6 → ASt := fun (b, c, d, e, f, a, g) => ⟨[(10, .own 0), (0, .sl (.ints .u8 b)), (1, .v (.bool c)), (2, .v (.int .i64 d)), (3, .v (.int .u64 e)), (9, .v (.int .i64 f)), (11, .v (.int .i64 a))], [(0, some ⟨.row 25 (.ints .u64 g), false⟩)], 1, 82⟩
def V6 : ASt → Option X6
 | ⟨[(10, .own 0), (0, .sl (.ints .u8 b)), (1, .v (.bool c)), (2, .v (.int .i64 d)), (3, .v (.int .u64 e)), (9, .v (.int .i64 f)), (11, .v (.int .i64 a))], [(0, some ⟨.row 25 (.ints .u64 g), false⟩)], 1, 82⟩ => some (b, c, d, e, f, a, g)
 | _ => none
theorem bg8 (st) (x) (h : V6 st = some x) : st = S6 x := by
 unfold V6 at h
 split at h
 · cases h; rfl
 · cases h
abbrev Y6 := P.boy
def E6 (K : AExit → ASt → Option R) : Y6 → Option R := (fun x => K (.exit 0) (S6 x))
noncomputable def L6 : w9 := fun st K => agn (V6 st) fun x => P.bnr x (E6 K)
noncomputable def D : Ctx := ({ P := Tryd.prog, G := [(53, y9.spec), (91, sw.spec)], globs := GLO.gB, hints := [(6, ⟨[0, 1, 2, 3, 9, 11], [(10, 25, .ints .u64 [])], [8], [], none, [], [], []⟩)], loops := [(6, L6)], inl := [] } : Ctx)
theorem az3 (K) (next) (x) : ny D (gu Tryd.f90 6) K next (S6 x) = P.bhg x (fun x => next (S6 x)) (E6 K) := by kernel_rfl
theorem bf3 : mo D (gu Tryd.f90 6) := jk S6 bg8 (by kernel_rfl) P.bpk az3
theorem loops : dn (Tryd.f90.body.getD .skip) = [gu Tryd.f90 6] := by kernel_rfl
noncomputable def bg : Abs.Spec := fun args K => match args with
 | [.sl (.ints .u8 a), .v (.bool b), .v (.int .i64 c), .v (.int .u64 d)] => P.aal a b c d (fun e => K (.fr 25 (.ints .u64 e)))
 | _ => none
noncomputable def spec : Abs.Spec := fun args K => bg (p9 [.sl (.ints .u8 []), .any, .any, .any] args) K
theorem ok0 : Proved Tryd.prog GLO.gB 90 bg := by
 refine d9 (D := D) (fn := Tryd.f90) (c := Tryd.f90.body.getD .skip) [.fr 25 (.ints .u64 [])] (by kernel_rfl) (ak (by kernel_rfl)) (by kernel_rfl) (by kernel_rfl) (by kernel_rfl) ⟨y9.ok, sw.ok, trivial⟩ trivial ?_ ?_
 · rw [loops]; exact ⟨bf3, trivial⟩
 · intro args K r h
   unfold bg at h
   split at h
   · rw [P.ag1] at h; exact Eq.trans (by kernel_rfl) h
   · cases h
theorem ok : Proved Tryd.prog GLO.gB 90 spec := iw _ ok0
end aal

namespace aa6
abbrev X11 := P.bkd
def S11 : X11 → ASt := fun (g, h, i, f, a, b, c, d, j, e) => ⟨[(2, .v (.bool g)), (3, .ptr 0 0), (6, .ptr 1 0), (7, .v (.int .i64 h)), (8, .v (.int .u64 i)), (9, .ptr 2 0), (10, .ptr 3 0), (11, .own 4), (12, .ptr 5 0), (13, .v (.int .i64 f))], [(0, some ⟨.box 111 [.arr .u64 8 a], false⟩), (1, some ⟨.box 111 [.arr .u64 8 b], false⟩), (2, some ⟨.box 144 [.arr .u64 64 c], false⟩), (3, some ⟨.box 146 [.arr .u64 80 d], false⟩), (4, some ⟨.row 25 (.ints .u64 j), false⟩), (5, some ⟨.box 111 [.arr .u64 8 e], false⟩)], 6, 137⟩
def V11 : ASt → Option X11
 | ⟨[(2, .v (.bool g)), (3, .ptr 0 0), (6, .ptr 1 0), (7, .v (.int .i64 h)), (8, .v (.int .u64 i)), (9, .ptr 2 0), (10, .ptr 3 0), (11, .own 4), (12, .ptr 5 0), (13, .v (.int .i64 f))], [(0, some ⟨.box 111 [.arr .u64 8 a], false⟩), (1, some ⟨.box 111 [.arr .u64 8 b], false⟩), (2, some ⟨.box 144 [.arr .u64 64 c], false⟩), (3, some ⟨.box 146 [.arr .u64 80 d], false⟩), (4, some ⟨.row 25 (.ints .u64 j), false⟩), (5, some ⟨.box 111 [.arr .u64 8 e], false⟩)], 6, 137⟩ => some (g, h, i, f, a, b, c, d, j, e)
 | _ => none
theorem bbq (st) (x) (h : V11 st = some x) : st = S11 x := by
 unfold V11 at h
 split at h
 · cases h; rfl
 · cases h
abbrev Y11 := P.bnl
abbrev X25 := P.bij
def S25 : X25 → ASt := fun (e, d, a, b, c) => ⟨[(3, .ptr 0 0), (6, .ptr 1 0), (8, .v (.int .u64 e)), (12, .ptr 5 0), (19, .v (.int .i64 d))], [(0, some ⟨.box 111 [.arr .u64 8 a], false⟩), (1, some ⟨.box 111 [.arr .u64 8 b], false⟩), (5, some ⟨.box 111 [.arr .u64 8 c], false⟩)], 80, 137⟩
def V25 : ASt → Option X25
 | ⟨[(3, .ptr 0 0), (6, .ptr 1 0), (8, .v (.int .u64 e)), (12, .ptr 5 0), (19, .v (.int .i64 d))], [(0, some ⟨.box 111 [.arr .u64 8 a], false⟩), (1, some ⟨.box 111 [.arr .u64 8 b], false⟩), (5, some ⟨.box 111 [.arr .u64 8 c], false⟩)], 80, 137⟩ => some (e, d, a, b, c)
 | _ => none
theorem bj1 (st) (x) (h : V25 st = some x) : st = S25 x := by
 unfold V25 at h
 split at h
 · cases h; rfl
 · cases h
abbrev Y25 := P.bnn
def E11 (K : AExit → ASt → Option R) : Y11 → Option R := (fun x => K (.exit 0) (S11 x))
noncomputable def L11 : w9 := fun st K => agn (V11 st) fun x => P.bn7 x (E11 K)
def E25 (K : AExit → ASt → Option R) : Y25 → Option R := (fun x => K (.exit 2) (S25 x))
noncomputable def L25 : w9 := fun st K => agn (V25 st) fun x => P.boz x (E25 K)
noncomputable def D : Ctx := ({ P := Tryd.prog, G := [(88, qw.spec), (89, qx.spec), (90, aal.spec), (91, sw.spec)], globs := GLO.gB, hints := [(25, ⟨[3, 6, 8, 12, 19], [], [6], [], some (80, [0, 1, 5]), [], [], []⟩), (11, ⟨[2, 3, 6, 7, 8, 9, 10, 11, 12, 13], [], [6], [], none, [], [], []⟩)], loops := [(11, L11), (25, L25)], inl := [] } : Ctx)
theorem avt (K) (next) (x) : ny D (gu Tryd.f83 11) K next (S11 x) = P.bhe x (fun x => next (S11 x)) (E11 K) := by kernel_rfl
theorem bbz : mo D (gu Tryd.f83 11) := jk S11 bbq (by kernel_rfl) P.bpl avt
theorem bfw (K) (next) (x) : ny D (gu Tryd.f83 25) K next (S25 x) = P.bhh x (fun x => next (S25 x)) (E25 K) := by kernel_rfl
theorem bid : mo D (gu Tryd.f83 25) := jk S25 bj1 (by kernel_rfl) P.bpw bfw
theorem loops : dn (Tryd.f83.body.getD .skip) = [gu Tryd.f83 11, gu Tryd.f83 25] := by kernel_rfl
noncomputable def bg : Abs.Spec := fun args K => match args with
 | [.arr .u64 8 a, .sl (.ints .u8 b), .v (.bool c)] => P.aa6 a b c (fun d => K (.arr .u64 8 d))
 | _ => none
noncomputable def spec : Abs.Spec := fun args K => bg (p9 [.any, .sl (.ints .u8 []), .any] args) K
theorem ok0 : Proved Tryd.prog GLO.gB 83 bg := by
 refine d9 (D := D) (fn := Tryd.f83) (c := Tryd.f83.body.getD .skip) [.any] (by kernel_rfl) (ak (by kernel_rfl)) (by kernel_rfl) (by kernel_rfl) (by kernel_rfl) ⟨qw.ok, qx.ok, aal.ok, sw.ok, trivial⟩ trivial ?_ ?_
 · rw [loops]; exact ⟨bbz, bid, trivial⟩
 · intro args K r h
   unfold bg at h
   split at h
   · rw [P.ahg] at h; exact Eq.trans (by kernel_rfl) h
   · cases h
theorem ok : Proved Tryd.prog GLO.gB 83 spec := iw _ ok0
end aa6

namespace zw
abbrev X4 := P.bh9
def S4 : X4 → ASt := fun (h, i, a, b, c, d, e, f, g) => ⟨[(2, .ptr 0 0), (4, .ptr 1 0), (5, .v (.int .i64 h)), (6, .sl (.ints .u8 i))], [(0, some ⟨.box 113 [.v (.int .i64 a), .arr .u64 8 b, .sl (.ints .u8 c), .v (.int .u64 d)], false⟩), (1, some ⟨.box 113 [.v (.int .i64 e), .arr .u64 8 f, .v (.slice none 0 0), .v (.int .u64 g)], false⟩)], 40, 41⟩
def V4 : ASt → Option X4
 | ⟨[(2, .ptr 0 0), (4, .ptr 1 0), (5, .v (.int .i64 h)), (6, .sl (.ints .u8 i))], [(0, some ⟨.box 113 [.v (.int .i64 a), .arr .u64 8 b, .sl (.ints .u8 c), .v (.int .u64 d)], false⟩), (1, some ⟨.box 113 [.v (.int .i64 e), .arr .u64 8 f, .v (.slice none 0 0), .v (.int .u64 g)], false⟩)], 40, 41⟩ => some (h, i, a, b, c, d, e, f, g)
 | _ => none
theorem aot (st) (x) (h : V4 st = some x) : st = S4 x := by
 unfold V4 at h
 split at h
 · cases h; rfl
 · cases h
abbrev Y4 := P.bn4
def E4 (K : AExit → ASt → Option R) : Y4 → Option R := (fun x => K (.exit 0) (S4 x))
noncomputable def L4 : w9 := fun st K => agn (V4 st) fun x => P.blz x (E4 K)
noncomputable def D : Ctx := ({ P := Tryd.prog, G := [(59, xu.spec), (82, qy.spec), (83, aa6.spec)], globs := GLO.gB, hints := [(4, ⟨[2, 4, 5, 6], [], [4], [(6, .sl (.ints .u8 []))], some (40, [0, 1]), [], [], []⟩)], loops := [(4, L4)], inl := [] } : Ctx)
theorem agx (K) (next) (x) : ny D (gu Tryd.f74 4) K next (S4 x) = P.bhf x (fun x => next (S4 x)) (E4 K) := by kernel_rfl
theorem aox : mo D (gu Tryd.f74 4) := jk S4 aot (by kernel_rfl) P.bqd agx
theorem loops : dn (Tryd.f74.body.getD .skip) = [gu Tryd.f74 4] := by kernel_rfl
noncomputable def bg : Abs.Spec := fun args K => match args with
 | [.agg [.v (.int .i64 c), .arr .u64 8 a, .sl (.ints .u8 d), .v (.int .u64 e)], .sl (.ints .u8 i)] => P.zw c a d e i (fun f b g h => K (.agg [.v (.int .i64 f), .arr .u64 8 b, .sl (.ints .u8 g), .v (.int .u64 h)]))
 | _ => none
noncomputable def spec : Abs.Spec := fun args K => bg (p9 [.agg [.any, .any, .sl (.ints .u8 []), .any], .sl (.ints .u8 [])] args) K
theorem ok0 : Proved Tryd.prog GLO.gB 74 bg := by
 refine d9 (D := D) (fn := Tryd.f74) (c := Tryd.f74.body.getD .skip) [.agg [.any, .any, .sl (.ints .u8 []), .any]] (by kernel_rfl) (ak (by kernel_rfl)) (by kernel_rfl) (by kernel_rfl) (by kernel_rfl) ⟨xu.ok, qy.ok, aa6.ok, trivial⟩ trivial ?_ ?_
 · rw [loops]; exact ⟨aox, trivial⟩
 · intro args K r h
   unfold bg at h
   split at h
   · rw [P.ap0] at h; exact Eq.trans (by kernel_rfl) h
   · cases h
theorem ok : Proved Tryd.prog GLO.gB 74 spec := iw _ ok0
end zw

end
