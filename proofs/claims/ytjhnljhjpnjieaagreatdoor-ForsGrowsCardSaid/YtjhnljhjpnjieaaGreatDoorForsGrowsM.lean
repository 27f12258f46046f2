/-
  ForsGrows, part 13: an interpreter of my own over abstract values, the pure functions, the walks and the plain law.
-/

import Derived.Test.YtjhnljhjpnjieaaGreatDoorForsGrowsI
import Derived.Test.YtjhnljhjpnjieaaGreatDoorForsGrowsG
import Derived.Test.YtjhnljhjpnjieaaGreatDoorProg
import Derived.Test.YtjhnljhjpnjieaaGreatDoorForsGrowsJ
import Derived.KernelRfl
import Derived.Test.YtjhnljhjpnjieaaGreatDoorForsGrowsK

section
open Go Go.Abs Go.Proofs
set_option maxRecDepth 100000
set_option maxHeartbeats 0
set_option linter.unusedVariables false

namespace abf
noncomputable def D : Ctx := ({ P := Tryz.prog, G := [], globs := GLO.gx, hints := [], loops := [], inl := [] } : Ctx)
theorem loops : cu (Tryz.f107.body.getD .skip) = [] := by kernel_rfl
noncomputable def ay : Abs.Spec := fun args K => match args with
 | [.sl (.ints .u8 a), .v (.int .i64 b), .v (.int .i64 c)] => P.abf a b c (fun d => K (.v (.bool d)))
 | _ => none
noncomputable def spec : Abs.Spec := fun args K => ay (om [.sl (.ints .u8 []), .any, .any] args) K
theorem ok0 : Proved Tryz.prog GLO.gx 107 ay := by
 refine bq (D := D) (fn := Tryz.f107) (c := Tryz.f107.body.getD .skip) [.any] (by kernel_rfl) (au (by kernel_rfl)) (by kernel_rfl) (by kernel_rfl) (by kernel_rfl) trivial trivial ?_ ?_
 · rw [loops]; exact trivial
 · intro args K r h
   unfold ay at h
   split at h
   · rw [P.ars] at h; exact Eq.trans (by kernel_rfl) h
   · cases h
theorem ok : Proved Tryz.prog GLO.gx 107 spec := d9 _ ok0
end abf

namespace oz
abbrev X8 := P.zt2
def S8 : X8 → ASt := fun (d, e, f, g, a, b, c, h) => ⟨[(0, .sl (.ints .u8 d)), (1, .v (.int .i64 e)), (7, .own 0), (8, .v (.int .u64 f)), (9, .v (.int .i64 g)), (10, .v (.int .i64 a)), (19, .v (.int .i64 b)), (20, .v (.int .i64 c))], [(0, some ⟨.row 64 (.ints .u32 h), false⟩)], 1, 53⟩
def V8 : ASt → Option X8
 | ⟨[(0, .sl (.ints .u8 d)), (1, .v (.int .i64 e)), (7, .own 0), (8, .v (.int .u64 f)), (9, .v (.int .i64 g)), (10, .v (.int .i64 a)), (19, .v (.int .i64 b)), (20, .v (.int .i64 c))], [(0, some ⟨.row 64 (.ints .u32 h), false⟩)], 1, 53⟩ => some (d, e, f, g, a, b, c, h)
 | _ => none
theorem bcr (st) (x) (h : V8 st = some x) : st = S8 x := by
 unfold V8 at h
 split at h
 · cases h; rfl
 · cases h
abbrev Y8 := P.zy2
abbrev X6 := P.zt3
def S6 : X6 → ASt := fun (c, d, e, f, a, b, g) => ⟨[(0, .sl (.ints .u8 c)), (1, .v (.int .i64 d)), (7, .own 0), (8, .v (.int .u64 e)), (9, .v (.int .i64 f)), (19, .v (.int .i64 a)), (20, .v (.int .i64 b))], [(0, some ⟨.row 64 (.ints .u32 g), false⟩)], 1, 53⟩
def V6 : ASt → Option X6
 | ⟨[(0, .sl (.ints .u8 c)), (1, .v (.int .i64 d)), (7, .own 0), (8, .v (.int .u64 e)), (9, .v (.int .i64 f)), (19, .v (.int .i64 a)), (20, .v (.int .i64 b))], [(0, some ⟨.row 64 (.ints .u32 g), false⟩)], 1, 53⟩ => some (c, d, e, f, a, b, g)
 | _ => none
theorem bcm (st) (x) (h : V6 st = some x) : st = S6 x := by
 unfold V6 at h
 split at h
 · cases h; rfl
 · cases h
abbrev Y6 := P.zy3
def E8 (K : AExit → ASt → Option R) : Y8 → Option R := (fun x => K (.exit 2) (S8 x))
noncomputable def L8 : qc := fun st K => adi (V8 st) fun x => P.zm2 x (E8 K)
def E6 (K : AExit → ASt → Option R) : Y6 → Option R := (fun x => K (.exit 0) (S6 x))
noncomputable def L6 : qc := fun st K => adi (V6 st) fun x => P.zm3 x (E6 K)
noncomputable def D : Ctx := ({ P := Tryz.prog, G := [(107, abf.spec)], globs := GLO.gx, hints := [(8, ⟨[0, 1, 7, 8, 9, 10, 19, 20], [], [6], [(0, .sl (.ints .u8 []))], none, [], []⟩), (6, ⟨[0, 1, 7, 8, 9, 19, 20], [], [6], [(0, .sl (.ints .u8 []))], none, [], []⟩)], loops := [(8, L8), (6, L6)], inl := [] } : Ctx)
theorem ate (K) (next) (x) : kr D (dn Tryz.f78 8) K next (S8 x) = P.zs2 x (fun x => next (S8 x)) (E8 K) := by kernel_rfl
theorem bb5 : jr D (dn Tryz.f78 8) := fu S8 bcr (by kernel_rfl) P.ze2 ate
theorem au9 (K) (next) (x) : kr D (dn Tryz.f78 6) K next (S6 x) = P.zs3 x (fun x => next (S6 x)) (E6 K) := by kernel_rfl
theorem bdj : jr D (dn Tryz.f78 6) := fu S6 bcm (by kernel_rfl) P.ze3 au9
theorem loops : cu (Tryz.f78.body.getD .skip) = [dn Tryz.f78 6, dn Tryz.f78 8] := by kernel_rfl
noncomputable def ay : Abs.Spec := fun args K => match args with
 | [.sl (.ints .u8 a), .v (.int .i64 b), .v (.int .i64 c)] => P.oz a b c (fun d => K (.fr 64 (.ints .u32 d)))
 | _ => none
noncomputable def spec : Abs.Spec := fun args K => ay (om [.sl (.ints .u8 []), .any, .any] args) K
theorem ok0 : Proved Tryz.prog GLO.gx 78 ay := by
 refine bq (D := D) (fn := Tryz.f78) (c := Tryz.f78.body.getD .skip) [.fr 64 (.ints .u32 [])] (by kernel_rfl) (au (by kernel_rfl)) (by kernel_rfl) (by kernel_rfl) (by kernel_rfl) ⟨abf.ok, trivial⟩ trivial ?_ ?_
 · rw [loops]; exact ⟨bdj, bb5, trivial⟩
 · intro args K r h
   unfold ay at h
   split at h
   · rw [P.amy] at h; exact Eq.trans (by kernel_rfl) h
   · cases h
theorem ok : Proved Tryz.prog GLO.gx 78 spec := d9 _ ok0
end oz

namespace uf
noncomputable def D : Ctx := ({ P := Tryz.prog, G := [], globs := GLO.gx, hints := [], loops := [], inl := [] } : Ctx)
theorem loops : cu (Tryz.f36.body.getD .skip) = [] := by kernel_rfl
noncomputable def ay : Abs.Spec := fun args K => match args with
 | [.agg [.v (.int .i64 b), .v (.int .i64 c), .v (.int .i64 d), .v (.int .i64 e), .v (.int .i64 f), .v (.bool a)]] => P.uf b c d e f a (fun g => K (.v (.bool g)))
 | _ => none
noncomputable def spec : Abs.Spec := ay
theorem ok0 : Proved Tryz.prog GLO.gx 36 ay := by
 refine bq (D := D) (fn := Tryz.f36) (c := Tryz.f36.body.getD .skip) [.any] (by kernel_rfl) (au (by kernel_rfl)) (by kernel_rfl) (by kernel_rfl) (by kernel_rfl) trivial trivial ?_ ?_
 · rw [loops]; exact trivial
 · intro args K r h
   unfold ay at h
   split at h
   · rw [P.aud] at h; exact Eq.trans (by kernel_rfl) h
   · cases h
theorem ok : Proved Tryz.prog GLO.gx 36 spec := ok0
end uf

namespace ko
noncomputable def D : Ctx := ({ P := Tryz.prog, G := [(36, uf.spec)], globs := GLO.gx, hints := [], loops := [], inl := [] } : Ctx)
theorem loops : cu (Tryz.f9.body.getD .skip) = [] := by kernel_rfl
noncomputable def ay : Abs.Spec := fun args K => match args with
 | [.agg [.v (.int .i64 b), .v (.int .i64 c), .v (.int .i64 d), .v (.int .i64 e), .v (.int .i64 f), .v (.bool a)]] => P.ko b c d e f a (fun g h => K (.tuple [.v (.int .i64 g), .v (.int .i64 h)]))
 | _ => none
noncomputable def spec : Abs.Spec := ay
theorem ok0 : Proved Tryz.prog GLO.gx 9 ay := by
 refine bq (D := D) (fn := Tryz.f9) (c := Tryz.f9.body.getD .skip) [.any, .any] (by kernel_rfl) (au (by kernel_rfl)) (by kernel_rfl) (by kernel_rfl) (by kernel_rfl) ⟨uf.ok, trivial⟩ trivial ?_ ?_
 · rw [loops]; exact trivial
 · intro args K r h
   unfold ay at h
   split at h
   · rw [P.alg] at h; exact Eq.trans (by kernel_rfl) h
   · cases h
theorem ok : Proved Tryz.prog GLO.gx 9 spec := ok0
end ko

namespace tu
abbrev X3 := P.bri
def S3 : X3 → ASt := fun (a, b, c, d) => ⟨[(3, .v (.int .u64 a)), (6, .sl (.ints .u8 b)), (7, .v (.int .i64 c)), (8, .v (.int .i64 d))], [], 0, 19⟩
def V3 : ASt → Option X3
 | ⟨[(3, .v (.int .u64 a)), (6, .sl (.ints .u8 b)), (7, .v (.int .i64 c)), (8, .v (.int .i64 d))], [], 0, 19⟩ => some (a, b, c, d)
 | _ => none
theorem alq (st) (x) (h : V3 st = some x) : st = S3 x := by
 unfold V3 at h
 split at h
 · cases h; rfl
 · cases h
abbrev Y3 := P.bwt
def E3 (K : AExit → ASt → Option R) : Y3 → Option R := (fun x => K (.exit 0) (S3 x))
noncomputable def L3 : qc := fun st K => adi (V3 st) fun x => P.by7 x (E3 K)
noncomputable def D : Ctx := ({ P := Tryz.prog, G := [], globs := GLO.gx, hints := [(3, ⟨[3, 6, 7, 8], [], [2], [], none, [], []⟩)], loops := [(3, L3)], inl := [] } : Ctx)
theorem afj (K) (next) (x) : kr D (dn Tryz.f106 3) K next (S3 x) = P.bth x (fun x => next (S3 x)) (E3 K) := by kernel_rfl
theorem ak7 : jr D (dn Tryz.f106 3) := fu S3 alq (by kernel_rfl) P.b35 afj
theorem loops : cu (Tryz.f106.body.getD .skip) = [dn Tryz.f106 3] := by kernel_rfl
noncomputable def ay : Abs.Spec := fun args K => match args with
 | [.sl (.ints .u8 a)] => P.tu a (fun b => K (.v (.int .u64 b)))
 | _ => none
noncomputable def spec : Abs.Spec := fun args K => ay (om [.sl (.ints .u8 [])] args) K
theorem ok0 : Proved Tryz.prog GLO.gx 106 ay := by
 refine bq (D := D) (fn := Tryz.f106) (c := Tryz.f106.body.getD .skip) [.any] (by kernel_rfl) (au (by kernel_rfl)) (by kernel_rfl) (by kernel_rfl) (by kernel_rfl) trivial trivial ?_ ?_
 · rw [loops]; exact ⟨ak7, trivial⟩
 · intro args K r h
   unfold ay at h
   split at h
   · rw [P.asw] at h; exact Eq.trans (by kernel_rfl) h
   · cases h
theorem ok : Proved Tryz.prog GLO.gx 106 spec := d9 _ ok0
end tu

namespace aew
abbrev X5 := P.zt4
def S5 : X5 → ASt := fun (c, a, b, d) => ⟨[(0, .v (.int .u64 c)), (5, .own 0), (16, .v (.int .i64 a)), (17, .v (.int .i64 b))], [(0, some ⟨.row 5 (.ints .u8 d), false⟩)], 1, 30⟩
def V5 : ASt → Option X5
 | ⟨[(0, .v (.int .u64 c)), (5, .own 0), (16, .v (.int .i64 a)), (17, .v (.int .i64 b))], [(0, some ⟨.row 5 (.ints .u8 d), false⟩)], 1, 30⟩ => some (c, a, b, d)
 | _ => none
theorem bds (st) (x) (h : V5 st = some x) : st = S5 x := by
 unfold V5 at h
 split at h
 · cases h; rfl
 · cases h
abbrev Y5 := P.zy4
def E5 (K : AExit → ASt → Option R) : Y5 → Option R := (fun x => K (.exit 0) (S5 x))
noncomputable def L5 : qc := fun st K => adi (V5 st) fun x => P.zm4 x (E5 K)
noncomputable def D : Ctx := ({ P := Tryz.prog, G := [], globs := GLO.gx, hints := [(5, ⟨[0, 5, 16, 17], [], [4], [], none, [], []⟩)], loops := [(5, L5)], inl := [] } : Ctx)
theorem as8 (K) (next) (x) : kr D (dn Tryz.f119 5) K next (S5 x) = P.zs4 x (fun x => next (S5 x)) (E5 K) := by kernel_rfl
theorem bcq : jr D (dn Tryz.f119 5) := fu S5 bds (by kernel_rfl) P.ze4 as8
theorem loops : cu (Tryz.f119.body.getD .skip) = [dn Tryz.f119 5] := by kernel_rfl
noncomputable def ay : Abs.Spec := fun args K => match args with
 | [.v (.int .u64 a), .v (.int .i64 b)] => P.aew a b (fun c => K (.fr 5 (.ints .u8 c)))
 | _ => none
noncomputable def spec : Abs.Spec := ay
theorem ok0 : Proved Tryz.prog GLO.gx 119 ay := by
 refine bq (D := D) (fn := Tryz.f119) (c := Tryz.f119.body.getD .skip) [.fr 5 (.ints .u8 [])] (by kernel_rfl) (au (by kernel_rfl)) (by kernel_rfl) (by kernel_rfl) (by kernel_rfl) trivial trivial ?_ ?_
 · rw [loops]; exact ⟨bcq, trivial⟩
 · intro args K r h
   unfold ay at h
   split at h
   · rw [P.awf] at h; exact Eq.trans (by kernel_rfl) h
   · cases h
theorem ok : Proved Tryz.prog GLO.gx 119 spec := ok0
end aew

namespace um
abbrev b2z := P.zt5
def bsy : b2z → ASt := fun (a, b, c) => ⟨[(0, .own 0), (2, .v (.int .i64 a)), (3, .v (.int .i64 b))], [(0, some ⟨.row 5 (.ints .u8 c), false⟩)], 1, 28⟩
def bx4 : ASt → Option b2z
 | ⟨[(0, .own 0), (2, .v (.int .i64 a)), (3, .v (.int .i64 b))], [(0, some ⟨.row 5 (.ints .u8 c), false⟩)], 1, 28⟩ => some (a, b, c)
 | _ => none
theorem bpf (st) (x) (h : bx4 st = some x) : st = bsy x := by
 unfold bx4 at h
 split at h
 · cases h; rfl
 · cases h
abbrev Y1_1 := P.zy5
def b3y (K : AExit → ASt → Option R) : Y1_1 → Option R := (fun x => K (.exit 0) (bsy x))
noncomputable def L1_1 : qc := fun st K => adi (bx4 st) fun x => P.zm5 x (b3y K)
noncomputable def D1 : Ctx := ({ P := Tryz.prog, G := [(119, aew.spec)], globs := GLO.gx, hints := [(1, ⟨[0, 2, 3], [], [], [], none, [], []⟩)], loops := [(1, L1_1)], inl := [] } : Ctx)
noncomputable def D : Ctx := ({ P := Tryz.prog, G := [(119, aew.spec)], globs := GLO.gx, hints := [], loops := [], inl := [(120, aiz D1 Tryz.f120)] } : Ctx)
theorem bkc (K) (next) (x) : kr D1 (dn Tryz.f120 1) K next (bsy x) = P.zs5 x (fun x => next (bsy x)) (b3y K) := by kernel_rfl
theorem bo0 : jr D1 (dn Tryz.f120 1) := fu bsy bpf (by kernel_rfl) P.ze5 bkc
theorem loops : cu (Tryz.f108.body.getD .skip) = [] := by kernel_rfl
theorem ape : cu (Tryz.f120.body.getD .skip) = [dn Tryz.f120 1] := by kernel_rfl
noncomputable def ay : Abs.Spec := fun args K => match args with
 | [.v (.int .u64 a), .v (.int .i64 b)] => P.um a b (fun c => K (.fr 5 (.ints .u8 c)))
 | _ => none
noncomputable def spec : Abs.Spec := ay
theorem ok0 : Proved Tryz.prog GLO.gx 108 ay := by
 refine bq (D := D) (fn := Tryz.f108) (c := Tryz.f108.body.getD .skip) [.fr 5 (.ints .u8 [])] (by kernel_rfl) (au (by kernel_rfl)) (by kernel_rfl) (by kernel_rfl) (by kernel_rfl) ⟨aew.ok, trivial⟩ ⟨auc (D := D1) (D' := D) (fn := Tryz.f120) (c := Tryz.f120.body.getD .skip) rfl rfl (by kernel_rfl) (au (by kernel_rfl)) (by kernel_rfl) (by kernel_rfl) (by kernel_rfl) ⟨aew.ok, trivial⟩ trivial (by rw [ape]; exact ⟨bo0, trivial⟩) (fun _ _ _ _ _ h => h), trivial⟩ ?_ ?_
 · rw [loops]; exact trivial
 · intro args K r h
   unfold ay at h
   split at h
   · rw [P.awt] at h; exact Eq.trans (by kernel_rfl) h
   · cases h
theorem ok : Proved Tryz.prog GLO.gx 108 spec := ok0
end um

namespace ng
noncomputable def D : Ctx := ({ P := Tryz.prog, G := [], globs := GLO.gx, hints := [], loops := [], inl := [] } : Ctx)
theorem loops : cu (Tryz.f130.body.getD .skip) = [] := by kernel_rfl
noncomputable def ay : Abs.Spec := fun args K => match args with
 | [.v (.slice none 0 0), .v (.int .i64 a)] => P.ng a (fun b => K (.fr 5 (.ints .u8 b)))
 | _ => none
noncomputable def spec : Abs.Spec := ay
theorem ok0 : Proved Tryz.prog GLO.gx 130 ay := by
 refine aqd (D := D) (fn := Tryz.f130) (c := Tryz.f130.body.getD .skip) 5 (.ints .u8 []) (by kernel_rfl) (au (by kernel_rfl)) (by kernel_rfl) (by kernel_rfl) (by kernel_rfl) trivial trivial ?_ ?_
 · rw [loops]; exact trivial
 · intro args K r h
   unfold ay at h
   split at h
   · rw [P.ahm] at h; exact Eq.trans (by kernel_rfl) h
   · cases h
theorem ok : Proved Tryz.prog GLO.gx 130 spec := ok0
end ng

namespace jc
abbrev X3 := P.zt6
def S3 : X3 → ASt := fun (c, d, e, a, b) => ⟨[(0, .sl (.rows .u8 c)), (3, .v (.int .i64 d)), (9, .sl (.rows .u8 e)), (10, .v (.int .i64 a)), (11, .v (.int .i64 b))], [], 0, 36⟩
def V3 : ASt → Option X3
 | ⟨[(0, .sl (.rows .u8 c)), (3, .v (.int .i64 d)), (9, .sl (.rows .u8 e)), (10, .v (.int .i64 a)), (11, .v (.int .i64 b))], [], 0, 36⟩ => some (c, d, e, a, b)
 | _ => none
theorem alq (st) (x) (h : V3 st = some x) : st = S3 x := by
 unfold V3 at h
 split at h
 · cases h; rfl
 · cases h
abbrev Y3 := P.zy6
abbrev X11 := P.zt7
def S11 : X11 → ASt := fun (a, b, c, d) => ⟨[(6, .own 1), (25, .sl (.rows .u8 a)), (26, .v (.int .i64 b)), (27, .v (.int .i64 c))], [(1, some ⟨.row 5 (.ints .u8 d), false⟩), (0, none)], 2, 36⟩
def V11 : ASt → Option X11
 | ⟨[(6, .own 1), (25, .sl (.rows .u8 a)), (26, .v (.int .i64 b)), (27, .v (.int .i64 c))], [(1, some ⟨.row 5 (.ints .u8 d), false⟩), (0, none)], 2, 36⟩ => some (a, b, c, d)
 | _ => none
theorem biv (st) (x) (h : V11 st = some x) : st = S11 x := by
 unfold V11 at h
 split at h
 · cases h; rfl
 · cases h
abbrev Y11 := P.zy7
def E3 (K : AExit → ASt → Option R) : Y3 → Option R := (fun x => K (.exit 0) (S3 x))
noncomputable def L3 : qc := fun st K => adi (V3 st) fun x => P.zm6 x (E3 K)
def E11 (K : AExit → ASt → Option R) : Y11 → Option R := (fun x => K (.exit 2) (S11 x))
noncomputable def L11 : qc := fun st K => adi (V11 st) fun x => P.zm7 x (E11 K)
noncomputable def D : Ctx := ({ P := Tryz.prog, G := [(130, ng.spec)], globs := GLO.gx, hints := [(11, ⟨[25, 26, 27], [(6, 5, .ints .u8 [])], [2], [], none, [], []⟩), (3, ⟨[0, 3, 9, 10, 11], [], [2], [], none, [], []⟩)], loops := [(3, L3), (11, L11)], inl := [] } : Ctx)
theorem afj (K) (next) (x) : kr D (dn Tryz.f113 3) K next (S3 x) = P.zs6 x (fun x => next (S3 x)) (E3 K) := by kernel_rfl
theorem ak7 : jr D (dn Tryz.f113 3) := fu S3 alq (by kernel_rfl) P.ze6 afj
theorem bbz (K) (next) (x) : kr D (dn Tryz.f113 11) K next (S11 x) = P.zs7 x (fun x => next (S11 x)) (E11 K) := by kernel_rfl
theorem bic : jr D (dn Tryz.f113 11) := fu S11 biv (by kernel_rfl) P.ze7 bbz
theorem loops : cu (Tryz.f113.body.getD .skip) = [dn Tryz.f113 3, dn Tryz.f113 11] := by kernel_rfl
noncomputable def ay : Abs.Spec := fun args K => match args with
 | [.sl (.rows .u8 a)] => P.jc a (fun b => K (.fr 5 (.ints .u8 b)))
 | _ => none
noncomputable def spec : Abs.Spec := fun args K => ay (om [.sl (.rows .u8 [])] args) K
theorem ok0 : Proved Tryz.prog GLO.gx 113 ay := by
 refine bq (D := D) (fn := Tryz.f113) (c := Tryz.f113.body.getD .skip) [.fr 5 (.ints .u8 [])] (by kernel_rfl) (au (by kernel_rfl)) (by kernel_rfl) (by kernel_rfl) (by kernel_rfl) ⟨ng.ok, trivial⟩ trivial ?_ ?_
 · rw [loops]; exact ⟨ak7, bic, trivial⟩
 · intro args K r h
   unfold ay at h
   split at h
   · rw [P.afm] at h; exact Eq.trans (by kernel_rfl) h
   · cases h
theorem ok : Proved Tryz.prog GLO.gx 113 spec := d9 _ ok0
end jc

namespace jo
noncomputable def D : Ctx := ({ P := Tryz.prog, G := [(113, jc.spec)], globs := GLO.gx, hints := [], loops := [], inl := [] } : Ctx)
theorem loops : cu (Tryz.f94.body.getD .skip) = [] := by kernel_rfl
noncomputable def ay : Abs.Spec := fun args K => match args with
 | [.sl (.rows .u8 a)] => P.jo a (fun b => K (.fr 5 (.ints .u8 b)))
 | _ => none
noncomputable def spec : Abs.Spec := fun args K => ay (om [.sl (.rows .u8 [])] args) K
theorem ok0 : Proved Tryz.prog GLO.gx 94 ay := by
 refine bq (D := D) (fn := Tryz.f94) (c := Tryz.f94.body.getD .skip) [.fr 5 (.ints .u8 [])] (by kernel_rfl) (au (by kernel_rfl)) (by kernel_rfl) (by kernel_rfl) (by kernel_rfl) ⟨jc.ok, trivial⟩ trivial ?_ ?_
 · rw [loops]; exact trivial
 · intro args K r h
   unfold ay at h
   split at h
   · rw [P.aq9] at h; exact Eq.trans (by kernel_rfl) h
   · cases h
theorem ok : Proved Tryz.prog GLO.gx 94 spec := d9 _ ok0
end jo

namespace oh
noncomputable def D : Ctx := ({ P := Tryz.prog, G := [(94, jo.spec), (108, um.spec)], globs := GLO.gx, hints := [], loops := [], inl := [] } : Ctx)
theorem loops : cu (Tryz.f80.body.getD .skip) = [] := by kernel_rfl
noncomputable def ay : Abs.Spec := fun args K => match args with
 | [.arr .u8 32 a, .v (.int .i64 b), .v (.int .u64 c)] => P.oh a b c (fun d => K (.arr .u8 32 d))
 | _ => none
noncomputable def spec : Abs.Spec := ay
theorem ok0 : Proved Tryz.prog GLO.gx 80 ay := by
 refine bq (D := D) (fn := Tryz.f80) (c := Tryz.f80.body.getD .skip) [.any] (by kernel_rfl) (au (by kernel_rfl)) (by kernel_rfl) (by kernel_rfl) (by kernel_rfl) ⟨jo.ok, um.ok, trivial⟩ trivial ?_ ?_
 · rw [loops]; exact trivial
 · intro args K r h
   unfold ay at h
   split at h
   · rw [P.aub] at h; exact Eq.trans (by kernel_rfl) h
   · cases h
theorem ok : Proved Tryz.prog GLO.gx 80 spec := ok0
end oh

namespace jk
noncomputable def D : Ctx := ({ P := Tryz.prog, G := [(80, oh.spec), (106, tu.spec)], globs := GLO.gx, hints := [], loops := [], inl := [] } : Ctx)
theorem loops : cu (Tryz.f76.body.getD .skip) = [] := by kernel_rfl
noncomputable def ay : Abs.Spec := fun args K => match args with
 | [.agg [.v (.int .i64 c), .v (.int .i64 d), .v (.int .i64 e), .v (.int .i64 f), .v (.int .i64 g), .v (.bool a), .sl (.ints .u8 b), .sl (.ints .u8 h), .arr .u8 32 i], .v (.int .u64 j)] => P.jk c d e f g a b h i j (fun k => K (.arr .u8 32 k))
 | _ => none
noncomputable def spec : Abs.Spec := fun args K => ay (om [.agg [.any, .any, .any, .any, .any, .any, .sl (.ints .u8 []), .sl (.ints .u8 []), .any], .any] args) K
theorem ok0 : Proved Tryz.prog GLO.gx 76 ay := by
 refine bq (D := D) (fn := Tryz.f76) (c := Tryz.f76.body.getD .skip) [.any] (by kernel_rfl) (au (by kernel_rfl)) (by kernel_rfl) (by kernel_rfl) (by kernel_rfl) ⟨oh.ok, tu.ok, trivial⟩ trivial ?_ ?_
 · rw [loops]; exact trivial
 · intro args K r h
   unfold ay at h
   split at h
   · rw [P.akj] at h; exact Eq.trans (by kernel_rfl) h
   · cases h
theorem ok : Proved Tryz.prog GLO.gx 76 spec := d9 _ ok0
end jk

namespace mh
noncomputable def D : Ctx := ({ P := Tryz.prog, G := [], globs := GLO.gx, hints := [], loops := [], inl := [] } : Ctx)
theorem loops : cu (Tryz.f156.body.getD .skip) = [] := by kernel_rfl
noncomputable def ay : Abs.Spec := fun args K => match args with
 | [.v (.int .i64 a)] => P.mh a (fun b => K (.v (.int .u64 b)))
 | _ => none
noncomputable def spec : Abs.Spec := ay
theorem ok0 : Proved Tryz.prog GLO.gx 156 ay := by
 refine bq (D := D) (fn := Tryz.f156) (c := Tryz.f156.body.getD .skip) [.any] (by kernel_rfl) (au (by kernel_rfl)) (by kernel_rfl) (by kernel_rfl) (by kernel_rfl) trivial trivial ?_ ?_
 · rw [loops]; exact trivial
 · intro args K r h
   unfold ay at h
   split at h
   · rw [P.am1] at h; exact Eq.trans (by kernel_rfl) h
   · cases h
theorem ok : Proved Tryz.prog GLO.gx 156 spec := ok0
end mh

namespace abx
noncomputable def D : Ctx := ({ P := Tryz.prog, G := [(156, mh.spec)], globs := GLO.gx, hints := [], loops := [], inl := [] } : Ctx)
theorem loops : cu (Tryz.f147.body.getD .skip) = [] := by kernel_rfl
noncomputable def ay : Abs.Spec := fun args K => match args with
 | [] => P.abx (fun f e a b c d => K (.agg [.v (.int .i64 f), .v (.int .i64 e), .arr .i64 3 a, .arr .i64 3 b, .arr .i64 3 c, .arr .i64 3 d, .fn (.func 156) [] []]))
 | _ => none
noncomputable def spec : Abs.Spec := ay
theorem ok0 : Proved Tryz.prog GLO.gx 147 ay := by
 refine bq (D := D) (fn := Tryz.f147) (c := Tryz.f147.body.getD .skip) [.any] (by kernel_rfl) (au (by kernel_rfl)) (by kernel_rfl) (by kernel_rfl) (by kernel_rfl) ⟨mh.ok, trivial⟩ trivial ?_ ?_
 · rw [loops]; exact trivial
 · intro args K r h
   unfold ay at h
   split at h
   · rw [P.arw] at h; exact Eq.trans (by kernel_rfl) h
   · cases h
theorem ok : Proved Tryz.prog GLO.gx 147 spec := ok0
end abx

namespace mg
noncomputable def D : Ctx := ({ P := Tryz.prog, G := [], globs := GLO.gx, hints := [], loops := [], inl := [] } : Ctx)
theorem loops : cu (Tryz.f154.body.getD .skip) = [] := by kernel_rfl
noncomputable def ay : Abs.Spec := fun args K => match args with
 | [.v (.int .i64 a)] => P.mg a (fun b => K (.v (.int .u32 b)))
 | _ => none
noncomputable def spec : Abs.Spec := ay
theorem ok0 : Proved Tryz.prog GLO.gx 154 ay := by
 refine bq (D := D) (fn := Tryz.f154) (c := Tryz.f154.body.getD .skip) [.any] (by kernel_rfl) (au (by kernel_rfl)) (by kernel_rfl) (by kernel_rfl) (by kernel_rfl) trivial trivial ?_ ?_
 · rw [loops]; exact trivial
 · intro args K r h
   unfold ay at h
   split at h
   · rw [P.amx] at h; exact Eq.trans (by kernel_rfl) h
   · cases h
theorem ok : Proved Tryz.prog GLO.gx 154 spec := ok0
end mg

namespace abv
noncomputable def D : Ctx := ({ P := Tryz.prog, G := [(154, mg.spec)], globs := GLO.gx, hints := [], loops := [], inl := [] } : Ctx)
theorem loops : cu (Tryz.f145.body.getD .skip) = [] := by kernel_rfl
noncomputable def ay : Abs.Spec := fun args K => match args with
 | [] => P.abv (fun f e a b c d => K (.agg [.v (.int .i64 f), .v (.int .i64 e), .arr .i64 3 a, .arr .i64 3 b, .arr .i64 3 c, .arr .i64 3 d, .fn (.func 154) [] []]))
 | _ => none
noncomputable def spec : Abs.Spec := ay
theorem ok0 : Proved Tryz.prog GLO.gx 145 ay := by
 refine bq (D := D) (fn := Tryz.f145) (c := Tryz.f145.body.getD .skip) [.any] (by kernel_rfl) (au (by kernel_rfl)) (by kernel_rfl) (by kernel_rfl) (by kernel_rfl) ⟨mg.ok, trivial⟩ trivial ?_ ?_
 · rw [loops]; exact trivial
 · intro args K r h
   unfold ay at h
   split at h
   · rw [P.aq7] at h; exact Eq.trans (by kernel_rfl) h
   · cases h
theorem ok : Proved Tryz.prog GLO.gx 145 spec := ok0
end abv

namespace bf
noncomputable def D : Ctx := ({ P := Tryz.prog, G := [(154, mg.spec)], globs := GLO.gx, hints := [], loops := [], inl := [] } : Ctx)
theorem loops : cu (Tryz.f163.body.getD .skip) = [] := by kernel_rfl
noncomputable def ay : Abs.Spec := fun args K => match args with
 | [.agg [.v (.int .i64 f), .v (.int .i64 e), .arr .i64 3 a, .arr .i64 3 b, .arr .i64 3 c, .arr .i64 3 d, .fn (.func 154) [] []], .v (.int .u32 g), .v (.int .i64 h)] => P.bf f e a b c d g h (fun i => K (.v (.int .u32 i)))
 | _ => none
noncomputable def spec : Abs.Spec := ay
theorem ok0 : Proved Tryz.prog GLO.gx 163 ay := by
 refine bq (D := D) (fn := Tryz.f163) (c := Tryz.f163.body.getD .skip) [.any] (by kernel_rfl) (au (by kernel_rfl)) (by kernel_rfl) (by kernel_rfl) (by kernel_rfl) ⟨mg.ok, trivial⟩ trivial ?_ ?_
 · rw [loops]; exact trivial
 · intro args K r h
   unfold ay at h
   split at h
   · rw [P.aa7] at h; exact Eq.trans (by kernel_rfl) h
   · cases h
theorem ok : Proved Tryz.prog GLO.gx 163 spec := ok0
end bf

namespace jf
noncomputable def D : Ctx := ({ P := Tryz.prog, G := [(154, mg.spec), (163, bf.spec)], globs := GLO.gx, hints := [], loops := [], inl := [] } : Ctx)
theorem loops : cu (Tryz.f159.body.getD .skip) = [] := by kernel_rfl
noncomputable def ay : Abs.Spec := fun args K => match args with
 | [.agg [.v (.int .i64 f), .v (.int .i64 e), .arr .i64 3 a, .arr .i64 3 b, .arr .i64 3 c, .arr .i64 3 d, .fn (.func 154) [] []], .v (.int .u32 g), .v (.int .i64 h)] => P.jf f e a b c d g h (fun i => K (.v (.int .u32 i)))
 | _ => none
noncomputable def spec : Abs.Spec := ay
theorem ok0 : Proved Tryz.prog GLO.gx 159 ay := by
 refine bq (D := D) (fn := Tryz.f159) (c := Tryz.f159.body.getD .skip) [.any] (by kernel_rfl) (au (by kernel_rfl)) (by kernel_rfl) (by kernel_rfl) (by kernel_rfl) ⟨mg.ok, bf.ok, trivial⟩ trivial ?_ ?_
 · rw [loops]; exact trivial
 · intro args K r h
   unfold ay at h
   split at h
   · rw [P.zl] at h; exact Eq.trans (by kernel_rfl) h
   · cases h
theorem ok : Proved Tryz.prog GLO.gx 159 spec := ok0
end jf

namespace jm
noncomputable def D : Ctx := ({ P := Tryz.prog, G := [(154, mg.spec), (163, bf.spec)], globs := GLO.gx, hints := [], loops := [], inl := [] } : Ctx)
theorem loops : cu (Tryz.f160.body.getD .skip) = [] := by kernel_rfl
noncomputable def ay : Abs.Spec := fun args K => match args with
 | [.agg [.v (.int .i64 f), .v (.int .i64 e), .arr .i64 3 a, .arr .i64 3 b, .arr .i64 3 c, .arr .i64 3 d, .fn (.func 154) [] []], .v (.int .u32 g), .v (.int .i64 h)] => P.jm f e a b c d g h (fun i => K (.v (.int .u32 i)))
 | _ => none
noncomputable def spec : Abs.Spec := ay
theorem ok0 : Proved Tryz.prog GLO.gx 160 ay := by
 refine bq (D := D) (fn := Tryz.f160) (c := Tryz.f160.body.getD .skip) [.any] (by kernel_rfl) (au (by kernel_rfl)) (by kernel_rfl) (by kernel_rfl) (by kernel_rfl) ⟨mg.ok, bf.ok, trivial⟩ trivial ?_ ?_
 · rw [loops]; exact trivial
 · intro args K r h
   unfold ay at h
   split at h
   · rw [P.aae] at h; exact Eq.trans (by kernel_rfl) h
   · cases h
theorem ok : Proved Tryz.prog GLO.gx 160 spec := ok0
end jm

end
