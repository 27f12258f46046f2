import Derived.Test.YtmaoicbiekgmhaaFBits1
import Derived.Test.YtmaoicbiekgmhaaProg
open Go Go.Abs Go.Proofs
set_option maxRecDepth 100000
set_option linter.unusedVariables false

namespace F39
def S6 (v0 : List Int) (v1 : Int) (v8 : Int) (v9 : Int) (v19 : Int) (v20 : Int) (h0 : List Int) : ASt := ⟨[(0, .sl (.ints .u8 v0)), (1, .v (.int .i64 v1)), (7, .own 0), (8, .v (.int .u64 v8)), (9, .v (.int .i64 v9)), (19, .v (.int .i64 v19)), (20, .v (.int .i64 v20))], [(0, some ⟨.row 62 (.ints .u32 h0), false⟩)], 1, 53⟩
def V6 : ASt → Option ((List Int) × Int × Int × Int × Int × Int × (List Int))
  | ⟨[(0, .sl (.ints .u8 v0)), (1, .v (.int .i64 v1)), (7, .own 0), (8, .v (.int .u64 v8)), (9, .v (.int .i64 v9)), (19, .v (.int .i64 v19)), (20, .v (.int .i64 v20))], [(0, some ⟨.row 62 (.ints .u32 h0), false⟩)], 1, 53⟩ => some (v0, v1, v8, v9, v19, v20, h0)
  | _ => none
theorem V6_ok {st : ASt} {v0 : List Int} {v1 : Int} {v8 : Int} {v9 : Int} {v19 : Int} {v20 : Int} {h0 : List Int} (h : V6 st = some (v0, v1, v8, v9, v19, v20, h0)) : st = S6 v0 v1 v8 v9 v19 v20 h0 := by
  unfold V6 at h
  split at h
  · cases h; rfl
  · cases h
def S8 (v0 : List Int) (v1 : Int) (v8 : Int) (v9 : Int) (v10 : Int) (v19 : Int) (v20 : Int) (h0 : List Int) : ASt := ⟨[(0, .sl (.ints .u8 v0)), (1, .v (.int .i64 v1)), (7, .own 0), (8, .v (.int .u64 v8)), (9, .v (.int .i64 v9)), (10, .v (.int .i64 v10)), (19, .v (.int .i64 v19)), (20, .v (.int .i64 v20))], [(0, some ⟨.row 62 (.ints .u32 h0), false⟩)], 1, 53⟩
def V8 : ASt → Option ((List Int) × Int × Int × Int × Int × Int × Int × (List Int))
  | ⟨[(0, .sl (.ints .u8 v0)), (1, .v (.int .i64 v1)), (7, .own 0), (8, .v (.int .u64 v8)), (9, .v (.int .i64 v9)), (10, .v (.int .i64 v10)), (19, .v (.int .i64 v19)), (20, .v (.int .i64 v20))], [(0, some ⟨.row 62 (.ints .u32 h0), false⟩)], 1, 53⟩ => some (v0, v1, v8, v9, v10, v19, v20, h0)
  | _ => none
theorem V8_ok {st : ASt} {v0 : List Int} {v1 : Int} {v8 : Int} {v9 : Int} {v10 : Int} {v19 : Int} {v20 : Int} {h0 : List Int} (h : V8 st = some (v0, v1, v8, v9, v10, v19, v20, h0)) : st = S8 v0 v1 v8 v9 v10 v19 v20 h0 := by
  unfold V8 at h
  split at h
  · cases h; rfl
  · cases h
/-- bytes are taken in until so many bits are there -/
def inn (w : Int) : List Int → Int → Int → List Int × Int × Int
  | [], a, n => ([], a, n)
  | x :: l, a, n => if n < w then inn w l (Go.bits BinOp.or IntKind.u64 (IntKind.u64.wrap (a * 2 ^ 8)) (IntKind.u64.wrap x)) (n + 8) else (x :: l, a, n)
def dig (w : Int) (q : List Int × Int × Int) : Int := IntKind.u32.wrap (Go.bits BinOp.and IntKind.u64 (q.2.1.fdiv (2 ^ min (q.2.2 - w).toNat 64)) (IntKind.u64.wrap (IntKind.u64.wrap (1 * 2 ^ min w.toNat 64) - 1)))
def digs (w : Int) : Nat → List Int → Int → Int → List Int
  | 0, _, _, _ => []
  | k + 1, l, a, n => dig w (inn w l a n) :: digs w k (inn w l a n).1 (inn w l a n).2.1 ((inn w l a n).2.2 - w)
def dend (w : Int) : Nat → List Int → Int → Int → List Int × Int × Int
  | 0, l, a, n => (l, a, n)
  | k + 1, l, a, n => dend w k (inn w l a n).1 (inn w l a n).2.1 ((inn w l a n).2.2 - w)
def L6 : LSpec := fun st K => match V6 st with
  | some (v0, v1, v8, v9, v19, v20, h0) => br (decide (1 ≤ v1 ∧ v1 ≤ 24 ∧ 0 ≤ v9 ∧ v9 ≤ 31 ∧ 0 ≤ v20 ∧ v20 ≤ v19 ∧ v19 = (h0.length : Int) ∧ h0.length ≤ lim ∧ v1 * (v19 - v20) ≤ v9 + 8 * (v0.length : Int))) (K (.exit 0) (S6 ((dend v1 (v19 - v20).toNat v0 v8 v9).1) v1 ((dend v1 (v19 - v20).toNat v0 v8 v9).2.1) ((dend v1 (v19 - v20).toNat v0 v8 v9).2.2) v19 (v19) (h0.take v20.toNat ++ digs v1 (v19 - v20).toNat v0 v8 v9))) none
  | none => none
def L8 : LSpec := fun st K => match V8 st with
  | some (v0, v1, v8, v9, v10, v19, v20, h0) => br (decide (1 ≤ v1 ∧ v1 ≤ 24 ∧ 0 ≤ v9 ∧ v9 ≤ 31 ∧ v1 ≤ v9 + 8 * (v0.length : Int))) (K (.exit 2) (S8 ((inn v1 v0 v8 v9).1) v1 ((inn v1 v0 v8 v9).2.1) ((inn v1 v0 v8 v9).2.2) v10 v19 v20 h0)) none
  | none => none
noncomputable def D : Ctx := { P := Try.prog, G := [(72, F72.spec)], globs := [], hints := [(8, ⟨[0, 1, 7, 8, 9, 10, 19, 20], [], [6]⟩), (6, ⟨[0, 1, 7, 8, 9, 19, 20], [], [6]⟩)], loops := [(6, L6), (8, L8)], inl := [] }
theorem round6 (v0 : List Int) (v1 : Int) (v8 : Int) (v9 : Int) (v19 : Int) (v20 : Int) (h0 : List Int) (next : ASt → Option R) (K : AExit → ASt → Option R) : roundA D (loopAt Try.f39 6) K next (S6 v0 v1 v8 v9 v19 v20 h0) =
  br (decide (v20 < v19))
    (br
      (decide
        ((1 : Int) ≤ v1 ∧ v1 ≤ (24 : Int) ∧ (0 : Int) ≤ v9 ∧ v9 ≤ (31 : Int) ∧ v1 ≤ v9 + (8 : Int) * (↑v0.length : Int)))
      (br (decide (IntKind.i64.wrap ((inn v1 v0 v8 v9).snd.snd - v1) < (0 : Int))) none
        (br (decide (v1 < (0 : Int))) none
          (br (decide ((0 : Int) ≤ v20))
            (br (decide (v20 < (↑h0.length : Int)))
              (next
                (S6 (inn v1 v0 v8 v9).fst v1 (inn v1 v0 v8 v9).snd.fst (IntKind.i64.wrap ((inn v1 v0 v8 v9).snd.snd - v1))
                  v19 (IntKind.i64.wrap (v20 + (1 : Int)))
                  (h0.set v20.toNat
                    (IntKind.u32.wrap
                      (bits BinOp.and IntKind.u64
                        ((inn v1 v0 v8 v9).snd.fst.fdiv
                          ((2 : Int) ^ min (IntKind.i64.wrap ((inn v1 v0 v8 v9).snd.snd - v1)).toNat 64))
                        (IntKind.u64.wrap
                          (IntKind.u64.wrap ((1 : Int) * (2 : Int) ^ min v1.toNat 64) - (1 : Int))))))))
              none)
            none)))
      none)
    (K (AExit.exit 0) (S6 v0 v1 v8 v9 v19 v20 h0)) := by kernel_rfl
theorem round8 (v0 : List Int) (v1 : Int) (v8 : Int) (v9 : Int) (v10 : Int) (v19 : Int) (v20 : Int) (h0 : List Int) (next : ASt → Option R) (K : AExit → ASt → Option R) : roundA D (loopAt Try.f39 8) K next (S8 v0 v1 v8 v9 v10 v19 v20 h0) =
  br (decide (v9 < v1))
    (br (decide ((0 : Int) < (↑v0.length : Int)))
      (br (decide ((↑1 : Int) ≤ (↑v0.length : Int)))
        (br (decide ((↑v0.length : Int) ≤ (↑v0.length : Int)))
          (next
            (S8 (List.drop 1 (List.take ((↑v0.length : Int)).toNat v0)) v1
              (bits BinOp.or IntKind.u64 (IntKind.u64.wrap (v8 * (2 : Int) ^ 8))
                (IntKind.u64.wrap (v0.getD 0 (0 : Int))))
              (IntKind.i64.wrap (v9 + (8 : Int))) v10 v19 v20 h0))
          none)
        none)
      none)
    (K (AExit.exit 2) (S8 v0 v1 v8 v9 v10 v19 v20 h0)) := by kernel_rfl
theorem body (b : List Int) (w c : Int) (K : AVal → Option R) : bodyA D Try.f39 [some (62, .ints .u32 [])] [.sl (.ints .u8 b), .v (.int .i64 w), .v (.int .i64 c)] K =
  br (decide (b.length ≤ 1099511627776))
    (br (!F72.such b.length w c) (K (AVal.fr 62 (Cont.ints IntKind.u32 [])))
      (br (decide ((0 : Int) ≤ c))
        (br (decide (c ≤ c))
          (br (decide (c * (↑4 : Int) ≤ (↑140737488355328 : Int)))
            (br
              (decide
                ((1 : Int) ≤ w ∧
                  w ≤ (24 : Int) ∧
                    (0 : Int) ≤ (0 : Int) ∧
                      (0 : Int) ≤ (31 : Int) ∧
                        (0 : Int) ≤ (0 : Int) ∧
                          (0 : Int) ≤ (↑(List.replicate c.toNat (0 : Int)).length : Int) ∧
                            (↑(List.replicate c.toNat (0 : Int)).length : Int) =
                                (↑(List.replicate c.toNat (0 : Int)).length : Int) ∧
                              (List.replicate c.toNat (0 : Int)).length ≤ 1099511627776 ∧
                                w * ((↑(List.replicate c.toNat (0 : Int)).length : Int) - (0 : Int)) ≤
                                  (0 : Int) + (8 : Int) * (↑b.length : Int)))
              (K
                (AVal.fr 62
                  (Cont.ints IntKind.u32
                    (List.take 0 (List.replicate c.toNat (0 : Int)) ++
                      digs w ((↑(List.replicate c.toNat (0 : Int)).length : Int) - (0 : Int)).toNat b (0 : Int)
                        (0 : Int)))))
              none)
            none)
          none)
        none))
    none := by kernel_rfl
theorem loops : loopsOf (Try.f39.body.getD .skip) = [loopAt Try.f39 6, loopAt Try.f39 8] := by kernel_rfl
theorem lass6 : lassoc D.loops (firstRegion (loopAt Try.f39 6)) = some L6 := by kernel_rfl
theorem lass8 : lassoc D.loops (firstRegion (loopAt Try.f39 8)) = some L8 := by kernel_rfl
end F39

