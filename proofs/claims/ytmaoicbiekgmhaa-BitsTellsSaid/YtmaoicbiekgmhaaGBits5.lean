import Derived.Test.YtmaoicbiekgmhaaFBits1
import Derived.Test.YtmaoicbiekgmhaaProg
open Go Go.Abs Go.Proofs
set_option maxRecDepth 100000
set_option linter.unusedVariables false

namespace F41
def S6 (v1 : Int) (v6 : Int) (v7 : Int) (v23 : List Int) (v24 : Int) (v25 : Int) (h1 : List Int) : ASt := ⟨[(5, .own 1), (1, .v (.int .i64 v1)), (6, .v (.int .u64 v6)), (7, .v (.int .i64 v7)), (23, .sl (.ints .u32 v23)), (24, .v (.int .i64 v24)), (25, .v (.int .i64 v25))], [(1, some ⟨.row 5 (.ints .u8 h1), false⟩), (0, none)], 2, 62⟩
def V6 : ASt → Option (Int × Int × Int × (List Int) × Int × Int × (List Int))
  | ⟨[(5, .own 1), (1, .v (.int .i64 v1)), (6, .v (.int .u64 v6)), (7, .v (.int .i64 v7)), (23, .sl (.ints .u32 v23)), (24, .v (.int .i64 v24)), (25, .v (.int .i64 v25))], [(1, some ⟨.row 5 (.ints .u8 h1), false⟩), (0, none)], 2, 62⟩ => some (v1, v6, v7, v23, v24, v25, h1)
  | _ => none
theorem V6_ok {st : ASt} {v1 : Int} {v6 : Int} {v7 : Int} {v23 : List Int} {v24 : Int} {v25 : Int} {h1 : List Int} (h : V6 st = some (v1, v6, v7, v23, v24, v25, h1)) : st = S6 v1 v6 v7 v23 v24 v25 h1 := by
  unfold V6 at h
  split at h
  · cases h; rfl
  · cases h
def S10 (v1 : Int) (v6 : Int) (v7 : Int) (v23 : List Int) (v24 : Int) (v25 : Int) (h2 : List Int) : ASt := ⟨[(5, .own 2), (1, .v (.int .i64 v1)), (6, .v (.int .u64 v6)), (7, .v (.int .i64 v7)), (23, .sl (.ints .u32 v23)), (24, .v (.int .i64 v24)), (25, .v (.int .i64 v25))], [(2, some ⟨.row 5 (.ints .u8 h2), false⟩), (0, none), (1, none)], 3, 62⟩
def V10 : ASt → Option (Int × Int × Int × (List Int) × Int × Int × (List Int))
  | ⟨[(5, .own 2), (1, .v (.int .i64 v1)), (6, .v (.int .u64 v6)), (7, .v (.int .i64 v7)), (23, .sl (.ints .u32 v23)), (24, .v (.int .i64 v24)), (25, .v (.int .i64 v25))], [(2, some ⟨.row 5 (.ints .u8 h2), false⟩), (0, none), (1, none)], 3, 62⟩ => some (v1, v6, v7, v23, v24, v25, h2)
  | _ => none
theorem V10_ok {st : ASt} {v1 : Int} {v6 : Int} {v7 : Int} {v23 : List Int} {v24 : Int} {v25 : Int} {h2 : List Int} (h : V10 st = some (v1, v6, v7, v23, v24, v25, h2)) : st = S10 v1 v6 v7 v23 v24 v25 h2 := by
  unfold V10 at h
  split at h
  · cases h; rfl
  · cases h
def shr8 (a : Int) : Nat → Int
  | 0 => a
  | k + 1 => shr8 (a.fdiv (2 ^ 8)) k
def fl (a : Int) : Nat → List Int
  | 0 => []
  | k + 1 => IntKind.u8.wrap a :: fl (a.fdiv (2 ^ 8)) k
def mix (w a n x : Int) : Int := Go.bits BinOp.or IntKind.u64 a (IntKind.u64.wrap (IntKind.u64.wrap (Go.bits BinOp.and IntKind.u32 x (IntKind.u32.wrap (IntKind.u32.wrap ((1 : Int) * (2 : Int) ^ min w.toNat 32) - (1 : Int)))) * (2 : Int) ^ min n.toNat 64))
def pk (w : Int) : List Int → Int → Int → List Int
  | [], _, _ => []
  | x :: l, a, n => fl (mix w a n x) ((n + w) / 8).toNat ++ pk w l (shr8 (mix w a n x) ((n + w) / 8).toNat) ((n + w) % 8)
def pend (w : Int) : List Int → Int → Int → Int × Int
  | [], a, n => (a, n)
  | x :: l, a, n => pend w l (shr8 (mix w a n x) ((n + w) / 8).toNat) ((n + w) % 8)
def L6 : LSpec := fun st K => match V6 st with
  | some (v1, v6, v7, v23, v24, v25, h1) => br (decide (1 ≤ v1 ∧ v1 ≤ 24 ∧ 0 ≤ v7 ∧ v7 ≤ 7 ∧ 0 ≤ v25 ∧ v25 ≤ v24 ∧ v24 = (v23.length : Int) ∧ v23.length ≤ lim ∧ (h1.length : Int) + 4 * (v24 - v25) ≤ 4 * 1099511627776)) (K (.exit 0) (S6 v1 ((pend v1 (v23.drop v25.toNat) v6 v7).1) ((pend v1 (v23.drop v25.toNat) v6 v7).2) v23 v24 (v24) (h1 ++ pk v1 (v23.drop v25.toNat) v6 v7))) none
  | none => none
def L10 : LSpec := fun st K => match V10 st with
  | some (v1, v6, v7, v23, v24, v25, h2) => br (decide (0 ≤ v7 ∧ v7 ≤ 31 ∧ h2.length ≤ 4 * lim)) (K (.exit 2) (S10 v1 (shr8 v6 (v7 / 8).toNat) (v7 % 8) v23 v24 v25 (h2 ++ fl v6 (v7 / 8).toNat))) none
  | none => none
noncomputable def D : Ctx := { P := Try.prog, G := [], globs := [], hints := [(10, ⟨[1, 6, 7, 23, 24, 25], [(5, 5, .ints .u8 [])], [4]⟩), (6, ⟨[1, 6, 7, 23, 24, 25], [(5, 5, .ints .u8 [])], [4]⟩)], loops := [(6, L6), (10, L10)], inl := [] }
theorem round6 (v1 : Int) (v6 : Int) (v7 : Int) (v23 : List Int) (v24 : Int) (v25 : Int) (h1 : List Int) (next : ASt → Option R) (K : AExit → ASt → Option R) : roundA D (loopAt Try.f41 6) K next (S6 v1 v6 v7 v23 v24 v25 h1) =
  br (decide (v25 < v24))
    (br (decide ((0 : Int) ≤ v25))
      (br (decide (v25 < (↑v23.length : Int)))
        (br (decide (v1 < (0 : Int))) none
          (br (decide (v7 < (0 : Int))) none
            (br
              (decide
                ((0 : Int) ≤ IntKind.i64.wrap (v7 + v1) ∧
                  IntKind.i64.wrap (v7 + v1) ≤ (31 : Int) ∧ h1.length ≤ 4398046511104))
              (next
                (S6 v1
                  (shr8
                    (bits BinOp.or IntKind.u64 v6
                      (IntKind.u64.wrap
                        (IntKind.u64.wrap
                            (bits BinOp.and IntKind.u32 (v23.getD v25.toNat (0 : Int))
                              (IntKind.u32.wrap
                                (IntKind.u32.wrap ((1 : Int) * (2 : Int) ^ min v1.toNat 32) - (1 : Int)))) *
                          (2 : Int) ^ min v7.toNat 64)))
                    (IntKind.i64.wrap (v7 + v1) / (8 : Int)).toNat)
                  (IntKind.i64.wrap (v7 + v1) % (8 : Int)) v23 v24 (IntKind.i64.wrap (v25 + (1 : Int)))
                  (h1 ++
                    fl
                      (bits BinOp.or IntKind.u64 v6
                        (IntKind.u64.wrap
                          (IntKind.u64.wrap
                              (bits BinOp.and IntKind.u32 (v23.getD v25.toNat (0 : Int))
                                (IntKind.u32.wrap
                                  (IntKind.u32.wrap ((1 : Int) * (2 : Int) ^ min v1.toNat 32) - (1 : Int)))) *
                            (2 : Int) ^ min v7.toNat 64)))
                      (IntKind.i64.wrap (v7 + v1) / (8 : Int)).toNat)))
              none)))
        none)
      none)
    (K (AExit.exit 0) (S6 v1 v6 v7 v23 v24 v25 h1)) := by kernel_rfl
theorem round10 (v1 : Int) (v6 : Int) (v7 : Int) (v23 : List Int) (v24 : Int) (v25 : Int) (h2 : List Int) (next : ASt → Option R) (K : AExit → ASt → Option R) : roundA D (loopAt Try.f41 10) K next (S10 v1 v6 v7 v23 v24 v25 h2) =
  br (decide (v7 ≥ (8 : Int)))
    (br (decide ((h2.length + 1) * 1 ≤ 140737488355328))
      (next
        (S10 v1 (v6.fdiv ((2 : Int) ^ 8)) (IntKind.i64.wrap (v7 - (8 : Int))) v23 v24 v25
          (h2 ++ [IntKind.u8.wrap v6])))
      none)
    (K (AExit.exit 2) (S10 v1 v6 v7 v23 v24 v25 h2)) := by kernel_rfl
theorem body (l : List Int) (w : Int) (K : AVal → Option R) : bodyA D Try.f41 [some (5, .ints .u8 [])] [.sl (.ints .u32 l), .v (.int .i64 w)] K =
  br (decide (w < (1 : Int))) (K (AVal.fr 5 (Cont.ints IntKind.u8 [])))
    (br (decide (w > (24 : Int))) (K (AVal.fr 5 (Cont.ints IntKind.u8 [])))
      (br
        (decide
          ((0 : Int) ≤
            IntKind.i64.wrap ((IntKind.i64.wrap (IntKind.i64.wrap ((↑l.length : Int) * w) + (7 : Int))).tdiv (8 : Int))))
        (br
          (decide
            (IntKind.i64.wrap ((IntKind.i64.wrap (IntKind.i64.wrap ((↑l.length : Int) * w) + (7 : Int))).tdiv (8 : Int)) *
                (↑1 : Int) ≤
              (↑140737488355328 : Int)))
          (br
            (decide
              ((1 : Int) ≤ w ∧
                w ≤ (24 : Int) ∧
                  (0 : Int) ≤ (0 : Int) ∧
                    (0 : Int) ≤ (7 : Int) ∧
                      (0 : Int) ≤ (0 : Int) ∧
                        (0 : Int) ≤ (↑l.length : Int) ∧
                          (↑l.length : Int) = (↑l.length : Int) ∧
                            l.length ≤ 1099511627776 ∧
                              (↑0 : Int) + (4 : Int) * ((↑l.length : Int) - (0 : Int)) ≤
                                (4 : Int) * (1099511627776 : Int)))
            (br (decide ((pend w (List.drop 0 l) (0 : Int) (0 : Int)).snd > (0 : Int)))
              (br
                (decide
                  (((List.replicate 0 (0 : Int) ++ pk w (List.drop 0 l) (0 : Int) (0 : Int)).length +
                        1) *
                      1 ≤
                    140737488355328))
                (K
                  (AVal.fr 5
                    (Cont.ints IntKind.u8
                      (List.replicate 0 (0 : Int) ++ pk w (List.drop 0 l) (0 : Int) (0 : Int) ++
                        [IntKind.u8.wrap (pend w (List.drop 0 l) (0 : Int) (0 : Int)).fst]))))
                none)
              (K
                (AVal.fr 5
                  (Cont.ints IntKind.u8
                    (List.replicate 0 (0 : Int) ++ pk w (List.drop 0 l) (0 : Int) (0 : Int))))))
            none)
          none)
        none)) := by kernel_rfl
theorem loops : loopsOf (Try.f41.body.getD .skip) = [loopAt Try.f41 6, loopAt Try.f41 10] := by kernel_rfl
theorem lass6 : lassoc D.loops (firstRegion (loopAt Try.f41 6)) = some L6 := by kernel_rfl
theorem lass10 : lassoc D.loops (firstRegion (loopAt Try.f41 10)) = some L10 := by kernel_rfl
end F41

