import Derived.Test.YtmaoicbiekgmhaaAbsAid
import Derived.Test.YtmaoicbiekgmhaaProg
open Go Go.Abs Go.Proofs
set_option maxRecDepth 100000
set_option linter.unusedVariables false

namespace F19
def S4 (v0 : List Int) (v1 : List Int) (v5 : Int) : ASt := ⟨[(0, .sl (.ints .u8 v0)), (1, .sl (.ints .u8 v1)), (5, .v (.int .i64 v5))], [], 0, 26⟩
def V4 : ASt → Option ((List Int) × (List Int) × Int)
  | ⟨[(0, .sl (.ints .u8 v0)), (1, .sl (.ints .u8 v1)), (5, .v (.int .i64 v5))], [], 0, 26⟩ => some (v0, v1, v5)
  | _ => none
theorem V4_ok {st : ASt} {v0 : List Int} {v1 : List Int} {v5 : Int} (h : V4 st = some (v0, v1, v5)) : st = S4 v0 v1 v5 := by
  unfold V4 at h
  split at h
  · cases h; rfl
  · cases h
def L4 : LSpec := fun st K => match V4 st with
  | some (v0, v1, v5) => br (decide (v0.length = v1.length ∧ v0.length ≤ lim ∧ 0 ≤ v5 ∧ v5 ≤ (v0.length : Int))) (br (decide (v0.drop v5.toNat = v1.drop v5.toNat)) (K (.exit 0) (S4 v0 v1 (v0.length : Int))) (K .ret ⟨[(4, .v (.bool false))], [], 0, 26⟩)) none
  | none => none
noncomputable def D : Ctx := { P := Try.prog, G := [], globs := [], hints := [(4, ⟨[0, 1, 5], [], [4]⟩)], loops := [(4, L4)], inl := [] }
theorem round4 (v0 : List Int) (v1 : List Int) (v5 : Int) (next : ASt → Option R) (K : AExit → ASt → Option R) : roundA D (loopAt Try.f19 4) K next (S4 v0 v1 v5) =
  br (decide (v5 < (↑v0.length : Int)))
    (br (decide ((0 : Int) ≤ v5))
      (br (decide (v5 < (↑v0.length : Int)))
        (br (decide ((0 : Int) ≤ v5))
          (br (decide (v5 < (↑v1.length : Int)))
            (br (v0.getD v5.toNat (0 : Int) != v1.getD v5.toNat (0 : Int))
              (K AExit.ret { f := [(4, AVal.v (Value.bool false))], h := [], n := 0, m := 26 })
              (next (S4 v0 v1 (IntKind.i64.wrap (v5 + (1 : Int))))))
            none)
          none)
        none)
      none)
    (K (AExit.exit 0) (S4 v0 v1 v5)) := by kernel_rfl
theorem body (a b : List Int) (K : AVal → Option R) : bodyA D Try.f19 [] [.sl (.ints .u8 a), .sl (.ints .u8 b)] K =
  br ((↑a.length : Int) != (↑b.length : Int)) (K (AVal.v (Value.bool false)))
    (br
      (decide
        (a.length = b.length ∧ a.length ≤ 1099511627776 ∧ (0 : Int) ≤ (0 : Int) ∧ (0 : Int) ≤ (↑a.length : Int)))
      (br (decide (List.drop 0 a = List.drop 0 b)) (K (AVal.v (Value.bool true)))
        (K (AVal.v (Value.bool false))))
      none) := by kernel_rfl
theorem loops : loopsOf (Try.f19.body.getD .skip) = [loopAt Try.f19 4] := by kernel_rfl
theorem lass4 : lassoc D.loops (firstRegion (loopAt Try.f19 4)) = some L4 := by kernel_rfl
end F19

namespace F34
def S3 (v3 : Int) (v6 : List Int) (v7 : Int) (v8 : Int) : ASt := ⟨[(3, .v (.int .u64 v3)), (6, .sl (.ints .u8 v6)), (7, .v (.int .i64 v7)), (8, .v (.int .i64 v8))], [], 0, 19⟩
def V3 : ASt → Option (Int × (List Int) × Int × Int)
  | ⟨[(3, .v (.int .u64 v3)), (6, .sl (.ints .u8 v6)), (7, .v (.int .i64 v7)), (8, .v (.int .i64 v8))], [], 0, 19⟩ => some (v3, v6, v7, v8)
  | _ => none
theorem V3_ok {st : ASt} {v3 : Int} {v6 : List Int} {v7 : Int} {v8 : Int} (h : V3 st = some (v3, v6, v7, v8)) : st = S3 v3 v6 v7 v8 := by
  unfold V3 at h
  split at h
  · cases h; rfl
  · cases h
def num (a : Int) (l : List Int) : Int := l.foldl (fun a x => bits BinOp.or IntKind.u64 (IntKind.u64.wrap (a * 2 ^ 8)) (IntKind.u64.wrap x)) a
def L3 : LSpec := fun st K => match V3 st with
  | some (v3, v6, v7, v8) => br (decide (v7 = (v6.length : Int) ∧ v6.length ≤ lim ∧ 0 ≤ v8 ∧ v8 ≤ (v6.length : Int))) (K (.exit 0) (S3 (num v3 (v6.drop v8.toNat)) v6 v7 (v7))) none
  | none => none
noncomputable def D : Ctx := { P := Try.prog, G := [], globs := [], hints := [(3, ⟨[3, 6, 7, 8], [], [2]⟩)], loops := [(3, L3)], inl := [] }
theorem round3 (v3 : Int) (v6 : List Int) (v7 : Int) (v8 : Int) (next : ASt → Option R) (K : AExit → ASt → Option R) : roundA D (loopAt Try.f34 3) K next (S3 v3 v6 v7 v8) =
  br (decide (v8 < v7))
    (br (decide ((0 : Int) ≤ v8))
      (br (decide (v8 < (↑v6.length : Int)))
        (next
          (S3
            (bits BinOp.or IntKind.u64 (IntKind.u64.wrap (v3 * (2 : Int) ^ 8))
              (IntKind.u64.wrap (v6.getD v8.toNat (0 : Int))))
            v6 v7 (IntKind.i64.wrap (v8 + (1 : Int)))))
        none)
      none)
    (K (AExit.exit 0) (S3 v3 v6 v7 v8)) := by kernel_rfl
theorem body (b : List Int) (K : AVal → Option R) : bodyA D Try.f34 [] [.sl (.ints .u8 b)] K =
  br
    (decide
      ((↑b.length : Int) = (↑b.length : Int) ∧
        b.length ≤ 1099511627776 ∧ (0 : Int) ≤ (0 : Int) ∧ (0 : Int) ≤ (↑b.length : Int)))
    (K (AVal.v (Value.int IntKind.u64 (num (0 : Int) (List.drop 0 b))))) none := by kernel_rfl
theorem loops : loopsOf (Try.f34.body.getD .skip) = [loopAt Try.f34 3] := by kernel_rfl
theorem lass3 : lassoc D.loops (firstRegion (loopAt Try.f34 3)) = some L3 := by kernel_rfl
end F34

namespace F35
def S3 (v0 : List Int) (v3 : Int) (v4 : Int) : ASt := ⟨[(0, .sl (.ints .u8 v0)), (3, .v (.int .u64 v3)), (4, .v (.int .i64 v4))], [], 0, 20⟩
def V3 : ASt → Option ((List Int) × Int × Int)
  | ⟨[(0, .sl (.ints .u8 v0)), (3, .v (.int .u64 v3)), (4, .v (.int .i64 v4))], [], 0, 20⟩ => some (v0, v3, v4)
  | _ => none
theorem V3_ok {st : ASt} {v0 : List Int} {v3 : Int} {v4 : Int} (h : V3 st = some (v0, v3, v4)) : st = S3 v0 v3 v4 := by
  unfold V3 at h
  split at h
  · cases h; rfl
  · cases h
def num (a : Int) (l : List Int) : Int := l.foldl (fun a x => IntKind.u64.wrap (IntKind.u64.wrap (a * 256) + IntKind.u64.wrap x)) a
def L3 : LSpec := fun st K => match V3 st with
  | some (v0, v3, v4) => br (decide (v0.length ≤ lim ∧ 0 ≤ v4 ∧ v4 ≤ (v0.length : Int))) (K (.exit 0) (S3 v0 (num v3 (v0.drop v4.toNat)) ((v0.length : Int)))) none
  | none => none
noncomputable def D : Ctx := { P := Try.prog, G := [], globs := [], hints := [(3, ⟨[0, 3, 4], [], [2]⟩)], loops := [(3, L3)], inl := [] }
theorem round3 (v0 : List Int) (v3 : Int) (v4 : Int) (next : ASt → Option R) (K : AExit → ASt → Option R) : roundA D (loopAt Try.f35 3) K next (S3 v0 v3 v4) =
  br (decide (v4 < (↑v0.length : Int)))
    (br (decide ((0 : Int) ≤ v4))
      (br (decide (v4 < (↑v0.length : Int)))
        (next
          (S3 v0 (IntKind.u64.wrap (IntKind.u64.wrap (v3 * (256 : Int)) + IntKind.u64.wrap (v0.getD v4.toNat (0 : Int))))
            (IntKind.i64.wrap (v4 + (1 : Int)))))
        none)
      none)
    (K (AExit.exit 0) (S3 v0 v3 v4)) := by kernel_rfl
theorem body (b : List Int) (K : AVal → Option R) : bodyA D Try.f35 [] [.sl (.ints .u8 b)] K =
  br (decide (b.length ≤ 1099511627776 ∧ (0 : Int) ≤ (0 : Int) ∧ (0 : Int) ≤ (↑b.length : Int)))
    (K (AVal.v (Value.int IntKind.u64 (num (0 : Int) (List.drop 0 b))))) none := by kernel_rfl
theorem loops : loopsOf (Try.f35.body.getD .skip) = [loopAt Try.f35 3] := by kernel_rfl
theorem lass3 : lassoc D.loops (firstRegion (loopAt Try.f35 3)) = some L3 := by kernel_rfl
end F35

namespace F36
def S3 (v0 : List Int) (v3 : Int) (v7 : Int) (v8 : Int) : ASt := ⟨[(0, .sl (.ints .u8 v0)), (3, .v (.int .u64 v3)), (7, .v (.int .i64 v7)), (8, .v (.int .i64 v8))], [], 0, 23⟩
def V3 : ASt → Option ((List Int) × Int × Int × Int)
  | ⟨[(0, .sl (.ints .u8 v0)), (3, .v (.int .u64 v3)), (7, .v (.int .i64 v7)), (8, .v (.int .i64 v8))], [], 0, 23⟩ => some (v0, v3, v7, v8)
  | _ => none
theorem V3_ok {st : ASt} {v0 : List Int} {v3 : Int} {v7 : Int} {v8 : Int} (h : V3 st = some (v0, v3, v7, v8)) : st = S3 v0 v3 v7 v8 := by
  unfold V3 at h
  split at h
  · cases h; rfl
  · cases h
def num (a : Int) : List Int → Int → Int
  | [], _ => a
  | x :: l, i => num (bits BinOp.or IntKind.u64 a (IntKind.u64.wrap (IntKind.u64.wrap x * 2 ^ min (8 * i).toNat 64))) l (i + 1)
def L3 : LSpec := fun st K => match V3 st with
  | some (v0, v3, v7, v8) => br (decide (0 ≤ v8 ∧ v8 ≤ v7 ∧ v7 ≤ 8 ∧ v7 ≤ (v0.length : Int))) (K (.exit 0) (S3 v0 (num v3 ((v0.take v7.toNat).drop v8.toNat) v8) v7 (v7))) none
  | none => none
noncomputable def D : Ctx := { P := Try.prog, G := [], globs := [], hints := [(3, ⟨[0, 3, 7, 8], [], [2]⟩)], loops := [(3, L3)], inl := [] }
theorem round3 (v0 : List Int) (v3 : Int) (v7 : Int) (v8 : Int) (next : ASt → Option R) (K : AExit → ASt → Option R) : roundA D (loopAt Try.f36 3) K next (S3 v0 v3 v7 v8) =
  br (decide (v8 < v7))
    (br (decide ((0 : Int) ≤ v8))
      (br (decide (v8 < (↑v0.length : Int)))
        (br (decide (IntKind.i64.wrap ((8 : Int) * v8) < (0 : Int))) none
          (next
            (S3 v0
              (bits BinOp.or IntKind.u64 v3
                (IntKind.u64.wrap
                  (IntKind.u64.wrap (v0.getD v8.toNat (0 : Int)) *
                    (2 : Int) ^ min (IntKind.i64.wrap ((8 : Int) * v8)).toNat 64)))
              v7 (IntKind.i64.wrap (v8 + (1 : Int))))))
        none)
      none)
    (K (AExit.exit 0) (S3 v0 v3 v7 v8)) := by kernel_rfl
theorem body (b : List Int) (K : AVal → Option R) : bodyA D Try.f36 [] [.sl (.ints .u8 b)] K =
  br
    (decide
      ((0 : Int) ≤ (0 : Int) ∧
        ((0 : Int) ≤ bif decide ((8 : Int) < (↑b.length : Int)) then (8 : Int) else (↑b.length : Int)) ∧
          (bif decide ((8 : Int) < (↑b.length : Int)) then (8 : Int) else (↑b.length : Int)) ≤ (8 : Int) ∧
            (bif decide ((8 : Int) < (↑b.length : Int)) then (8 : Int) else (↑b.length : Int)) ≤ (↑b.length : Int)))
    (K
      (AVal.v
        (Value.int IntKind.u64
          (num (0 : Int)
            (List.drop 0
              (List.take (bif decide ((8 : Int) < (↑b.length : Int)) then (8 : Int) else (↑b.length : Int)).toNat b))
            (0 : Int)))))
    none := by kernel_rfl
theorem loops : loopsOf (Try.f36.body.getD .skip) = [loopAt Try.f36 3] := by kernel_rfl
theorem lass3 : lassoc D.loops (firstRegion (loopAt Try.f36 3)) = some L3 := by kernel_rfl
end F36

namespace F71
def S3 (v0 : List Int) (v4 : Int) (h0 : List Int) : ASt := ⟨[(3, .own 0), (0, .sl (.ints .u8 v0)), (4, .v (.int .i64 v4))], [(0, some ⟨.row 5 (.ints .u8 h0), false⟩)], 1, 20⟩
def V3 : ASt → Option ((List Int) × Int × (List Int))
  | ⟨[(3, .own 0), (0, .sl (.ints .u8 v0)), (4, .v (.int .i64 v4))], [(0, some ⟨.row 5 (.ints .u8 h0), false⟩)], 1, 20⟩ => some (v0, v4, h0)
  | _ => none
theorem V3_ok {st : ASt} {v0 : List Int} {v4 : Int} {h0 : List Int} (h : V3 st = some (v0, v4, h0)) : st = S3 v0 v4 h0 := by
  unfold V3 at h
  split at h
  · cases h; rfl
  · cases h
def L3 : LSpec := fun st K => match V3 st with
  | some (v0, v4, h0) => br (decide (v0.length ≤ lim ∧ h0.length ≤ lim ∧ -1 ≤ v4 ∧ v4 < (v0.length : Int))) (K (.exit 0) (S3 v0 (-1) (h0 ++ (v0.take (v4 + 1).toNat).reverse))) none
  | none => none
noncomputable def D : Ctx := { P := Try.prog, G := [], globs := [], hints := [(3, ⟨[0, 4], [(3, 5, .ints .u8 [])], [2]⟩)], loops := [(3, L3)], inl := [] }
theorem round3 (v0 : List Int) (v4 : Int) (h0 : List Int) (next : ASt → Option R) (K : AExit → ASt → Option R) : roundA D (loopAt Try.f71 3) K next (S3 v0 v4 h0) =
  br (decide (v4 ≥ (0 : Int)))
    (br (decide ((0 : Int) ≤ v4))
      (br (decide (v4 < (↑v0.length : Int)))
        (br (decide ((h0.length + 1) * 1 ≤ 140737488355328))
          (next (S3 v0 (IntKind.i64.wrap (v4 - (1 : Int))) (h0 ++ [v0.getD v4.toNat (0 : Int)]))) none)
        none)
      none)
    (K (AExit.exit 0) (S3 v0 v4 h0)) := by kernel_rfl
theorem body (b : List Int) (K : AVal → Option R) : bodyA D Try.f71 [some (5, .ints .u8 [])] [.sl (.ints .u8 b)] K =
  br
    (decide
      (b.length ≤ 1099511627776 ∧
        0 ≤ 1099511627776 ∧
          (-1 : Int) ≤ IntKind.i64.wrap ((↑b.length : Int) - (1 : Int)) ∧
            IntKind.i64.wrap ((↑b.length : Int) - (1 : Int)) < (↑b.length : Int)))
    (K
      (AVal.fr 5
        (Cont.ints IntKind.u8
          ([] ++ (List.take (IntKind.i64.wrap ((↑b.length : Int) - (1 : Int)) + (1 : Int)).toNat b).reverse))))
    none := by kernel_rfl
theorem loops : loopsOf (Try.f71.body.getD .skip) = [loopAt Try.f71 3] := by kernel_rfl
theorem lass3 : lassoc D.loops (firstRegion (loopAt Try.f71 3)) = some L3 := by kernel_rfl
end F71

namespace F72
noncomputable def D : Ctx := { P := Try.prog, G := [], globs := [], hints := [], loops := [], inl := [] }
theorem body (b : List Int) (w c : Int) (K : AVal → Option R) : bodyA D Try.f72 [] [.sl (.ints .u8 b), .v (.int .i64 w), .v (.int .i64 c)] K =
  br (decide (w ≥ (1 : Int)))
    (br (decide (w ≤ (24 : Int)))
      (br (decide (c ≥ (0 : Int)))
        (br (decide (w = (0 : Int))) none
          (K
            (AVal.v
              (Value.bool (decide (c ≤ IntKind.i64.wrap ((IntKind.i64.wrap ((↑b.length : Int) * (8 : Int))).tdiv w)))))))
        (K (AVal.v (Value.bool false))))
      (K (AVal.v (Value.bool false))))
    (K (AVal.v (Value.bool false))) := by kernel_rfl
theorem loops : loopsOf (Try.f72.body.getD .skip) = [] := by kernel_rfl
end F72

