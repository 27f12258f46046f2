import Derived.Test.YtmaoicbiekgmhaaAbsAid
import Derived.Test.YtmaoicbiekgmhaaProg
open Go Go.Abs Go.Proofs
set_option maxRecDepth 100000
set_option linter.unusedVariables false

namespace F31
def S5 (v0 : Int) (v6 : Int) (h0 : List Int) : ASt := ⟨[(0, .v (.int .u64 v0)), (5, .own 0), (6, .v (.int .i64 v6))], [(0, some ⟨.row 5 (.ints .u8 h0), false⟩)], 1, 30⟩
def V5 : ASt → Option (Int × Int × (List Int))
  | ⟨[(0, .v (.int .u64 v0)), (5, .own 0), (6, .v (.int .i64 v6))], [(0, some ⟨.row 5 (.ints .u8 h0), false⟩)], 1, 30⟩ => some (v0, v6, h0)
  | _ => none
theorem V5_ok {st : ASt} {v0 : Int} {v6 : Int} {h0 : List Int} (h : V5 st = some (v0, v6, h0)) : st = S5 v0 v6 h0 := by
  unfold V5 at h
  split at h
  · cases h; rfl
  · cases h
def sh (v : Int) : Int := v.fdiv (2 ^ 8)
def shn (v : Int) : Nat → Int
  | 0 => v
  | k + 1 => shn (sh v) k
def be (v : Int) : Nat → List Int
  | 0 => []
  | k + 1 => be (sh v) k ++ [IntKind.u8.wrap (Go.bits BinOp.and IntKind.u64 v 255)]
def L5 : LSpec := fun st K => match V5 st with
  | some (v0, v6, h0) => br (decide (h0.length ≤ lim ∧ -1 ≤ v6 ∧ v6 < (h0.length : Int))) (K (.exit 0) (S5 (shn v0 (v6 + 1).toNat) (-1) (be v0 (v6 + 1).toNat ++ h0.drop (v6 + 1).toNat))) none
  | none => none
noncomputable def D : Ctx := { P := Try.prog, G := [], globs := [], hints := [(5, ⟨[0, 5, 6], [], [4]⟩)], loops := [(5, L5)], inl := [] }
theorem round5 (v0 : Int) (v6 : Int) (h0 : List Int) (next : ASt → Option R) (K : AExit → ASt → Option R) : roundA D (loopAt Try.f31 5) K next (S5 v0 v6 h0) =
  br (decide (v6 ≥ (0 : Int)))
    (br (decide ((0 : Int) ≤ v6))
      (br (decide (v6 < (↑h0.length : Int)))
        (next
          (S5 (v0.fdiv ((2 : Int) ^ 8)) (IntKind.i64.wrap (v6 - (1 : Int)))
            (h0.set v6.toNat (IntKind.u8.wrap (bits BinOp.and IntKind.u64 v0 (255 : Int))))))
        none)
      none)
    (K (AExit.exit 0) (S5 v0 v6 h0)) := by kernel_rfl
theorem body (n w : Int) (K : AVal → Option R) : bodyA D Try.f31 [some (5, .ints .u8 [])] [.v (.int .u64 n), .v (.int .i64 w)] K =
  br (decide (w < (0 : Int))) (K (AVal.fr 5 (Cont.ints IntKind.u8 [])))
    (br (decide (w > (65536 : Int))) (K (AVal.fr 5 (Cont.ints IntKind.u8 [])))
      (br (decide ((0 : Int) ≤ w))
        (br (decide (w ≤ w))
          (br (decide (w * (↑1 : Int) ≤ (↑140737488355328 : Int)))
            (br
              (decide
                ((List.replicate w.toNat (0 : Int)).length ≤ 1099511627776 ∧
                  (-1 : Int) ≤ IntKind.i64.wrap (w - (1 : Int)) ∧
                    IntKind.i64.wrap (w - (1 : Int)) < (↑(List.replicate w.toNat (0 : Int)).length : Int)))
              (K
                (AVal.fr 5
                  (Cont.ints IntKind.u8
                    (be n (IntKind.i64.wrap (w - (1 : Int)) + (1 : Int)).toNat ++
                      List.drop (IntKind.i64.wrap (w - (1 : Int)) + (1 : Int)).toNat
                        (List.replicate w.toNat (0 : Int))))))
              none)
            none)
          none)
        none)) := by kernel_rfl
theorem loops : loopsOf (Try.f31.body.getD .skip) = [loopAt Try.f31 5] := by kernel_rfl
theorem lass5 : lassoc D.loops (firstRegion (loopAt Try.f31 5)) = some L5 := by kernel_rfl
end F31

namespace F32
def S5 (v0 : Int) (v16 : Int) (v17 : Int) (h0 : List Int) : ASt := ⟨[(0, .v (.int .u64 v0)), (5, .own 0), (16, .v (.int .i64 v16)), (17, .v (.int .i64 v17))], [(0, some ⟨.row 5 (.ints .u8 h0), false⟩)], 1, 30⟩
def V5 : ASt → Option (Int × Int × Int × (List Int))
  | ⟨[(0, .v (.int .u64 v0)), (5, .own 0), (16, .v (.int .i64 v16)), (17, .v (.int .i64 v17))], [(0, some ⟨.row 5 (.ints .u8 h0), false⟩)], 1, 30⟩ => some (v0, v16, v17, h0)
  | _ => none
theorem V5_ok {st : ASt} {v0 : Int} {v16 : Int} {v17 : Int} {h0 : List Int} (h : V5 st = some (v0, v16, v17, h0)) : st = S5 v0 v16 v17 h0 := by
  unfold V5 at h
  split at h
  · cases h; rfl
  · cases h
/-- byte i of a number -/
def byte (n : Int) (i : Nat) : Int := IntKind.u8.wrap (n.fdiv (2 ^ min (8 * (i : Int)).toNat 64))
def le (n : Int) (i : Nat) : Nat → List Int
  | 0 => []
  | k + 1 => byte n i :: le n (i + 1) k
def L5 : LSpec := fun st K => match V5 st with
  | some (v0, v16, v17, h0) => br (decide (0 ≤ v17 ∧ v17 ≤ v16 ∧ v16 ≤ 8 ∧ v16 ≤ (h0.length : Int))) (K (.exit 0) (S5 v0 v16 (v16) (h0.take v17.toNat ++ le v0 v17.toNat (v16 - v17).toNat ++ h0.drop v16.toNat))) none
  | none => none
noncomputable def D : Ctx := { P := Try.prog, G := [], globs := [], hints := [(5, ⟨[0, 5, 16, 17], [], [4]⟩)], loops := [(5, L5)], inl := [] }
theorem round5 (v0 : Int) (v16 : Int) (v17 : Int) (h0 : List Int) (next : ASt → Option R) (K : AExit → ASt → Option R) : roundA D (loopAt Try.f32 5) K next (S5 v0 v16 v17 h0) =
  br (decide (v17 < v16))
    (br (decide (IntKind.i64.wrap ((8 : Int) * v17) < (0 : Int))) none
      (br (decide ((0 : Int) ≤ v17))
        (br (decide (v17 < (↑h0.length : Int)))
          (next
            (S5 v0 v16 (IntKind.i64.wrap (v17 + (1 : Int)))
              (h0.set v17.toNat
                (IntKind.u8.wrap (v0.fdiv ((2 : Int) ^ min (IntKind.i64.wrap ((8 : Int) * v17)).toNat 64))))))
          none)
        none))
    (K (AExit.exit 0) (S5 v0 v16 v17 h0)) := by kernel_rfl
theorem body (n w : Int) (K : AVal → Option R) : bodyA D Try.f32 [some (5, .ints .u8 [])] [.v (.int .u64 n), .v (.int .i64 w)] K =
  br (decide (w < (0 : Int))) (K (AVal.fr 5 (Cont.ints IntKind.u8 [])))
    (br (decide (w > (65536 : Int))) (K (AVal.fr 5 (Cont.ints IntKind.u8 [])))
      (br (decide ((0 : Int) ≤ w))
        (br (decide (w ≤ w))
          (br (decide (w * (↑1 : Int) ≤ (↑140737488355328 : Int)))
            (br
              (decide
                ((0 : Int) ≤ (0 : Int) ∧
                  ((0 : Int) ≤ bif decide ((8 : Int) < w) then (8 : Int) else w) ∧
                    (bif decide ((8 : Int) < w) then (8 : Int) else w) ≤ (8 : Int) ∧
                      (bif decide ((8 : Int) < w) then (8 : Int) else w) ≤
                        (↑(List.replicate w.toNat (0 : Int)).length : Int)))
              (K
                (AVal.fr 5
                  (Cont.ints IntKind.u8
                    (List.take 0 (List.replicate w.toNat (0 : Int)) ++
                        le n 0 ((bif decide ((8 : Int) < w) then (8 : Int) else w) - (0 : Int)).toNat ++
                      List.drop (bif decide ((8 : Int) < w) then (8 : Int) else w).toNat
                        (List.replicate w.toNat (0 : Int))))))
              none)
            none)
          none)
        none)) := by kernel_rfl
theorem loops : loopsOf (Try.f32.body.getD .skip) = [loopAt Try.f32 5] := by kernel_rfl
theorem lass5 : lassoc D.loops (firstRegion (loopAt Try.f32 5)) = some L5 := by kernel_rfl
end F32

namespace F70
def S1 (v2 : Int) (v3 : Int) (h0 : List Int) : ASt := ⟨[(0, .own 0), (2, .v (.int .i64 v2)), (3, .v (.int .i64 v3))], [(0, some ⟨.row 5 (.ints .u8 h0), false⟩)], 1, 28⟩
def V1 : ASt → Option (Int × Int × (List Int))
  | ⟨[(0, .own 0), (2, .v (.int .i64 v2)), (3, .v (.int .i64 v3))], [(0, some ⟨.row 5 (.ints .u8 h0), false⟩)], 1, 28⟩ => some (v2, v3, h0)
  | _ => none
theorem V1_ok {st : ASt} {v2 : Int} {v3 : Int} {h0 : List Int} (h : V1 st = some (v2, v3, h0)) : st = S1 v2 v3 h0 := by
  unfold V1 at h
  split at h
  · cases h; rfl
  · cases h
/-- the part from i to j - 1 turned round -/
def swp (h : List Int) (i j : Nat) : List Int := (List.range h.length).map fun t => h.getD (if i ≤ t ∧ t < j then i + (j - 1 - t) else t) 0
def L1 : LSpec := fun st K => match V1 st with
  | some (v2, v3, h0) => br (decide (h0.length ≤ lim ∧ 0 ≤ v2 ∧ v2 ≤ v3 + 1 ∧ v3 < (h0.length : Int))) (K (.exit 0) (S1 (v2 + (v3 - v2 + 1) / 2) (v3 - (v3 - v2 + 1) / 2) (swp h0 v2.toNat (v3 + 1).toNat))) none
  | none => none
noncomputable def D : Ctx := { P := Try.prog, G := [], globs := [], hints := [(1, ⟨[0, 2, 3], [], []⟩)], loops := [(1, L1)], inl := [] }
theorem round1 (v2 : Int) (v3 : Int) (h0 : List Int) (next : ASt → Option R) (K : AExit → ASt → Option R) : roundA D (loopAt Try.f70 1) K next (S1 v2 v3 h0) =
  br (decide (v2 < v3))
    (br (decide ((0 : Int) ≤ v3))
      (br (decide (v3 < (↑h0.length : Int)))
        (br (decide ((0 : Int) ≤ v2))
          (br (decide (v2 < (↑h0.length : Int)))
            (br (decide ((0 : Int) ≤ v2))
              (br (decide (v2 < (↑h0.length : Int)))
                (br (decide ((0 : Int) ≤ v3))
                  (br (decide (v3 < (↑(h0.set v2.toNat (h0.getD v3.toNat (0 : Int))).length : Int)))
                    (next
                      (S1 (IntKind.i64.wrap (v2 + (1 : Int))) (IntKind.i64.wrap (v3 - (1 : Int)))
                        ((h0.set v2.toNat (h0.getD v3.toNat (0 : Int))).set v3.toNat (h0.getD v2.toNat (0 : Int)))))
                    none)
                  none)
                none)
              none)
            none)
          none)
        none)
      none)
    (K (AExit.exit 0) (S1 v2 v3 h0)) := by kernel_rfl
theorem body (l : List Int) (K : AVal → Hp → Nat → Option R) : bodyIn D Try.f70 [.own 0] [(0, some ⟨.row 5 (.ints .u8 l), false⟩)] 1 K =
  br
    (decide
      (l.length ≤ 1099511627776 ∧
        (0 : Int) ≤ (0 : Int) ∧
          (0 : Int) ≤ IntKind.i64.wrap ((↑l.length : Int) - (1 : Int)) + (1 : Int) ∧
            IntKind.i64.wrap ((↑l.length : Int) - (1 : Int)) < (↑l.length : Int)))
    (K (AVal.tuple [])
      [(0,
          some
            {
              b :=
                Bk.row 5
                  (Cont.ints IntKind.u8
                    (swp l 0 (IntKind.i64.wrap ((↑l.length : Int) - (1 : Int)) + (1 : Int)).toNat)),
              frz := false })]
      1)
    none := by kernel_rfl
theorem loops : loopsOf (Try.f70.body.getD .skip) = [loopAt Try.f70 1] := by kernel_rfl
theorem lass1 : lassoc D.loops (firstRegion (loopAt Try.f70 1)) = some L1 := by kernel_rfl
end F70

