/-
  MacTells, part I: an interpreter of my own over abstract values, the pure functions, the walks and the plain law.
-/

import Derived.Test.YtjhnljhjpnjieaaDoorMacTellsF
import Derived.Test.YtjhnljhjpnjieaaDoorMacTellsH
import Derived.Test.YtjhnljhjpnjieaaDoorMacTellsG
import Derived.Test.YtjhnljhjpnjieaaDoorProg
import Derived.KernelRfl

section
open Go Go.Abs
set_option linter.unusedVariables false
namespace P
noncomputable def R08_Absorb_r4 {ρ : Type} (v1 : List Int) (v5 : Int) (h0_0 : Int) (h0_1 : List Int) (h0_2 : Int) (h0_3 : Bool) (h1_0 : Int) (h1_1 : List Int) (h1_2 : Int) (h1_3 : Bool) (nx : (List Int) → Int → Int → (List Int) → Int → Bool → Int → (List Int) → Int → Bool → Option ρ) (k0 : (List Int) → Int → Int → (List Int) → Int → Bool → Int → (List Int) → Int → Bool → Option ρ) : Option ρ :=
 br (decide (v5 < (↑v1.length : Int)))
 (br (decide ((0 : Int) ≤ v5))
  (br (decide (v5 < (↑v1.length : Int)))
   (R08_put h0_1 h0_2 (v1.getD v5.toNat (0 : Int)) fun (q0 : List Int) =>
    R08_Rate h0_0 fun (q1 : Int) =>
     br (IntKind.i64.wrap (h0_2 + (1 : Int)) == q1)
      (R08_Permute q0 fun (q2 : List Int) =>
       nx v1 (IntKind.i64.wrap (v5 + (1 : Int))) h0_0 q2 (0 : Int) h0_3 h1_0 h1_1 h1_2 h1_3)
      (nx v1 (IntKind.i64.wrap (v5 + (1 : Int))) h0_0 q0 (IntKind.i64.wrap (h0_2 + (1 : Int))) h0_3 h1_0 h1_1 h1_2
       h1_3))
   none)
  none)
 (k0 v1 v5 h0_0 h0_1 h0_2 h0_3 h1_0 h1_1 h1_2 h1_3)
noncomputable def R08_Absorb_L4 {ρ : Type} (v1 : List Int) (v5 : Int) (h0_0 : Int) (h0_1 : List Int) (h0_2 : Int) (h0_3 : Bool) (h1_0 : Int) (h1_1 : List Int) (h1_2 : Int) (h1_3 : Bool) (k0 : (List Int) → Int → Int → (List Int) → Int → Bool → Int → (List Int) → Int → Bool → Option ρ) : Option ρ :=
 lp (fun (x : (List Int) × Int × Int × (List Int) × Int × Bool × Int × (List Int) × Int × Bool) next (ex : ((List Int) × Int × Int × (List Int) × Int × Bool × Int × (List Int) × Int × Bool) → Option ρ) => R08_Absorb_r4 x.1 x.2.1 x.2.2.1 x.2.2.2.1 x.2.2.2.2.1 x.2.2.2.2.2.1 x.2.2.2.2.2.2.1 x.2.2.2.2.2.2.2.1 x.2.2.2.2.2.2.2.2.1 x.2.2.2.2.2.2.2.2.2 (fun v1 v5 h0_0 h0_1 h0_2 h0_3 h1_0 h1_1 h1_2 h1_3 => next (v1, v5, h0_0, h0_1, h0_2, h0_3, h1_0, h1_1, h1_2, h1_3)) (fun v1 v5 h0_0 h0_1 h0_2 h0_3 h1_0 h1_1 h1_2 h1_3 => ex (v1, v5, h0_0, h0_1, h0_2, h0_3, h1_0, h1_1, h1_2, h1_3))) (v1, v5, h0_0, h0_1, h0_2, h0_3, h1_0, h1_1, h1_2, h1_3) (fun x => k0 x.1 x.2.1 x.2.2.1 x.2.2.2.1 x.2.2.2.2.1 x.2.2.2.2.2.1 x.2.2.2.2.2.2.1 x.2.2.2.2.2.2.2.1 x.2.2.2.2.2.2.2.2.1 x.2.2.2.2.2.2.2.2.2)
noncomputable def R08_Absorb_l4 {ρ : Type} := shut (R08_Absorb_L4 (ρ := ρ))
theorem R08_Absorb_l4_eq {ρ : Type} : R08_Absorb_l4 (ρ := ρ) = R08_Absorb_L4 := shut_eq _
noncomputable def R08_Absorb_raw {ρ : Type} (a0_Kind : Int) (a0_Words : List Int) (a0_At : Int) (a0_Out : Bool) (a1 : List Int) (k : Int → (List Int) → Int → Bool → Option ρ) : Option ρ :=
 br a0_Out (k a0_Kind a0_Words a0_At a0_Out)
 (R08_Absorb_l4 a1 (0 : Int) a0_Kind a0_Words a0_At a0_Out (0 : Int)
  [(0 : Int), (0 : Int), (0 : Int), (0 : Int), (0 : Int), (0 : Int), (0 : Int), (0 : Int), (0 : Int), (0 : Int),
   (0 : Int), (0 : Int), (0 : Int), (0 : Int), (0 : Int), (0 : Int), (0 : Int), (0 : Int), (0 : Int), (0 : Int),
   (0 : Int), (0 : Int), (0 : Int), (0 : Int), (0 : Int)]
  (0 : Int) false
  fun (q0 : List Int) (q1 q2 : Int) (q3 : List Int) (q4 : Int) (q5 : Bool) (q6 : Int) (q7 : List Int) (q8 : Int)
   (q9 : Bool) =>
  k q2 q3 q4 q5)
noncomputable def R08_Absorb {ρ : Type} := shut (R08_Absorb_raw (ρ := ρ))
theorem R08_Absorb_eq {ρ : Type} (a0_Kind : Int) (a0_Words : List Int) (a0_At : Int) (a0_Out : Bool) (a1 : List Int) (k : Int → (List Int) → Int → Bool → Option ρ) : R08_Absorb a0_Kind a0_Words a0_At a0_Out a1 k = R08_Absorb_raw a0_Kind a0_Words a0_At a0_Out a1 k := by unfold R08_Absorb; rw [shut_eq]
end P
end

section
open Go Go.Abs
set_option linter.unusedVariables false
namespace P
noncomputable def R08_Sum_raw {ρ : Type} (a0 : Int) (a1 : List Int) (a2 : Int) (k : (List Int) → Int → Option ρ) : Option ρ :=
 R08_New a0 fun (q0 : Int) (q1 : List Int) (q2 : Int) (q3 : Bool) (q4 : Int) =>
 br (q4 != (0 : Int)) (k [] q4)
  (br (decide (a2 < (0 : Int))) (k [] (8 : Int))
   (br (decide (a2 > (16777216 : Int))) (k [] (8 : Int))
    (R08_Absorb q0 q1 q2 q3 a1 fun (q5 : Int) (q6 : List Int) (q7 : Int) (q8 : Bool) =>
     R08_Squeeze q5 q6 q7 q8 a2 fun (q9 : Int) (q10 : List Int) (q11 : Int) (q12 : Bool) (q13 : List Int) =>
      k q13 (0 : Int))))
noncomputable def R08_Sum {ρ : Type} := shut (R08_Sum_raw (ρ := ρ))
theorem R08_Sum_eq {ρ : Type} (a0 : Int) (a1 : List Int) (a2 : Int) (k : (List Int) → Int → Option ρ) : R08_Sum a0 a1 a2 k = R08_Sum_raw a0 a1 a2 k := by unfold R08_Sum; rw [shut_eq]
end P
end

section
open Go Go.Abs
set_option linter.unusedVariables false
namespace P
noncomputable def R09_Digest_raw {ρ : Type} (a0 : Int) (a1 : List Int) (k : (List Int) → Int → Option ρ) : Option ρ :=
 R09_Size a0 fun (q0 : Int) =>
 br (q0 == (0 : Int)) (k [] (9 : Int))
  (br (decide (a0 ≤ (3 : Int))) (R07_Sum a0 a1 fun (q1 : List Int) (q2 : Int) => k q1 q2)
   (R09_Size a0 fun (q3 : Int) => R08_Sum a0 a1 q3 fun (q4 : List Int) (q5 : Int) => k q4 q5))
noncomputable def R09_Digest {ρ : Type} := shut (R09_Digest_raw (ρ := ρ))
theorem R09_Digest_eq {ρ : Type} (a0 : Int) (a1 : List Int) (k : (List Int) → Int → Option ρ) : R09_Digest a0 a1 k = R09_Digest_raw a0 a1 k := by unfold R09_Digest; rw [shut_eq]
end P
end

section
open Go Go.Abs
set_option linter.unusedVariables false
namespace P
noncomputable def R09_block_raw {ρ : Type} (a0 : Int) (k : Int → Option ρ) : Option ρ :=
 br (decide (a0 ≤ (3 : Int))) (R07_Block a0 fun (q0 : Int) => k q0) (R08_Rate a0 fun (q1 : Int) => k q1)
noncomputable def R09_block {ρ : Type} := shut (R09_block_raw (ρ := ρ))
theorem R09_block_eq {ρ : Type} (a0 : Int) (k : Int → Option ρ) : R09_block a0 k = R09_block_raw a0 k := by unfold R09_block; rw [shut_eq]
end P
end

section
open Go Go.Abs
set_option linter.unusedVariables false
namespace P
noncomputable def R09_Hmac_r10 {ρ : Type} (v0 : Int) (v2 : List Int) (v8 : Int) (v9 : List Int) (v12 : Int) (h40 : List Int) (h41 : List Int) (nx : Int → (List Int) → Int → (List Int) → Int → (List Int) → (List Int) → Option ρ) (k0 : Int → (List Int) → Int → (List Int) → Int → (List Int) → (List Int) → Option ρ) : Option ρ :=
 br (decide (v12 < v8))
 (br (decide (v12 < (↑v9.length : Int)))
  (br (decide ((0 : Int) ≤ v12))
   (br (decide (v12 < (↑v9.length : Int)))
    (br
     (decide
      ((h40.length + 1) * 1 ≤
       140737488355328))
     (br
      (decide
       ((h41.length + 1) * 1 ≤
        140737488355328))
      (nx v0 v2 v8 v9 (IntKind.i64.wrap (v12 + (1 : Int)))
       (h40 ++ [bits BinOp.xor IntKind.u8 (v9.getD v12.toNat (0 : Int)) (54 : Int)])
       (h41 ++ [bits BinOp.xor IntKind.u8 (v9.getD v12.toNat (0 : Int)) (92 : Int)]))
      none)
     none)
    none)
   none)
  (br
   (decide
    ((h40.length + 1) * 1 ≤
     140737488355328))
   (br
    (decide
     ((h41.length + 1) * 1 ≤
      140737488355328))
    (nx v0 v2 v8 v9 (IntKind.i64.wrap (v12 + (1 : Int))) (h40 ++ [bits BinOp.xor IntKind.u8 (0 : Int) (54 : Int)])
     (h41 ++ [bits BinOp.xor IntKind.u8 (0 : Int) (92 : Int)]))
    none)
   none))
 (k0 v0 v2 v8 v9 v12 h40 h41)
noncomputable def R09_Hmac_L10 {ρ : Type} (v0 : Int) (v2 : List Int) (v8 : Int) (v9 : List Int) (v12 : Int) (h40 : List Int) (h41 : List Int) (k0 : Int → (List Int) → Int → (List Int) → Int → (List Int) → (List Int) → Option ρ) : Option ρ :=
 lp (fun (x : Int × (List Int) × Int × (List Int) × Int × (List Int) × (List Int)) next (ex : (Int × (List Int) × Int × (List Int) × Int × (List Int) × (List Int)) → Option ρ) => R09_Hmac_r10 x.1 x.2.1 x.2.2.1 x.2.2.2.1 x.2.2.2.2.1 x.2.2.2.2.2.1 x.2.2.2.2.2.2 (fun v0 v2 v8 v9 v12 h40 h41 => next (v0, v2, v8, v9, v12, h40, h41)) (fun v0 v2 v8 v9 v12 h40 h41 => ex (v0, v2, v8, v9, v12, h40, h41))) (v0, v2, v8, v9, v12, h40, h41) (fun x => k0 x.1 x.2.1 x.2.2.1 x.2.2.2.1 x.2.2.2.2.1 x.2.2.2.2.2.1 x.2.2.2.2.2.2)
noncomputable def R09_Hmac_l10 {ρ : Type} := shut (R09_Hmac_L10 (ρ := ρ))
theorem R09_Hmac_l10_eq {ρ : Type} : R09_Hmac_l10 (ρ := ρ) = R09_Hmac_L10 := shut_eq _
noncomputable def R09_Hmac_raw {ρ : Type} (a0 : Int) (a1 : List Int) (a2 : List Int) (k : (List Int) → Int → Option ρ) : Option ρ :=
 br (decide (a0 < (1 : Int))) (k [] (9 : Int))
 (br (decide (a0 > (5 : Int))) (k [] (9 : Int))
  (R09_block a0 fun (q0 : Int) =>
   br (decide ((↑a1.length : Int) > q0))
    (R09_Digest a0 a1 fun (q1 : List Int) (q2 : Int) =>
     R09_Hmac_l10 a0 a2 q0 q1 (0 : Int) [] []
      fun (q3 : Int) (q4 : List Int) (q5 : Int) (q6 : List Int) (q7 : Int) (q8 q9 : List Int) =>
      br
       (decide
        ((q8.length + q4.length) * 1 ≤
         140737488355328))
       (R09_Digest q3 (q8 ++ q4) fun (q10 : List Int) (q11 : Int) =>
        br
         (decide
          ((q9.length + q10.length) *
            1 ≤
           140737488355328))
         (R09_Digest q3 (q9 ++ q10) fun (q12 : List Int) (q13 : Int) => k q12 q13) none)
       none)
    (R09_Hmac_l10 a0 a2 q0 a1 (0 : Int) [] []
     fun (q14 : Int) (q15 : List Int) (q16 : Int) (q17 : List Int) (q18 : Int) (q19 q20 : List Int) =>
     br
      (decide
       ((q19.length + q15.length) * 1 ≤
        140737488355328))
      (R09_Digest q14 (q19 ++ q15) fun (q21 : List Int) (q22 : Int) =>
       br
        (decide
         ((q20.length + q21.length) *
           1 ≤
          140737488355328))
        (R09_Digest q14 (q20 ++ q21) fun (q23 : List Int) (q24 : Int) => k q23 q24) none)
      none)))
noncomputable def R09_Hmac {ρ : Type} := shut (R09_Hmac_raw (ρ := ρ))
theorem R09_Hmac_eq {ρ : Type} (a0 : Int) (a1 : List Int) (a2 : List Int) (k : (List Int) → Int → Option ρ) : R09_Hmac a0 a1 a2 k = R09_Hmac_raw a0 a1 a2 k := by unfold R09_Hmac; rw [shut_eq]
end P
end

section
open Go Go.Abs
set_option linter.unusedVariables false
namespace P
noncomputable def mac_Extract_raw {ρ : Type} (a0 : Int) (a1 : List Int) (a2 : List Int) (k : (List Int) → Int → Option ρ) : Option ρ :=
 mac_Hmac a0 a1 a2 fun (q0 : List Int) (q1 : Int) => k q0 q1
noncomputable def mac_Extract {ρ : Type} := shut (mac_Extract_raw (ρ := ρ))
theorem mac_Extract_eq {ρ : Type} (a0 : Int) (a1 : List Int) (a2 : List Int) (k : (List Int) → Int → Option ρ) : mac_Extract a0 a1 a2 k = mac_Extract_raw a0 a1 a2 k := by unfold mac_Extract; rw [shut_eq]
end P
end

section
open Go Go.Abs
set_option linter.unusedVariables false
namespace P
noncomputable def L09_MacTells_raw {ρ : Type} (a0 : Int) (a1 : List Int) (a2 : List Int) (k : Bool → Option ρ) : Option ρ :=
 br (decide ((↑a1.length : Int) > (600 : Int))) (L09_awake fun (q0 : Bool) => k q0)
 (br (decide ((↑a2.length : Int) > (600 : Int))) (L09_awake fun (q1 : Bool) => k q1)
  (mac_Digest a0 a2 fun (q2 : List Int) (q3 : Int) =>
   R09_Digest a0 a2 fun (q4 : List Int) (q5 : Int) =>
    mac_Hmac a0 a1 a2 fun (q6 : List Int) (q7 : Int) =>
     R09_Hmac a0 a1 a2 fun (q8 : List Int) (q9 : Int) =>
      mac_Extract a0 a1 a2 fun (q10 : List Int) (q11 : Int) =>
       mac_Size a0 fun (q12 : Int) =>
        R09_Size a0 fun (q13 : Int) =>
         br (q12 == q13)
          (R01_Same q2 q4 fun (q14 : Bool) =>
           br q14
            (br (q3 == q5)
             (R01_Same q6 q8 fun (q15 : Bool) =>
              br q15
               (br (q7 == q9)
                (R01_Same q10 q8 fun (q16 : Bool) =>
                 br q16 (br (q11 == q9) (L09_awake fun (q17 : Bool) => k q17) (k false)) (k false))
                (k false))
               (k false))
             (k false))
            (k false))
          (k false)))
noncomputable def L09_MacTells {ρ : Type} := shut (L09_MacTells_raw (ρ := ρ))
theorem L09_MacTells_eq {ρ : Type} (a0 : Int) (a1 : List Int) (a2 : List Int) (k : Bool → Option ρ) : L09_MacTells a0 a1 a2 k = L09_MacTells_raw a0 a1 a2 k := by unfold L09_MacTells; rw [shut_eq]
end P
end

section
open Go Go.Abs Go.Proofs
set_option maxRecDepth 100000
set_option linter.unusedVariables false
namespace R01_Same
abbrev X4 := (List Int) × (List Int) × Int
def S4 : X4 → ASt := fun (v0, v1, v5) => ⟨[(0, .sl (.ints .u8 v0)), (1, .sl (.ints .u8 v1)), (5, .v (.int .i64 v5))], [], 0, 26⟩
def V4 : ASt → Option X4
 | ⟨[(0, .sl (.ints .u8 v0)), (1, .sl (.ints .u8 v1)), (5, .v (.int .i64 v5))], [], 0, 26⟩ => some (v0, v1, v5)
 | _ => none
theorem V4_ok (st) (x) (h : V4 st = some x) : st = S4 x := by
 unfold V4 at h
 split at h
 · cases h; rfl
 · cases h
abbrev Y4 := X4 ⊕ (Bool)
noncomputable def T4 : X4 → (X4 → Option R) → (Y4 → Option R) → Option R := fun (v0, v1, v5) next ex => P.R01_Same_r4 v0 v1 v5 (fun v0 v1 v5 => next (v0, v1, v5)) (fun v0 v1 v5 => ex (.inl (v0, v1, v5))) (fun v4 => ex (.inr v4))
def E4 (K : AExit → ASt → Option R) : Y4 → Option R := (Sum.elim (fun x => K (.exit 0) (S4 x)) (fun v4 => K .ret ⟨[(4, .v (.bool v4))], [], 0, 26⟩))
noncomputable def L4 : LSpec := fun st K => vMap (V4 st) fun (v0, v1, v5) => P.R01_Same_l4 v0 v1 v5 (fun v0 v1 v5 => K (.exit 0) (S4 (v0, v1, v5))) (fun v4 => K .ret ⟨[(4, .v (.bool v4))], [], 0, 26⟩)
noncomputable def D : Ctx := ({ P := Tryd.prog, G := [], globs := GLO.gC, hints := [(4, ⟨[0, 1, 5], [], [4], [], none, []⟩)], loops := [(4, L4)], inl := [] } : Ctx)
theorem round4 (K) (next) (x) : roundA D (loopAt Tryd.f18 4) K next (S4 x) = T4 x (fun x => next (S4 x)) (E4 K) := by kernel_rfl
theorem lq4 (st) (K) : L4 st K = vMap (V4 st) (fun x => lp T4 x (E4 K)) := by
 unfold L4
 cases V4 st with
 | none => rfl
 | some x => rw [P.R01_Same_l4_eq]; kernel_rfl
theorem loop4 : LoopOk D (loopAt Tryd.f18 4) := loopOk_lp S4 V4_ok (by kernel_rfl) lq4 round4
theorem body (a0 : List Int) (a1 : List Int) (K : AVal → Option R) : bodyA D Tryd.f18 [.any] [.sl (.ints .u8 a0), .sl (.ints .u8 a1)] K = P.R01_Same a0 a1 (fun r0 => K (.v (.bool r0))) := by
 rw [P.R01_Same_eq]
 kernel_rfl
theorem loops : loopsOf (Tryd.f18.body.getD .skip) = [loopAt Tryd.f18 4] := by kernel_rfl
noncomputable def spec0 : Abs.Spec := fun args K => match args with
 | [.sl (.ints .u8 a0), .sl (.ints .u8 a1)] => P.R01_Same a0 a1 (fun r0 => K (.v (.bool r0)))
 | _ => none
noncomputable def spec : Abs.Spec := fun args K => spec0 (coerL [.sl (.ints .u8 []), .sl (.ints .u8 [])] args) K
theorem ok0 : Proved Tryd.prog GLO.gC 18 spec0 := by
 refine proved_of (D := D) (fn := Tryd.f18) (c := Tryd.f18.body.getD .skip) [.any] (by kernel_rfl) (globsPlain_of (by kernel_rfl)) (by kernel_rfl) (by kernel_rfl) (by kernel_rfl) trivial trivial ?_ ?_
 · rw [loops]; exact ⟨loop4, trivial⟩
 · intro args K r h
   unfold spec0 at h
   split at h
   · rw [body]; exact h
   · cases h
theorem ok : Proved Tryd.prog GLO.gC 18 spec := proved_coer _ ok0
end R01_Same
end

section
open Go Go.Abs Go.Proofs
set_option maxRecDepth 100000
set_option linter.unusedVariables false
namespace mac_Size
noncomputable def D : Ctx := ({ P := Tryd.prog, G := [], globs := GLO.gC, hints := [], loops := [], inl := [] } : Ctx)
theorem body (a0 : Int) (K : AVal → Option R) : bodyA D Tryd.f16 [.any] [.v (.int .i64 a0)] K = P.mac_Size a0 (fun r0 => K (.v (.int .i64 r0))) := by
 rw [P.mac_Size_eq]
 kernel_rfl
theorem loops : loopsOf (Tryd.f16.body.getD .skip) = [] := by kernel_rfl
noncomputable def spec0 : Abs.Spec := fun args K => match args with
 | [.v (.int .i64 a0)] => P.mac_Size a0 (fun r0 => K (.v (.int .i64 r0)))
 | _ => none
noncomputable def spec : Abs.Spec := spec0
theorem ok0 : Proved Tryd.prog GLO.gC 16 spec0 := by
 refine proved_of (D := D) (fn := Tryd.f16) (c := Tryd.f16.body.getD .skip) [.any] (by kernel_rfl) (globsPlain_of (by kernel_rfl)) (by kernel_rfl) (by kernel_rfl) (by kernel_rfl) trivial trivial ?_ ?_
 · rw [loops]; exact trivial
 · intro args K r h
   unfold spec0 at h
   split at h
   · rw [body]; exact h
   · cases h
theorem ok : Proved Tryd.prog GLO.gC 16 spec := ok0
end mac_Size
end

section
open Go Go.Abs Go.Proofs
set_option maxRecDepth 100000
set_option linter.unusedVariables false
namespace mac_keyed
noncomputable def D : Ctx := ({ P := Tryd.prog, G := [], globs := GLO.gC, hints := [], loops := [], inl := [] } : Ctx)
theorem body (a0 : Int) (K : AVal → Option R) : bodyA D Tryd.f55 [.any] [.v (.int .i64 a0)] K = P.mac_keyed a0 (fun r0 => K (.v (.bool r0))) := by
 rw [P.mac_keyed_eq]
 kernel_rfl
theorem loops : loopsOf (Tryd.f55.body.getD .skip) = [] := by kernel_rfl
noncomputable def spec0 : Abs.Spec := fun args K => match args with
 | [.v (.int .i64 a0)] => P.mac_keyed a0 (fun r0 => K (.v (.bool r0)))
 | _ => none
noncomputable def spec : Abs.Spec := spec0
theorem ok0 : Proved Tryd.prog GLO.gC 55 spec0 := by
 refine proved_of (D := D) (fn := Tryd.f55) (c := Tryd.f55.body.getD .skip) [.any] (by kernel_rfl) (globsPlain_of (by kernel_rfl)) (by kernel_rfl) (by kernel_rfl) (by kernel_rfl) trivial trivial ?_ ?_
 · rw [loops]; exact trivial
 · intro args K r h
   unfold spec0 at h
   split at h
   · rw [body]; exact h
   · cases h
theorem ok : Proved Tryd.prog GLO.gC 55 spec := ok0
end mac_keyed
end
