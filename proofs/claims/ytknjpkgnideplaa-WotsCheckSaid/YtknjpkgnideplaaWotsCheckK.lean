/-
  WotsCheck, part K: an interpreter of my own over abstract values, the pure functions, the walks and the plain law.
-/

import Derived.Test.YtknjpkgnideplaaWotsCheckJ
import Derived.Laws.Bits64
import Derived.Test.YtknjpkgnideplaaWotsCheckF
import Derived.Test.YtknjpkgnideplaaWotsCheckG

section
/- Small laws for the plain proofs. -/
namespace Q
open Go Go.Abs
set_option linter.unusedVariables false

/-- all from 0 up and below a bound -/
def In (m : Int) (l : List Int) : Prop := ∀ x, x ∈ l → 0 ≤ x ∧ x < m

theorem wf_u8 {n : Int} (h : wfI .u8 n) : 0 ≤ n ∧ n < 256 := by
  simp [wfI, Lit.wf, IntKind.min, IntKind.max, IntKind.signed, IntKind.bits] at h; omega
theorem wf_u32 {n : Int} (h : wfI .u32 n) : 0 ≤ n ∧ n < 4294967296 := by
  simp [wfI, Lit.wf, IntKind.min, IntKind.max, IntKind.signed, IntKind.bits] at h; omega
theorem wf_u64 {n : Int} (h : wfI .u64 n) : 0 ≤ n ∧ n < 18446744073709551616 := by
  simp [wfI, Lit.wf, IntKind.min, IntKind.max, IntKind.signed, IntKind.bits] at h; omega
theorem wf_i64 {n : Int} (h : wfI .i64 n) : -9223372036854775808 ≤ n ∧ n ≤ 9223372036854775807 := by
  simp [wfI, Lit.wf, IntKind.min, IntKind.max, IntKind.signed, IntKind.bits] at h; omega
theorem in_u8 {l : List Int} (h : ∀ x, x ∈ l → wfI .u8 x) : In 256 l := fun x hx => wf_u8 (h x hx)
theorem in_u32 {l : List Int} (h : ∀ x, x ∈ l → wfI .u32 x) : In 4294967296 l := fun x hx => wf_u32 (h x hx)
theorem in_u64 {l : List Int} (h : ∀ x, x ∈ l → wfI .u64 x) : In 18446744073709551616 l := fun x hx => wf_u64 (h x hx)

theorem In.tail {m x : Int} {l : List Int} (h : In m (x :: l)) : In m l := fun y hy => h y (List.mem_cons_of_mem _ hy)
theorem In.head {m x : Int} {l : List Int} (h : In m (x :: l)) : 0 ≤ x ∧ x < m := h x (List.mem_cons_self ..)
theorem In.app {m : Int} {l r : List Int} (h1 : In m l) (h2 : In m r) : In m (l ++ r) := fun y hy => (List.mem_append.1 hy).elim (h1 y) (h2 y)
theorem In.left {m : Int} {l r : List Int} (h : In m (l ++ r)) : In m l := fun y hy => h y (List.mem_append_left _ hy)
theorem In.right {m : Int} {l r : List Int} (h : In m (l ++ r)) : In m r := fun y hy => h y (List.mem_append_right _ hy)
theorem In.take {m : Int} {l : List Int} (h : In m l) (n : Nat) : In m (l.take n) := fun y hy => h y (List.mem_of_mem_take hy)
theorem In.drop {m : Int} {l : List Int} (h : In m l) (n : Nat) : In m (l.drop n) := fun y hy => h y (List.mem_of_mem_drop hy)
theorem In.nil {m : Int} : In m [] := fun y hy => by simp at hy
theorem In.rev {m : Int} {l : List Int} (h : In m l) : In m l.reverse := fun y hy => h y (by simpa using hy)
theorem In.getD {m : Int} {l : List Int} (h : In m l) (i : Nat) (hm : 0 < m) : 0 ≤ l.getD i 0 ∧ l.getD i 0 < m := by
  rw [List.getD_eq_getElem?_getD]
  by_cases hi : i < l.length
  · rw [List.getElem?_eq_getElem hi]; exact h _ (List.getElem_mem hi)
  · rw [List.getElem?_eq_none (by omega)]; exact ⟨Int.le_refl 0, hm⟩
theorem In.map {m : Int} {α : Type} {l : List α} {f : α → Int} (h : ∀ a, a ∈ l → 0 ≤ f a ∧ f a < m) : In m (l.map f) := fun y hy => by
  obtain ⟨a, ha, rfl⟩ := List.mem_map.1 hy
  exact h a ha

theorem br_bne_pos {α : Type} {a b : Int} (h : ¬ a = b) (x y : α) : br (a != b) x y = x := by rw [bne_iff_ne.2 h]; exact br_tt x y
theorem br_bne_neg {α : Type} {a b : Int} (h : a = b) (x y : α) : br (a != b) x y = y := by rw [bne_eq_false_iff_eq.2 h]; exact br_ff x y
theorem br_beq_pos {α : Type} {a b : Int} (h : a = b) (x y : α) : br (a == b) x y = x := by rw [beq_iff_eq.2 h]; exact br_tt x y
theorem br_beq_neg {α : Type} {a b : Int} (h : ¬ a = b) (x y : α) : br (a == b) x y = y := by rw [beq_eq_false_iff_ne.2 h]; exact br_ff x y
theorem br_not {α : Type} (b : Bool) (x y : α) : br (!b) x y = br b y x := by cases b <;> simp
theorem br_dec {α : Type} (p : Prop) [Decidable p] (x y : α) : br (decide p) x y = if p then x else y := by
  by_cases h : p
  · rw [br_pos h, if_pos h]
  · rw [br_neg h, if_neg h]
theorem br_same {α : Type} (b : Bool) (x : α) : br b x x = x := by cases b <;> simp

/-- A LOOP that goes up: its states by a number. -/
theorem lp_up {X Y ρ : Type} {stp : X → (X → Option ρ) → (Y → Option ρ) → Option ρ} {K : Y → Option ρ} {r : Option ρ} (S : Nat → X) (n : Nat)
    (hstep : ∀ i, i < n → ∀ next, next (S (i + 1)) = r → stp (S i) next K = r) (hend : ∀ next, stp (S n) next K = r) {i : Nat} (hi : i ≤ n) (hn : n ≤ 18446744073709551616) : lp stp (S i) K = r := by
  have key : ∀ m i, m + i = n → lpN stp K m (S i) = r ∧ ∀ q, m ≤ q → lpN stp K q (S i) = r := by
    intro m
    induction m with
    | zero =>
      intro i hi
      have : i = n := by omega
      subst this
      refine ⟨hend _, fun q _ => ?_⟩
      cases q with
      | zero => exact hend _
      | succ q => exact hend _
    | succ m ih =>
      intro i hi
      refine ⟨hstep i (by omega) _ (ih (i + 1) (by omega)).1, fun q hq => ?_⟩
      cases q with
      | zero => omega
      | succ q => exact hstep i (by omega) _ ((ih (i + 1) (by omega)).2 q (by omega))
  exact (key (n - i) i (by omega)).2 FU (by rw [FU_eq]; omega)

theorem getD_lt {α : Type} {l : List α} {d : α} {i : Nat} (h : i < l.length) : l.getD i d = l[i] := by
  rw [List.getD_eq_getElem?_getD, List.getElem?_eq_getElem h]; rfl
theorem getD_ge {α : Type} {l : List α} {d : α} {i : Nat} (h : l.length ≤ i) : l.getD i d = d := by
  rw [List.getD_eq_getElem?_getD, List.getElem?_eq_none h]; rfl
theorem toNat_cast (n : Nat) : ((n : Int)).toNat = n := Int.toNat_natCast n

/-- 'out[i] = f i', from the beginning on -/
theorem fill_step (f : Nat → Int) (i n : Nat) (h : i < n) (d : Int) : ((List.range i).map f ++ List.replicate (n - i) d).set i (f i) = (List.range (i + 1)).map f ++ List.replicate (n - (i + 1)) d := by
  rw [List.set_append_right _ _ (by simp), show n - i = (n - (i + 1)) + 1 by omega, List.replicate_succ]
  simp [List.range_succ]
theorem range_map_step {α : Type} (f : Nat → α) (i : Nat) : (List.range i).map f ++ [f i] = (List.range (i + 1)).map f := by simp [List.range_succ]
theorem take_step {α : Type} (l : List α) (d : α) (i : Nat) (h : i < l.length) : l.take i ++ [l.getD i d] = l.take (i + 1) := by
  rw [getD_lt h, List.take_add_one, List.getElem?_eq_getElem h]; rfl
theorem drop_step {α : Type} (l : List α) (d : α) (i : Nat) (h : i < l.length) : l.drop i = l.getD i d :: l.drop (i + 1) := by
  rw [getD_lt h]; exact List.drop_eq_getElem_cons h
end Q
end

section
open Go Go.Abs
set_option linter.unusedVariables false
namespace P
noncomputable def R01_SameNums_r4 {ρ : Type} (v0 : List Int) (v1 : List Int) (v5 : Int) (nx : (List Int) → (List Int) → Int → Option ρ) (k0 : (List Int) → (List Int) → Int → Option ρ) (k1 : Bool → Option ρ) : Option ρ :=
  br (decide (v5 < (↑v0.length : Int)))
    (br (decide ((0 : Int) ≤ v5))
      (br (decide (v5 < (↑v0.length : Int)))
        (br (decide ((0 : Int) ≤ v5))
          (br (decide (v5 < (↑v1.length : Int)))
            (br (v0.getD v5.toNat (0 : Int) != v1.getD v5.toNat (0 : Int)) (k1 false)
              (nx v0 v1 (IntKind.i64.wrap (v5 + (1 : Int)))))
            none)
          none)
        none)
      none)
    (k0 v0 v1 v5)
noncomputable def R01_SameNums_L4 {ρ : Type} (v0 : List Int) (v1 : List Int) (v5 : Int) (k0 : (List Int) → (List Int) → Int → Option ρ) (k1 : Bool → Option ρ) : Option ρ :=
  lp (fun (x : (List Int) × (List Int) × Int) (next : ((List Int) × (List Int) × Int) → Option ρ) (ex : (((List Int) × (List Int) × Int) ⊕ ((Bool))) → Option ρ) => R01_SameNums_r4 x.1 x.2.1 x.2.2 (fun v0 v1 v5 => next (v0, v1, v5)) (fun v0 v1 v5 => ex (.inl (v0, v1, v5))) (fun v4 => ex (.inr v4))) (v0, v1, v5) (Sum.elim (fun x => k0 x.1 x.2.1 x.2.2) (fun x => k1 x))
noncomputable def R01_SameNums_l4 {ρ : Type} (v0 : List Int) (v1 : List Int) (v5 : Int) (k0 : (List Int) → (List Int) → Int → Option ρ) (k1 : Bool → Option ρ) : Option ρ := shut (R01_SameNums_L4 (ρ := ρ)) v0 v1 v5 k0 k1
theorem R01_SameNums_l4_eq {ρ : Type} (v0 : List Int) (v1 : List Int) (v5 : Int) (k0 : (List Int) → (List Int) → Int → Option ρ) (k1 : Bool → Option ρ) : R01_SameNums_l4 v0 v1 v5 k0 k1 = R01_SameNums_L4 v0 v1 v5 k0 k1 := by unfold R01_SameNums_l4; rw [shut_eq]
noncomputable def R01_SameNums_raw {ρ : Type} (a0 : List Int) (a1 : List Int) (k : Bool → Option ρ) : Option ρ :=
  br ((↑a0.length : Int) != (↑a1.length : Int)) (k false)
    (R01_SameNums_l4 a0 a1 (0 : Int) (fun (q0 q1 : List Int) (q2 : Int) => k true) fun (q3 : Bool) => k q3)
noncomputable def R01_SameNums {ρ : Type} (a0 : List Int) (a1 : List Int) (k : Bool → Option ρ) : Option ρ := shut (R01_SameNums_raw (ρ := ρ)) a0 a1 k
theorem R01_SameNums_eq {ρ : Type} (a0 : List Int) (a1 : List Int) (k : Bool → Option ρ) : R01_SameNums a0 a1 k = R01_SameNums_raw a0 a1 k := by unfold R01_SameNums; rw [shut_eq]

end P
end

section
open Go Go.Abs
set_option linter.unusedVariables false
namespace P
noncomputable def R01_Xor_r3 {ρ : Type} (v0 : List Int) (v1 : List Int) (v6 : Int) (h0 : List Int) (nx : (List Int) → (List Int) → Int → (List Int) → Option ρ) (k0 : (List Int) → (List Int) → Int → (List Int) → Option ρ) : Option ρ :=
  br (decide (v6 < (↑v0.length : Int)))
    (br (decide (v6 < (↑v1.length : Int)))
      (br (decide ((0 : Int) ≤ v6))
        (br (decide (v6 < (↑v0.length : Int)))
          (br (decide ((0 : Int) ≤ v6))
            (br (decide (v6 < (↑v1.length : Int)))
              (br
                (decide
                  ((h0.length + 1) * 1 ≤
                    140737488355328))
                (nx v0 v1 (IntKind.i64.wrap (v6 + (1 : Int)))
                  (h0 ++ [bits BinOp.xor IntKind.u8 (v0.getD v6.toNat (0 : Int)) (v1.getD v6.toNat (0 : Int))]))
                none)
              none)
            none)
          none)
        none)
      (k0 v0 v1 v6 h0))
    (k0 v0 v1 v6 h0)
noncomputable def R01_Xor_L3 {ρ : Type} (v0 : List Int) (v1 : List Int) (v6 : Int) (h0 : List Int) (k0 : (List Int) → (List Int) → Int → (List Int) → Option ρ) : Option ρ :=
  lp (fun (x : (List Int) × (List Int) × Int × (List Int)) (next : ((List Int) × (List Int) × Int × (List Int)) → Option ρ) (ex : (((List Int) × (List Int) × Int × (List Int))) → Option ρ) => R01_Xor_r3 x.1 x.2.1 x.2.2.1 x.2.2.2 (fun v0 v1 v6 h0 => next (v0, v1, v6, h0)) (fun v0 v1 v6 h0 => ex ((v0, v1, v6, h0)))) (v0, v1, v6, h0) (fun x => k0 x.1 x.2.1 x.2.2.1 x.2.2.2)
noncomputable def R01_Xor_l3 {ρ : Type} (v0 : List Int) (v1 : List Int) (v6 : Int) (h0 : List Int) (k0 : (List Int) → (List Int) → Int → (List Int) → Option ρ) : Option ρ := shut (R01_Xor_L3 (ρ := ρ)) v0 v1 v6 h0 k0
theorem R01_Xor_l3_eq {ρ : Type} (v0 : List Int) (v1 : List Int) (v6 : Int) (h0 : List Int) (k0 : (List Int) → (List Int) → Int → (List Int) → Option ρ) : R01_Xor_l3 v0 v1 v6 h0 k0 = R01_Xor_L3 v0 v1 v6 h0 k0 := by unfold R01_Xor_l3; rw [shut_eq]
noncomputable def R01_Xor_raw {ρ : Type} (a0 : List Int) (a1 : List Int) (k : (List Int) → Option ρ) : Option ρ :=
  R01_Xor_l3 a0 a1 (0 : Int) [] fun (q0 q1 : List Int) (q2 : Int) (q3 : List Int) => k q3
noncomputable def R01_Xor {ρ : Type} (a0 : List Int) (a1 : List Int) (k : (List Int) → Option ρ) : Option ρ := shut (R01_Xor_raw (ρ := ρ)) a0 a1 k
theorem R01_Xor_eq {ρ : Type} (a0 : List Int) (a1 : List Int) (k : (List Int) → Option ρ) : R01_Xor a0 a1 k = R01_Xor_raw a0 a1 k := by unfold R01_Xor; rw [shut_eq]

end P
end

section
open Go Go.Abs
set_option linter.unusedVariables false
namespace P
noncomputable def R01_Join_r3 {ρ : Type} (v0 : List (List Int)) (v4 : Int) (h0 : List Int) (nx : (List (List Int)) → Int → (List Int) → Option ρ) (k0 : (List (List Int)) → Int → (List Int) → Option ρ) : Option ρ :=
  br (decide (v4 < (↑v0.length : Int)))
    (br (decide ((0 : Int) ≤ v4))
      (br (decide (v4 < (↑v0.length : Int)))
        (br
          (decide
            ((h0.length + (v0.getD v4.toNat []).length) *
                1 ≤
              140737488355328))
          (nx v0 (IntKind.i64.wrap (v4 + (1 : Int))) (h0 ++ v0.getD v4.toNat [])) none)
        none)
      none)
    (k0 v0 v4 h0)
noncomputable def R01_Join_L3 {ρ : Type} (v0 : List (List Int)) (v4 : Int) (h0 : List Int) (k0 : (List (List Int)) → Int → (List Int) → Option ρ) : Option ρ :=
  lp (fun (x : (List (List Int)) × Int × (List Int)) (next : ((List (List Int)) × Int × (List Int)) → Option ρ) (ex : (((List (List Int)) × Int × (List Int))) → Option ρ) => R01_Join_r3 x.1 x.2.1 x.2.2 (fun v0 v4 h0 => next (v0, v4, h0)) (fun v0 v4 h0 => ex ((v0, v4, h0)))) (v0, v4, h0) (fun x => k0 x.1 x.2.1 x.2.2)
noncomputable def R01_Join_l3 {ρ : Type} (v0 : List (List Int)) (v4 : Int) (h0 : List Int) (k0 : (List (List Int)) → Int → (List Int) → Option ρ) : Option ρ := shut (R01_Join_L3 (ρ := ρ)) v0 v4 h0 k0
theorem R01_Join_l3_eq {ρ : Type} (v0 : List (List Int)) (v4 : Int) (h0 : List Int) (k0 : (List (List Int)) → Int → (List Int) → Option ρ) : R01_Join_l3 v0 v4 h0 k0 = R01_Join_L3 v0 v4 h0 k0 := by unfold R01_Join_l3; rw [shut_eq]
noncomputable def R01_Join_raw {ρ : Type} (a0 : List (List Int)) (k : (List Int) → Option ρ) : Option ρ :=
  R01_Join_l3 a0 (0 : Int) [] fun (q0 : List (List Int)) (q1 : Int) (q2 : List Int) => k q2
noncomputable def R01_Join {ρ : Type} (a0 : List (List Int)) (k : (List Int) → Option ρ) : Option ρ := shut (R01_Join_raw (ρ := ρ)) a0 k
theorem R01_Join_eq {ρ : Type} (a0 : List (List Int)) (k : (List Int) → Option ρ) : R01_Join a0 k = R01_Join_raw a0 k := by unfold R01_Join; rw [shut_eq]

end P
end

section
open Go Go.Abs
set_option linter.unusedVariables false
namespace P
noncomputable def slices_Clone_byte {ρ : Type} (a0 : List Int) (k : (List Int) → Option ρ) : Option ρ :=
  br (decide (a0.length * 1 ≤ 140737488355328)) (k a0) none
end P
end

section
open Go Go.Abs
set_option linter.unusedVariables false
namespace P
noncomputable def bits_Xor_r3 {ρ : Type} (v1 : List Int) (v16 : Int) (v17 : Int) (h0 : List Int) (nx : (List Int) → Int → Int → (List Int) → Option ρ) (k0 : (List Int) → Int → Int → (List Int) → Option ρ) : Option ρ :=
  br (decide (v17 < v16))
    (br (decide ((0 : Int) ≤ v17))
      (br (decide (v17 < (↑h0.length : Int)))
        (br (decide ((0 : Int) ≤ v17))
          (br (decide (v17 < (↑v1.length : Int)))
            (br (decide ((0 : Int) ≤ v17))
              (br (decide (v17 < (↑h0.length : Int)))
                (nx v1 v16 (IntKind.i64.wrap (v17 + (1 : Int)))
                  (h0.set v17.toNat
                    (bits BinOp.xor IntKind.u8 (h0.getD v17.toNat (0 : Int)) (v1.getD v17.toNat (0 : Int)))))
                none)
              none)
            none)
          none)
        none)
      none)
    (k0 v1 v16 v17 h0)
noncomputable def bits_Xor_L3 {ρ : Type} (v1 : List Int) (v16 : Int) (v17 : Int) (h0 : List Int) (k0 : (List Int) → Int → Int → (List Int) → Option ρ) : Option ρ :=
  lp (fun (x : (List Int) × Int × Int × (List Int)) (next : ((List Int) × Int × Int × (List Int)) → Option ρ) (ex : (((List Int) × Int × Int × (List Int))) → Option ρ) => bits_Xor_r3 x.1 x.2.1 x.2.2.1 x.2.2.2 (fun v1 v16 v17 h0 => next (v1, v16, v17, h0)) (fun v1 v16 v17 h0 => ex ((v1, v16, v17, h0)))) (v1, v16, v17, h0) (fun x => k0 x.1 x.2.1 x.2.2.1 x.2.2.2)
noncomputable def bits_Xor_l3 {ρ : Type} (v1 : List Int) (v16 : Int) (v17 : Int) (h0 : List Int) (k0 : (List Int) → Int → Int → (List Int) → Option ρ) : Option ρ := shut (bits_Xor_L3 (ρ := ρ)) v1 v16 v17 h0 k0
theorem bits_Xor_l3_eq {ρ : Type} (v1 : List Int) (v16 : Int) (v17 : Int) (h0 : List Int) (k0 : (List Int) → Int → Int → (List Int) → Option ρ) : bits_Xor_l3 v1 v16 v17 h0 k0 = bits_Xor_L3 v1 v16 v17 h0 k0 := by unfold bits_Xor_l3; rw [shut_eq]
noncomputable def bits_Xor_raw {ρ : Type} (a0 : List Int) (a1 : List Int) (k : (List Int) → Option ρ) : Option ρ :=
  br
    (decide
      ((0 : Int) ≤ bif decide ((↑a1.length : Int) < (↑a0.length : Int)) then (↑a1.length : Int) else (↑a0.length : Int)))
    (br
      (decide
        ((bif decide ((↑a1.length : Int) < (↑a0.length : Int)) then (↑a1.length : Int) else (↑a0.length : Int)) ≤
          (↑a0.length : Int)))
      (slices_Clone_byte
        (List.drop 0
          (List.take
            (bif decide ((↑a1.length : Int) < (↑a0.length : Int)) then (↑a1.length : Int) else (↑a0.length : Int)).toNat
            a0))
        fun (q0 : List Int) =>
        bits_Xor_l3 a1 (↑q0.length : Int) (0 : Int) q0 fun (q1 : List Int) (q2 q3 : Int) (q4 : List Int) => k q4)
      none)
    none
noncomputable def bits_Xor {ρ : Type} (a0 : List Int) (a1 : List Int) (k : (List Int) → Option ρ) : Option ρ := shut (bits_Xor_raw (ρ := ρ)) a0 a1 k
theorem bits_Xor_eq {ρ : Type} (a0 : List Int) (a1 : List Int) (k : (List Int) → Option ρ) : bits_Xor a0 a1 k = bits_Xor_raw a0 a1 k := by unfold bits_Xor; rw [shut_eq]

end P
end

section
open Go Go.Abs
set_option linter.unusedVariables false
namespace P
noncomputable def bits_Same_r5 {ρ : Type} (v0 : List Int) (v1 : List Int) (v5 : Int) (v13 : Int) (v14 : Int) (nx : (List Int) → (List Int) → Int → Int → Int → Option ρ) (k0 : (List Int) → (List Int) → Int → Int → Int → Option ρ) : Option ρ :=
  br (decide (v14 < v13))
    (br (decide ((0 : Int) ≤ v14))
      (br (decide (v14 < (↑v0.length : Int)))
        (br (decide ((0 : Int) ≤ v14))
          (br (decide (v14 < (↑v1.length : Int)))
            (nx v0 v1
              (bits BinOp.or IntKind.u8 v5
                (bits BinOp.xor IntKind.u8 (v0.getD v14.toNat (0 : Int)) (v1.getD v14.toNat (0 : Int))))
              v13 (IntKind.i64.wrap (v14 + (1 : Int))))
            none)
          none)
        none)
      none)
    (k0 v0 v1 v5 v13 v14)
noncomputable def bits_Same_L5 {ρ : Type} (v0 : List Int) (v1 : List Int) (v5 : Int) (v13 : Int) (v14 : Int) (k0 : (List Int) → (List Int) → Int → Int → Int → Option ρ) : Option ρ :=
  lp (fun (x : (List Int) × (List Int) × Int × Int × Int) (next : ((List Int) × (List Int) × Int × Int × Int) → Option ρ) (ex : (((List Int) × (List Int) × Int × Int × Int)) → Option ρ) => bits_Same_r5 x.1 x.2.1 x.2.2.1 x.2.2.2.1 x.2.2.2.2 (fun v0 v1 v5 v13 v14 => next (v0, v1, v5, v13, v14)) (fun v0 v1 v5 v13 v14 => ex ((v0, v1, v5, v13, v14)))) (v0, v1, v5, v13, v14) (fun x => k0 x.1 x.2.1 x.2.2.1 x.2.2.2.1 x.2.2.2.2)
noncomputable def bits_Same_l5 {ρ : Type} (v0 : List Int) (v1 : List Int) (v5 : Int) (v13 : Int) (v14 : Int) (k0 : (List Int) → (List Int) → Int → Int → Int → Option ρ) : Option ρ := shut (bits_Same_L5 (ρ := ρ)) v0 v1 v5 v13 v14 k0
theorem bits_Same_l5_eq {ρ : Type} (v0 : List Int) (v1 : List Int) (v5 : Int) (v13 : Int) (v14 : Int) (k0 : (List Int) → (List Int) → Int → Int → Int → Option ρ) : bits_Same_l5 v0 v1 v5 v13 v14 k0 = bits_Same_L5 v0 v1 v5 v13 v14 k0 := by unfold bits_Same_l5; rw [shut_eq]
noncomputable def bits_Same_raw {ρ : Type} (a0 : List Int) (a1 : List Int) (k : Bool → Option ρ) : Option ρ :=
  br ((↑a0.length : Int) != (↑a1.length : Int)) (k false)
    (bits_Same_l5 a0 a1 (0 : Int) (↑a0.length : Int) (0 : Int) fun (q0 q1 : List Int) (q2 q3 q4 : Int) =>
      k (q2 == (0 : Int)))
noncomputable def bits_Same {ρ : Type} (a0 : List Int) (a1 : List Int) (k : Bool → Option ρ) : Option ρ := shut (bits_Same_raw (ρ := ρ)) a0 a1 k
theorem bits_Same_eq {ρ : Type} (a0 : List Int) (a1 : List Int) (k : Bool → Option ρ) : bits_Same a0 a1 k = bits_Same_raw a0 a1 k := by unfold bits_Same; rw [shut_eq]

end P
end

section
/- bits, the first part: texts. -/
namespace Q
open Go Go.Abs
set_option linter.unusedVariables false
set_option linter.unusedSimpArgs false

theorem same_loop {a b : List Int} (hl : a.length = b.length) (hs : a.length ≤ 140737488355328) {ρ : Type} (k0 : List Int → List Int → Int → Option ρ) (k1 : Bool → Option ρ) :
    ∀ (m i : Nat), i + m = a.length → ∀ {stp : (List Int × List Int × Int) → ((List Int × List Int × Int) → Option ρ) → ((List Int × List Int × Int) ⊕ Bool → Option ρ) → Option ρ} {K : (List Int × List Int × Int) ⊕ Bool → Option ρ},
      (∀ (j : Nat) next, stp (a, b, (j : Int)) next K = br (decide ((j : Int) < (a.length : Int))) (br (a.getD j 0 != b.getD j 0) (k1 false) (next (a, b, ((j + 1 : Nat) : Int)))) (k0 a b (j : Int))) →
      lp stp (a, b, (i : Int)) K = if a.drop i = b.drop i then k0 a b (a.length : Int) else k1 false := by
  intro m i hm stp K hst
  refine lp_eq (P := fun x => ∃ j : Nat, x = (a, b, (j : Int)) ∧ j ≤ a.length ∧ (if a.drop j = b.drop j then k0 a b (a.length : Int) else k1 false) = (if a.drop i = b.drop i then k0 a b (a.length : Int) else k1 false)) (μ := fun x => ((a.length : Int) - x.2.2).toNat) ?_ ⟨i, rfl, by omega, rfl⟩ (by simp only; omega)
  rintro _ ⟨j, rfl, hj, he⟩ next hn
  rw [hst, ← he]
  by_cases hji : j < a.length
  · rw [br_pos (by omega), drop_step a 0 j hji, drop_step b 0 j (by omega)]
    by_cases hab : a.getD j 0 = b.getD j 0
    · rw [br_bne_neg hab, hn _ ⟨j + 1, rfl, by omega, ?_⟩ (by simp only; omega), ← he, drop_step a 0 j hji, drop_step b 0 j (by omega)]
      · rw [← he, drop_step a 0 j hji, drop_step b 0 j (by omega)]
        simp only [hab, List.cons.injEq, true_and]
    · rw [br_bne_pos hab, if_neg (by simp only [List.cons.injEq]; exact fun h => hab h.1)]
  · have : j = a.length := by omega
    subst this
    rw [br_neg (by omega), if_pos (by rw [List.drop_eq_nil_of_le (Nat.le_refl _), List.drop_eq_nil_of_le (by omega)])]

theorem R01_Same (a b : List Int) (h : a.length ≤ 140737488355328) {ρ : Type} (k : Bool → Option ρ) : P.R01_Same a b k = k (decide (a = b)) := by
  rw [P.R01_Same_eq]
  unfold P.R01_Same_raw
  by_cases hl : a.length = b.length
  · rw [br_bne_neg (by omega), P.R01_Same_l4_eq]
    unfold P.R01_Same_L4
    have := same_loop hl h (fun _ _ _ => k true) k a.length 0 (by omega) (stp := (fun x next ex => P.R01_Same_r4 x.1 x.2.1 x.2.2 (fun v0 v1 v5 => next (v0, v1, v5)) (fun v0 v1 v5 => ex (.inl (v0, v1, v5))) (fun v4 => ex (.inr v4)))) (K := Sum.elim (fun _ => k true) k) (by
      intro j next
      simp only [P.R01_Same_r4, Sum.elim_inl, Sum.elim_inr]
      by_cases hj : (j : Int) < (a.length : Int)
      · simp only [br_pos hj]
        simp (disch := omega) only [br_pos, br_neg, br_bne_pos, br_bne_neg, br_beq_pos, br_beq_neg, br_not, br_tt, br_ff, i64w, toNat_cast]
        rfl
      · simp only [br_neg hj])
    simp only [List.drop_zero] at this
    refine this.trans ?_
    by_cases hab : a = b
    · rw [if_pos hab, decide_eq_true hab]
    · rw [if_neg hab, decide_eq_false hab]
  · rw [br_bne_pos (by omega), decide_eq_false (fun e => hl (by rw [e]))]

theorem R01_SameNums (a b : List Int) (h : a.length ≤ 140737488355328) {ρ : Type} (k : Bool → Option ρ) : P.R01_SameNums a b k = k (decide (a = b)) := by
  rw [P.R01_SameNums_eq]
  unfold P.R01_SameNums_raw
  by_cases hl : a.length = b.length
  · rw [br_bne_neg (by omega), P.R01_SameNums_l4_eq]
    unfold P.R01_SameNums_L4
    have := same_loop hl h (fun _ _ _ => k true) k a.length 0 (by omega) (stp := (fun x next ex => P.R01_SameNums_r4 x.1 x.2.1 x.2.2 (fun v0 v1 v5 => next (v0, v1, v5)) (fun v0 v1 v5 => ex (.inl (v0, v1, v5))) (fun v4 => ex (.inr v4)))) (K := Sum.elim (fun _ => k true) k) (by
      intro j next
      simp only [P.R01_SameNums_r4, Sum.elim_inl, Sum.elim_inr]
      by_cases hj : (j : Int) < (a.length : Int)
      · simp only [br_pos hj]
        simp (disch := omega) only [br_pos, br_neg, br_bne_pos, br_bne_neg, br_beq_pos, br_beq_neg, br_not, br_tt, br_ff, i64w, toNat_cast]
        rfl
      · simp only [br_neg hj])
    simp only [List.drop_zero] at this
    refine this.trans ?_
    by_cases hab : a = b
    · rw [if_pos hab, decide_eq_true hab]
    · rw [if_neg hab, decide_eq_false hab]
  · rw [br_bne_pos (by omega), decide_eq_false (fun e => hl (by rw [e]))]

/-- two texts xored -/
def xorS (a b : List Int) : List Int := (List.range (min a.length b.length)).map fun i => bits .xor .u8 (a.getD i 0) (b.getD i 0)

theorem R01_Xor (a b : List Int) (h : a.length ≤ 140737488355327) (h2 : b.length ≤ 140737488355327) {ρ : Type} (k : List Int → Option ρ) : P.R01_Xor a b k = k (xorS a b) := by
  rw [P.R01_Xor_eq]
  unfold P.R01_Xor_raw
  rw [P.R01_Xor_l3_eq]
  unfold P.R01_Xor_L3
  refine lp_up (fun i => (a, b, (i : Int), (List.range i).map fun i => bits .xor .u8 (a.getD i 0) (b.getD i 0))) (min a.length b.length) (fun i hi next hn => ?_) (fun next => ?_) (Nat.zero_le _) (by omega)
  · simp only [P.R01_Xor_r3, List.length_map, List.length_range, toNat_cast]
    simp (disch := omega) only [br_pos, br_neg, br_bne_pos, br_bne_neg, br_beq_pos, br_beq_neg, br_not, br_tt, br_ff, i64w]
    rw [range_map_step (fun i => bits .xor .u8 (a.getD i 0) (b.getD i 0))]
    exact hn
  · simp only [P.R01_Xor_r3, List.length_map, List.length_range, toNat_cast]
    by_cases hm : a.length ≤ b.length
    · rw [br_neg (by omega)]; rfl
    · rw [br_pos (by omega), br_neg (by omega)]; rfl

theorem bits_Xor (a b : List Int) (h : a.length ≤ 140737488355327) (h2 : b.length ≤ 140737488355327) {ρ : Type} (k : List Int → Option ρ) : P.bits_Xor a b k = k (xorS a b) := by
  rw [P.bits_Xor_eq]
  unfold P.bits_Xor_raw
  have e : (bif decide ((↑b.length : Int) < (↑a.length : Int)) then (↑b.length : Int) else (↑a.length : Int)) = ((min a.length b.length : Nat) : Int) := by
    by_cases hl : (b.length : Int) < (a.length : Int)
    · rw [decide_eq_true hl]; simp only [cond_true]; omega
    · rw [decide_eq_false hl]; simp only [cond_false]; omega
  rw [e, br_pos (by omega), br_pos (by omega), toNat_cast]
  unfold P.slices_Clone_byte
  simp only [List.drop_zero, List.length_take]
  rw [br_pos (by omega), P.bits_Xor_l3_eq]
  unfold P.bits_Xor_L3
  have hl0 : (a.take (min a.length b.length)).length = min a.length b.length := by simp
  have key : ∀ i, (fun i : Nat => (b, ((min a.length b.length : Nat) : Int), (i : Int), ((List.range i).map fun i => bits .xor .u8 (a.getD i 0) (b.getD i 0)) ++ (a.take (min a.length b.length)).drop i)) i = (b, ((min a.length b.length : Nat) : Int), (i : Int), ((List.range i).map fun i => bits .xor .u8 (a.getD i 0) (b.getD i 0)) ++ (a.take (min a.length b.length)).drop i) := fun _ => rfl
  have hrun := lp_up (ρ := ρ) (stp := (fun (x : (List Int) × Int × Int × (List Int)) (next : ((List Int) × Int × Int × (List Int)) → Option ρ) (ex : (((List Int) × Int × Int × (List Int))) → Option ρ) => P.bits_Xor_r3 x.1 x.2.1 x.2.2.1 x.2.2.2 (fun v1 v16 v17 h0 => next (v1, v16, v17, h0)) (fun v1 v16 v17 h0 => ex ((v1, v16, v17, h0))))) (K := fun x => k x.2.2.2) (r := k (xorS a b))
    (fun i : Nat => (b, ((min a.length b.length : Nat) : Int), (i : Int), ((List.range i).map fun i => bits .xor .u8 (a.getD i 0) (b.getD i 0)) ++ (a.take (min a.length b.length)).drop i)) (min a.length b.length) (fun i hi next hn => ?_) (fun next => ?_) (i := 0) (Nat.zero_le _) (by omega)
  · simp only [List.range_zero, List.map_nil, List.nil_append, List.drop_zero] at hrun
    rw [show min (min a.length b.length) a.length = min a.length b.length by omega]
    exact hrun
  · have hlen : (((List.range i).map fun i => bits .xor .u8 (a.getD i 0) (b.getD i 0)) ++ (a.take (min a.length b.length)).drop i).length = min a.length b.length := by
      simp; omega
    have hget : (((List.range i).map fun i => bits .xor .u8 (a.getD i 0) (b.getD i 0)) ++ (a.take (min a.length b.length)).drop i).getD i 0 = a.getD i 0 := by
      rw [List.getD_eq_getElem?_getD, List.getElem?_append_right (by simp)]
      simp only [List.length_map, List.length_range, Nat.sub_self, List.getElem?_drop, Nat.add_zero]
      rw [List.getElem?_take_of_lt hi, ← List.getD_eq_getElem?_getD]
    simp only [P.bits_Xor_r3, hlen, toNat_cast]
    simp (disch := omega) only [br_pos, br_neg, br_bne_pos, br_bne_neg, br_beq_pos, br_beq_neg, br_not, br_tt, br_ff, i64w, hget]
    rw [List.set_append_right _ _ (by simp)]
    simp only [List.length_map, List.length_range, Nat.sub_self]
    rw [List.drop_eq_getElem_cons (by rw [hl0]; exact hi), List.set_cons_zero]
    have e2 := range_map_step (fun i => bits .xor .u8 (a.getD i 0) (b.getD i 0)) i

    rw [← e2, List.append_assoc, List.singleton_append] at hn
    exact hn
  · simp only [P.bits_Xor_r3]
    rw [br_neg (by omega), List.drop_eq_nil_of_le (by rw [hl0]; exact Nat.le_refl _), List.append_nil]
    rfl
end Q
end

section
open Go Go.Abs
set_option linter.unusedVariables false
namespace P
noncomputable def bits_Pack_r10 {ρ : Type} (v1 : Int) (v6 : Int) (v7 : Int) (v23 : List Int) (v24 : Int) (v25 : Int) (h2 : List Int) (nx : Int → Int → Int → (List Int) → Int → Int → (List Int) → Option ρ) (k0 : Int → Int → Int → (List Int) → Int → Int → (List Int) → Option ρ) : Option ρ :=
  br (decide (v7 ≥ (8 : Int)))
    (br
      (decide
        ((h2.length + 1) * 1 ≤
          140737488355328))
      (nx v1 (v6.fdiv ((2 : Int) ^ 8)) (IntKind.i64.wrap (v7 - (8 : Int))) v23 v24 v25
        (h2 ++ [IntKind.u8.wrap v6]))
      none)
    (k0 v1 v6 v7 v23 v24 v25 h2)
noncomputable def bits_Pack_L10 {ρ : Type} (v1 : Int) (v6 : Int) (v7 : Int) (v23 : List Int) (v24 : Int) (v25 : Int) (h2 : List Int) (k0 : Int → Int → Int → (List Int) → Int → Int → (List Int) → Option ρ) : Option ρ :=
  lp (fun (x : Int × Int × Int × (List Int) × Int × Int × (List Int)) (next : (Int × Int × Int × (List Int) × Int × Int × (List Int)) → Option ρ) (ex : ((Int × Int × Int × (List Int) × Int × Int × (List Int))) → Option ρ) => bits_Pack_r10 x.1 x.2.1 x.2.2.1 x.2.2.2.1 x.2.2.2.2.1 x.2.2.2.2.2.1 x.2.2.2.2.2.2 (fun v1 v6 v7 v23 v24 v25 h2 => next (v1, v6, v7, v23, v24, v25, h2)) (fun v1 v6 v7 v23 v24 v25 h2 => ex ((v1, v6, v7, v23, v24, v25, h2)))) (v1, v6, v7, v23, v24, v25, h2) (fun x => k0 x.1 x.2.1 x.2.2.1 x.2.2.2.1 x.2.2.2.2.1 x.2.2.2.2.2.1 x.2.2.2.2.2.2)
noncomputable def bits_Pack_l10 {ρ : Type} (v1 : Int) (v6 : Int) (v7 : Int) (v23 : List Int) (v24 : Int) (v25 : Int) (h2 : List Int) (k0 : Int → Int → Int → (List Int) → Int → Int → (List Int) → Option ρ) : Option ρ := shut (bits_Pack_L10 (ρ := ρ)) v1 v6 v7 v23 v24 v25 h2 k0
theorem bits_Pack_l10_eq {ρ : Type} (v1 : Int) (v6 : Int) (v7 : Int) (v23 : List Int) (v24 : Int) (v25 : Int) (h2 : List Int) (k0 : Int → Int → Int → (List Int) → Int → Int → (List Int) → Option ρ) : bits_Pack_l10 v1 v6 v7 v23 v24 v25 h2 k0 = bits_Pack_L10 v1 v6 v7 v23 v24 v25 h2 k0 := by unfold bits_Pack_l10; rw [shut_eq]
noncomputable def bits_Pack_r6 {ρ : Type} (v1 : Int) (v6 : Int) (v7 : Int) (v23 : List Int) (v24 : Int) (v25 : Int) (h1 : List Int) (nx : Int → Int → Int → (List Int) → Int → Int → (List Int) → Option ρ) (k0 : Int → Int → Int → (List Int) → Int → Int → (List Int) → Option ρ) : Option ρ :=
  br (decide (v25 < v24))
    (br (decide ((0 : Int) ≤ v25))
      (br (decide (v25 < (↑v23.length : Int)))
        (br (decide (v1 < (0 : Int))) none
          (br (decide (v7 < (0 : Int))) none
            (bits_Pack_l10 v1
              (bits BinOp.or IntKind.u64 v6
                (IntKind.u64.wrap
                  (IntKind.u64.wrap
                      (bits BinOp.and IntKind.u32 (v23.getD v25.toNat (0 : Int))
                        (IntKind.u32.wrap
                          (IntKind.u32.wrap ((1 : Int) * (2 : Int) ^ min v1.toNat 32) - (1 : Int)))) *
                    (2 : Int) ^ min v7.toNat 64)))
              (IntKind.i64.wrap (v7 + v1)) v23 v24 v25 h1
              fun (q0 q1 q2 : Int) (q3 : List Int) (q4 q5 : Int) (q6 : List Int) =>
              nx q0 q1 q2 q3 q4 (IntKind.i64.wrap (q5 + (1 : Int))) q6)))
        none)
      none)
    (k0 v1 v6 v7 v23 v24 v25 h1)
noncomputable def bits_Pack_L6 {ρ : Type} (v1 : Int) (v6 : Int) (v7 : Int) (v23 : List Int) (v24 : Int) (v25 : Int) (h1 : List Int) (k0 : Int → Int → Int → (List Int) → Int → Int → (List Int) → Option ρ) : Option ρ :=
  lp (fun (x : Int × Int × Int × (List Int) × Int × Int × (List Int)) (next : (Int × Int × Int × (List Int) × Int × Int × (List Int)) → Option ρ) (ex : ((Int × Int × Int × (List Int) × Int × Int × (List Int))) → Option ρ) => bits_Pack_r6 x.1 x.2.1 x.2.2.1 x.2.2.2.1 x.2.2.2.2.1 x.2.2.2.2.2.1 x.2.2.2.2.2.2 (fun v1 v6 v7 v23 v24 v25 h1 => next (v1, v6, v7, v23, v24, v25, h1)) (fun v1 v6 v7 v23 v24 v25 h1 => ex ((v1, v6, v7, v23, v24, v25, h1)))) (v1, v6, v7, v23, v24, v25, h1) (fun x => k0 x.1 x.2.1 x.2.2.1 x.2.2.2.1 x.2.2.2.2.1 x.2.2.2.2.2.1 x.2.2.2.2.2.2)
noncomputable def bits_Pack_l6 {ρ : Type} (v1 : Int) (v6 : Int) (v7 : Int) (v23 : List Int) (v24 : Int) (v25 : Int) (h1 : List Int) (k0 : Int → Int → Int → (List Int) → Int → Int → (List Int) → Option ρ) : Option ρ := shut (bits_Pack_L6 (ρ := ρ)) v1 v6 v7 v23 v24 v25 h1 k0
theorem bits_Pack_l6_eq {ρ : Type} (v1 : Int) (v6 : Int) (v7 : Int) (v23 : List Int) (v24 : Int) (v25 : Int) (h1 : List Int) (k0 : Int → Int → Int → (List Int) → Int → Int → (List Int) → Option ρ) : bits_Pack_l6 v1 v6 v7 v23 v24 v25 h1 k0 = bits_Pack_L6 v1 v6 v7 v23 v24 v25 h1 k0 := by unfold bits_Pack_l6; rw [shut_eq]
noncomputable def bits_Pack_raw {ρ : Type} (a0 : List Int) (a1 : Int) (k : (List Int) → Option ρ) : Option ρ :=
  br (decide (a1 < (1 : Int))) (k [])
    (br (decide (a1 > (24 : Int))) (k [])
      (br
        (decide
          ((0 : Int) ≤
            IntKind.i64.wrap
              ((IntKind.i64.wrap (IntKind.i64.wrap ((↑a0.length : Int) * a1) + (7 : Int))).tdiv (8 : Int))))
        (br
          (decide
            (IntKind.i64.wrap
                  ((IntKind.i64.wrap (IntKind.i64.wrap ((↑a0.length : Int) * a1) + (7 : Int))).tdiv (8 : Int)) *
                (↑1 : Int) ≤
              (↑140737488355328 : Int)))
          (bits_Pack_l6 a1 (0 : Int) (0 : Int) a0 (↑a0.length : Int) (0 : Int) (List.replicate 0 (0 : Int))
            fun (q0 q1 q2 : Int) (q3 : List Int) (q4 q5 : Int) (q6 : List Int) =>
            br (decide (q2 > (0 : Int)))
              (br
                (decide
                  ((q6.length + 1) * 1 ≤
                    140737488355328))
                (k (q6 ++ [IntKind.u8.wrap q1])) none)
              (k q6))
          none)
        none))
noncomputable def bits_Pack {ρ : Type} (a0 : List Int) (a1 : Int) (k : (List Int) → Option ρ) : Option ρ := shut (bits_Pack_raw (ρ := ρ)) a0 a1 k
theorem bits_Pack_eq {ρ : Type} (a0 : List Int) (a1 : Int) (k : (List Int) → Option ρ) : bits_Pack a0 a1 k = bits_Pack_raw a0 a1 k := by unfold bits_Pack; rw [shut_eq]

end P
end

section
open Go Go.Abs
set_option linter.unusedVariables false
namespace P
noncomputable def L01_awake_raw {ρ : Type}  (k : Bool → Option ρ) : Option ρ :=
  bits_Digits [(165 : Int)] (4 : Int) (2 : Int) fun (q0 : List Int) =>
    bits_Be (258 : Int) (3 : Int) fun (q1 : List Int) =>
      R01_Same q1 [(0 : Int), (1 : Int), (2 : Int)] fun (q2 : Bool) =>
        br q2
          (bits_Le (258 : Int) (3 : Int) fun (q3 : List Int) =>
            R01_Same q3 [(2 : Int), (1 : Int), (0 : Int)] fun (q4 : Bool) =>
              br q4
                (br ((↑q0.length : Int) == (2 : Int))
                  (br (decide ((0 : Int) < (↑q0.length : Int)))
                    (br (q0.getD 0 (0 : Int) == (10 : Int))
                      (br (decide ((1 : Int) < (↑q0.length : Int)))
                        (br (q0.getD 1 (0 : Int) == (5 : Int))
                          (bits_Pack [(5 : Int), (10 : Int)] (4 : Int) fun (q5 : List Int) =>
                            R01_Same q5 [(165 : Int)] fun (q6 : Bool) => k q6)
                          (k false))
                        none)
                      (k false))
                    none)
                  (k false))
                (k false))
          (k false)
noncomputable def L01_awake {ρ : Type}  (k : Bool → Option ρ) : Option ρ := shut (L01_awake_raw (ρ := ρ))  k
theorem L01_awake_eq {ρ : Type}  (k : Bool → Option ρ) : L01_awake  k = L01_awake_raw  k := by unfold L01_awake; rw [shut_eq]

end P
end

section
/- bits: the law's own test. -/
namespace Q
open Go Go.Abs
set_option linter.unusedVariables false
set_option linter.unusedSimpArgs false

theorem FU_ge (n : Nat) (h : n ≤ 18446744073709551616) : ∃ m, FU = m + n := ⟨18446744073709551616 - n, by rw [FU_eq]; omega⟩

theorem L01_awake {ρ : Type} (k : Bool → Option ρ) : P.L01_awake k = k true := by
  obtain ⟨m, hm⟩ := FU_ge 20 (by omega)
  simp only [P.L01_awake_eq, P.L01_awake_raw, P.bits_Digits_eq, P.bits_Digits_raw, P.bits_Digits_l6_eq, P.bits_Digits_L6, P.bits_Digits_r6, P.bits_Digits_l8_eq, P.bits_Digits_L8, P.bits_Digits_r8,
    P.bits_Be_eq, P.bits_Be_raw, P.bits_Be_l1_1_eq, P.bits_Be_L1_1, P.bits_Be_r1_1, P.bits_Le_eq, P.bits_Le_raw, P.bits_Le_l5_eq, P.bits_Le_L5, P.bits_Le_r5,
    P.bits_Pack_eq, P.bits_Pack_raw, P.bits_Pack_l6_eq, P.bits_Pack_L6, P.bits_Pack_r6, P.bits_Pack_l10_eq, P.bits_Pack_L10, P.bits_Pack_r10, P.bits_such_eq, P.bits_such_raw,
    P.R01_Same_eq, P.R01_Same_raw, P.R01_Same_l4_eq, P.R01_Same_L4, P.R01_Same_r4, lp, hm]
  kernel_rfl

end Q
end

section
/- The bit operations as numbers. -/
namespace Q
open Go Go.Abs
set_option linter.unusedVariables false

theorem or_u8 (x y : Nat) (hx : x < 256) (hy : y < 256) : bits .or .u8 (x : Int) (y : Int) = ((x ||| y : Nat) : Int) := by
  have h1 : x ||| y < 256 := Nat.or_lt_two_pow (n := 8) hx hy
  have e : bits .or .u8 (x : Int) (y : Int) = IntKind.u8.wrap ((BitVec.ofInt 8 (x : Int) ||| BitVec.ofInt 8 (y : Int)).toNat : Int) := rfl
  have e2 : (BitVec.ofInt 8 (x : Int) ||| BitVec.ofInt 8 (y : Int)).toNat = x ||| y := by
    rw [BitVec.toNat_or, BitVec.toNat_ofInt, BitVec.toNat_ofInt]; congr 1 <;> omega
  rw [e, e2]; exact IntWalk.u8_in _ ⟨by omega, by omega⟩
theorem xor_u8 (x y : Nat) (hx : x < 256) (hy : y < 256) : bits .xor .u8 (x : Int) (y : Int) = ((x ^^^ y : Nat) : Int) := by
  have h1 : x ^^^ y < 256 := Nat.xor_lt_two_pow (n := 8) hx hy
  have e : bits .xor .u8 (x : Int) (y : Int) = IntKind.u8.wrap ((BitVec.ofInt 8 (x : Int) ^^^ BitVec.ofInt 8 (y : Int)).toNat : Int) := rfl
  have e2 : (BitVec.ofInt 8 (x : Int) ^^^ BitVec.ofInt 8 (y : Int)).toNat = x ^^^ y := by
    rw [BitVec.toNat_xor, BitVec.toNat_ofInt, BitVec.toNat_ofInt]; congr 1 <;> omega
  rw [e, e2]; exact IntWalk.u8_in _ ⟨by omega, by omega⟩
theorem and_u8 (x y : Nat) (hx : x < 256) (hy : y < 256) : bits .and .u8 (x : Int) (y : Int) = ((x &&& y : Nat) : Int) := by
  have h1 : x &&& y < 256 := Nat.and_lt_two_pow (n := 8) x hy
  have e : bits .and .u8 (x : Int) (y : Int) = IntKind.u8.wrap ((BitVec.ofInt 8 (x : Int) &&& BitVec.ofInt 8 (y : Int)).toNat : Int) := rfl
  have e2 : (BitVec.ofInt 8 (x : Int) &&& BitVec.ofInt 8 (y : Int)).toNat = x &&& y := by
    rw [BitVec.toNat_and, BitVec.toNat_ofInt, BitVec.toNat_ofInt]; congr 1 <;> omega
  rw [e, e2]; exact IntWalk.u8_in _ ⟨by omega, by omega⟩
theorem or_u64 (x y : Nat) (hx : x < 18446744073709551616) (hy : y < 18446744073709551616) : bits .or .u64 (x : Int) (y : Int) = ((x ||| y : Nat) : Int) := by
  have h1 : x ||| y < 18446744073709551616 := Nat.or_lt_two_pow (n := 64) hx hy
  have e : bits .or .u64 (x : Int) (y : Int) = IntKind.u64.wrap ((BitVec.ofInt 64 (x : Int) ||| BitVec.ofInt 64 (y : Int)).toNat : Int) := rfl
  have e2 : (BitVec.ofInt 64 (x : Int) ||| BitVec.ofInt 64 (y : Int)).toNat = x ||| y := by
    rw [BitVec.toNat_or, BitVec.toNat_ofInt, BitVec.toNat_ofInt]; congr 1 <;> omega
  rw [e, e2]; exact IntWalk.u64_in _ ⟨by omega, by omega⟩
theorem and_u64 (x y : Nat) (hx : x < 18446744073709551616) (hy : y < 18446744073709551616) : bits .and .u64 (x : Int) (y : Int) = ((x &&& y : Nat) : Int) := by
  have h1 : x &&& y < 18446744073709551616 := Nat.and_lt_two_pow (n := 64) x hy
  have e : bits .and .u64 (x : Int) (y : Int) = IntKind.u64.wrap ((BitVec.ofInt 64 (x : Int) &&& BitVec.ofInt 64 (y : Int)).toNat : Int) := rfl
  have e2 : (BitVec.ofInt 64 (x : Int) &&& BitVec.ofInt 64 (y : Int)).toNat = x &&& y := by
    rw [BitVec.toNat_and, BitVec.toNat_ofInt, BitVec.toNat_ofInt]; congr 1 <;> omega
  rw [e, e2]; exact IntWalk.u64_in _ ⟨by omega, by omega⟩
theorem and_u32 (x y : Nat) (hx : x < 4294967296) (hy : y < 4294967296) : bits .and .u32 (x : Int) (y : Int) = ((x &&& y : Nat) : Int) := by
  have h1 : x &&& y < 4294967296 := Nat.and_lt_two_pow (n := 32) x hy
  have e : bits .and .u32 (x : Int) (y : Int) = IntKind.u32.wrap ((BitVec.ofInt 32 (x : Int) &&& BitVec.ofInt 32 (y : Int)).toNat : Int) := rfl
  have e2 : (BitVec.ofInt 32 (x : Int) &&& BitVec.ofInt 32 (y : Int)).toNat = x &&& y := by
    rw [BitVec.toNat_and, BitVec.toNat_ofInt, BitVec.toNat_ofInt]; congr 1 <;> omega
  rw [e, e2]; exact IntWalk.u32_in _ ⟨by omega, by omega⟩
theorem or_u32 (x y : Nat) (hx : x < 4294967296) (hy : y < 4294967296) : bits .or .u32 (x : Int) (y : Int) = ((x ||| y : Nat) : Int) := by
  have h1 : x ||| y < 4294967296 := Nat.or_lt_two_pow (n := 32) hx hy
  have e : bits .or .u32 (x : Int) (y : Int) = IntKind.u32.wrap ((BitVec.ofInt 32 (x : Int) ||| BitVec.ofInt 32 (y : Int)).toNat : Int) := rfl
  have e2 : (BitVec.ofInt 32 (x : Int) ||| BitVec.ofInt 32 (y : Int)).toNat = x ||| y := by
    rw [BitVec.toNat_or, BitVec.toNat_ofInt, BitVec.toNat_ofInt]; congr 1 <;> omega
  rw [e, e2]; exact IntWalk.u32_in _ ⟨by omega, by omega⟩

theorem u8m (n : Int) : IntKind.u8.wrap n = n % 256 := by simp [IntKind.wrap, IntKind.bits, IntKind.signed]
theorem u32m (n : Int) : IntKind.u32.wrap n = n % 4294967296 := by simp [IntKind.wrap, IntKind.bits, IntKind.signed]
theorem u64m (n : Int) : IntKind.u64.wrap n = n % 18446744073709551616 := by simp [IntKind.wrap, IntKind.bits, IntKind.signed]

theorem xor_zero {x y : Nat} : x ^^^ y = 0 ↔ x = y := by
  constructor
  · intro h
    have : (x ^^^ y) ^^^ y = x := by rw [Nat.xor_assoc, Nat.xor_self, Nat.xor_zero]
    rw [h, Nat.zero_xor] at this
    exact this.symm
  · rintro rfl; exact Nat.xor_self _
theorem or_shift (a x i : Nat) (hx : x < 2 ^ i) : (a * 2 ^ i) ||| x = a * 2 ^ i + x := by
  rw [← Nat.shiftLeft_eq, Nat.shiftLeft_add_eq_or_of_lt hx]
end Q
end

section
/- bits: Same, Join. -/
namespace Q
open Go Go.Abs
set_option linter.unusedVariables false
set_option linter.unusedSimpArgs false

/-- the differences, gathered -/
def diff (a b : List Int) (i : Nat) : Int := (List.range i).foldl (fun acc j => bits .or .u8 acc (bits .xor .u8 (a.getD j 0) (b.getD j 0))) 0
theorem diff_succ (a b : List Int) (i : Nat) : diff a b (i + 1) = bits .or .u8 (diff a b i) (bits .xor .u8 (a.getD i 0) (b.getD i 0)) := by
  simp [diff, List.range_succ]
theorem diff_fact (a b : List Int) (ha : In 256 a) (hb : In 256 b) : ∀ i, (0 ≤ diff a b i ∧ diff a b i < 256) ∧ (diff a b i = 0 ↔ ∀ j, j < i → a.getD j 0 = b.getD j 0)
  | 0 => ⟨⟨by simp [diff], by simp [diff]⟩, by simp [diff]⟩
  | i + 1 => by
    obtain ⟨h1, h2⟩ := diff_fact a b ha hb i
    rw [diff_succ]
    have hx := ha.getD i (by omega)
    have hy := hb.getD i (by omega)
    obtain ⟨d, hd⟩ := Int.eq_ofNat_of_zero_le h1.1
    obtain ⟨x, hx'⟩ := Int.eq_ofNat_of_zero_le hx.1
    obtain ⟨y, hy'⟩ := Int.eq_ofNat_of_zero_le hy.1
    rw [hd, hx', hy', xor_u8 x y (by omega) (by omega), or_u8 d _ (by omega) (Nat.xor_lt_two_pow (n := 8) (show x < 2 ^ 8 by omega) (show y < 2 ^ 8 by omega))]
    have hb : d ||| (x ^^^ y) < 256 := Nat.or_lt_two_pow (n := 8) (show d < 2 ^ 8 by omega) (Nat.xor_lt_two_pow (n := 8) (show x < 2 ^ 8 by omega) (show y < 2 ^ 8 by omega))
    refine ⟨⟨by omega, by omega⟩, ?_⟩
    rw [show (((d ||| (x ^^^ y) : Nat) : Int) = 0 ↔ (d ||| (x ^^^ y)) = 0) by omega, Nat.or_eq_zero_iff, xor_zero]
    constructor
    · rintro ⟨h0, hxy⟩ j hj
      by_cases hji : j = i
      · subst hji; rw [hx', hy', hxy]
      · exact h2.1 (by omega) j (by omega)
    · intro h
      refine ⟨?_, ?_⟩
      · have := h2.2 (fun j hj => h j (by omega)); omega
      · have := h i (by omega); rw [hx', hy'] at this; omega

theorem bits_Same (a b : List Int) (ha : In 256 a) (hb : In 256 b) (h : a.length ≤ 140737488355328) {ρ : Type} (k : Bool → Option ρ) : P.bits_Same a b k = k (decide (a = b)) := by
  rw [P.bits_Same_eq]
  unfold P.bits_Same_raw
  by_cases hl : a.length = b.length
  · rw [br_bne_neg (by omega), P.bits_Same_l5_eq]
    unfold P.bits_Same_L5
    refine lp_up (fun i => (a, b, diff a b i, (a.length : Int), (i : Int))) a.length (fun i hi next hn => ?_) (fun next => ?_) (Nat.zero_le _) (by omega)
    · simp only [P.bits_Same_r5, toNat_cast]
      simp (disch := omega) only [br_pos, br_neg, br_bne_pos, br_bne_neg, br_beq_pos, br_beq_neg, br_not, br_tt, br_ff, i64w]
      rw [← diff_succ]
      exact hn
    · simp only [P.bits_Same_r5]
      rw [br_neg (by omega)]
      congr 1
      have := (diff_fact a b ha hb a.length).2
      by_cases hab : a = b
      · rw [decide_eq_true hab, beq_iff_eq, this]
        subst hab; exact fun _ _ => rfl
      · rw [decide_eq_false hab, beq_eq_false_iff_ne]
        intro h0
        refine hab (List.ext_getElem hl (fun i h1 h2 => ?_))
        have := this.1 h0 i h1
        rw [getD_lt h1, getD_lt h2] at this
        exact this
  · rw [br_bne_pos (by omega), decide_eq_false (fun e => hl (by rw [e]))]

/-- rows one behind the other -/
def joined (l : List (List Int)) (i : Nat) : List Int := (l.take i).flatten
theorem joined_succ (l : List (List Int)) (i : Nat) (h : i < l.length) : joined l (i + 1) = joined l i ++ l.getD i [] := by
  unfold joined
  rw [← take_step l [] i h, List.flatten_append]; simp
theorem joined_all (l : List (List Int)) : joined l l.length = l.flatten := by unfold joined; rw [List.take_length]
theorem joined_le (l : List (List Int)) (i : Nat) : (joined l i).length ≤ l.flatten.length := by
  unfold joined
  have : l.flatten = (l.take i).flatten ++ (l.drop i).flatten := by rw [← List.flatten_append, List.take_append_drop]
  rw [this, List.length_append]; omega

theorem R01_Join (l : List (List Int)) (h : l.length ≤ 140737488355328) (h2 : l.flatten.length ≤ 140737488355328) {ρ : Type} (k : List Int → Option ρ) : P.R01_Join l k = k l.flatten := by
  rw [P.R01_Join_eq]
  unfold P.R01_Join_raw
  rw [P.R01_Join_l3_eq]
  unfold P.R01_Join_L3
  refine lp_up (fun i => (l, (i : Int), joined l i)) l.length (fun i hi next hn => ?_) (fun next => ?_) (Nat.zero_le _) (by omega)
  · have e := joined_succ l i hi
    have h3 := joined_le l (i + 1)
    rw [e, List.length_append] at h3
    simp only [P.R01_Join_r3, toNat_cast]
    simp (disch := omega) only [br_pos, br_neg, br_bne_pos, br_bne_neg, br_beq_pos, br_beq_neg, br_not, br_tt, br_ff, i64w]
    rw [← e]
    exact hn
  · simp only [P.R01_Join_r3]
    rw [br_neg (by omega), joined_all]

theorem slices_Grow_byte (n : Nat) (h : n ≤ 140737488355328) {ρ : Type} (k : List Int → Option ρ) : P.slices_Grow_byte (n : Int) k = k [] := by
  rw [P.slices_Grow_byte_eq]
  unfold P.slices_Grow_byte_raw
  rw [br_neg (by omega), show IntKind.i64.wrap ((0 : Int) - (0 : Int)) = 0 by decide]
  rw [i64w (by omega) (by omega)]
  by_cases h0 : n = 0
  · subst h0; rw [br_neg (by omega)]
  · rw [br_pos (by omega), br_pos (by omega), br_pos (by omega)]; rfl

theorem slices_Concat_byte (l : List (List Int)) (h : l.length ≤ 140737488355328) (h2 : l.flatten.length ≤ 140737488355328) {ρ : Type} (k : List Int → Option ρ) : P.slices_Concat_byte l k = k l.flatten := by
  rw [P.slices_Concat_byte_eq]
  unfold P.slices_Concat_byte_raw
  rw [P.slices_Concat_byte_l3_eq]
  unfold P.slices_Concat_byte_L3
  refine lp_up (fun i => (l, ((joined l i).length : Int), l, (l.length : Int), (i : Int))) l.length (fun i hi next hn => ?_) (fun next => ?_) (Nat.zero_le _) (by omega)
  · have e := joined_succ l i hi
    have h3 := joined_le l (i + 1)
    have e2 : ((joined l i).length : Int) + ((l.getD i []).length : Int) = ((joined l (i + 1)).length : Int) := by rw [e, List.length_append]; omega
    simp only [P.slices_Concat_byte_r3, toNat_cast, e2]
    simp (disch := omega) only [br_pos, br_neg, br_bne_pos, br_bne_neg, br_beq_pos, br_beq_neg, br_not, br_tt, br_ff, i64w]
    exact hn
  · simp only [P.slices_Concat_byte_r3]
    rw [br_neg (by omega), joined_all, slices_Grow_byte _ h2, P.slices_Concat_byte_l11_eq]
    unfold P.slices_Concat_byte_L11
    refine lp_up (fun i => (l, (l.length : Int), (i : Int), joined l i)) l.length (fun i hi next hn => ?_) (fun next => ?_) (Nat.zero_le _) (by omega)
    · have e := joined_succ l i hi
      have h3 := joined_le l (i + 1)
      rw [e, List.length_append] at h3
      simp only [P.slices_Concat_byte_r11, toNat_cast]
      simp (disch := omega) only [br_pos, br_neg, br_bne_pos, br_bne_neg, br_beq_pos, br_beq_neg, br_not, br_tt, br_ff, i64w]
      rw [← e]
      exact hn
    · simp only [P.slices_Concat_byte_r11]
      rw [br_neg (by omega), joined_all]

theorem bits_Join (l : List (List Int)) (h : l.length ≤ 140737488355328) (h2 : l.flatten.length ≤ 140737488355328) {ρ : Type} (k : List Int → Option ρ) : P.bits_Join l k = k l.flatten := by
  rw [P.bits_Join_eq]
  unfold P.bits_Join_raw
  exact slices_Concat_byte l h h2 k
end Q
end

section
/- Numbers and their digits, the lowest first. -/
namespace Q
open Go Go.Abs
set_option linter.unusedVariables false

def T (w : Nat) : List Int → Nat
  | [] => 0
  | x :: l => x.toNat % 2 ^ w + 2 ^ w * T w l

theorem p2 (n : Nat) : 0 < 2 ^ n := Nat.pow_pos (by omega)

theorem T_lt (w : Nat) : ∀ l : List Int, T w l < 2 ^ (w * l.length)
  | [] => by simp [T]
  | x :: l => by
    have ih := T_lt w l
    have h1 := Nat.mod_lt x.toNat (p2 w)
    rw [List.length_cons, Nat.mul_succ, Nat.add_comm, Nat.pow_add]
    simp only [T]
    have : 2 ^ w * (T w l + 1) ≤ 2 ^ w * 2 ^ (w * l.length) := Nat.mul_le_mul (Nat.le_refl _) ih
    rw [Nat.mul_add] at this
    omega
theorem T_append (w : Nat) : ∀ a b : List Int, T w (a ++ b) = T w a + 2 ^ (w * a.length) * T w b
  | [], b => by simp [T]
  | x :: a, b => by
    rw [List.cons_append, T, T, T_append w a b, List.length_cons, Nat.mul_succ, Nat.add_comm (w * a.length) w, Nat.pow_add, Nat.mul_add, Nat.mul_assoc]
    omega
theorem T_take (w : Nat) (l : List Int) (k : Nat) (h : k ≤ l.length) : T w l = T w (l.take k) + 2 ^ (w * k) * T w (l.drop k) := by
  have := T_append w (l.take k) (l.drop k)
  rw [List.take_append_drop, List.length_take, Nat.min_eq_left h] at this
  exact this
theorem T_take_mod (w : Nat) (l : List Int) (k : Nat) (h : k ≤ l.length) : T w (l.take k) = T w l % 2 ^ (w * k) := by
  rw [T_take w l k h, Nat.add_mul_mod_self_left]
  have := T_lt w (l.take k)
  rw [List.length_take, Nat.min_eq_left h] at this
  exact (Nat.mod_eq_of_lt this).symm
theorem T_drop_div (w : Nat) (l : List Int) (k : Nat) (h : k ≤ l.length) : T w (l.drop k) = T w l / 2 ^ (w * k) := by
  have := T_lt w (l.take k)
  rw [List.length_take, Nat.min_eq_left h] at this
  rw [T_take w l k h, Nat.add_mul_div_left _ _ (p2 _), Nat.div_eq_of_lt this, Nat.zero_add]
theorem T_getD (w : Nat) (l : List Int) (k : Nat) : T w l / 2 ^ (w * k) % 2 ^ w = (l.getD k 0).toNat % 2 ^ w := by
  by_cases h : k < l.length
  · rw [← T_drop_div w l k (by omega), drop_step l 0 k h, T, Nat.add_mul_mod_self_left, Nat.mod_mod]
  · rw [getD_ge (by omega), Nat.div_eq_of_lt]
    · rfl
    · exact Nat.lt_of_lt_of_le (T_lt w l) (Nat.pow_le_pow_right (by omega) (Nat.mul_le_mul (Nat.le_refl _) (by omega)))
theorem T_step (w : Nat) (l : List Int) (k : Nat) (h : k < l.length) : T w (l.take (k + 1)) = T w (l.take k) + 2 ^ (w * k) * ((l.getD k 0).toNat % 2 ^ w) := by
  rw [← take_step l 0 k h, T_append, List.length_take, Nat.min_eq_left (by omega)]
  simp [T]

theorem or_high (a x i : Nat) (hx : x < 2 ^ i) : x ||| (a * 2 ^ i) = x + a * 2 ^ i := by rw [Nat.or_comm, or_shift _ _ _ hx, Nat.add_comm]

/-- A LOOP that goes up, from where it starts. -/
theorem lp_go {X Y ρ : Type} {stp : X → (X → Option ρ) → (Y → Option ρ) → Option ρ} {K : Y → Option ρ} {r : Option ρ} (S : Nat → X) (n : Nat) {x : X} (hx : x = S 0)
    (hstep : ∀ i, i < n → ∀ next, next (S (i + 1)) = r → stp (S i) next K = r) (hend : ∀ next, stp (S n) next K = r) (hn : n ≤ 18446744073709551616) : lp stp x K = r := by
  rw [hx]; exact lp_up S n hstep hend (Nat.zero_le _) hn

/-- so many digits of a number -/
def bsw (w n X : Nat) : List Int := (List.range n).map fun i => ((X / 2 ^ (w * i) % 2 ^ w : Nat) : Int)
@[simp] theorem bsw_length (w n X : Nat) : (bsw w n X).length = n := by simp [bsw]
theorem bsw_getD (w n X i : Nat) (h : i < n) : (bsw w n X).getD i 0 = ((X / 2 ^ (w * i) % 2 ^ w : Nat) : Int) := by
  rw [getD_lt (by simpa using h)]; simp [bsw]
theorem bsw_succ (w n X : Nat) : bsw w (n + 1) X = bsw w n X ++ [((X / 2 ^ (w * n) % 2 ^ w : Nat) : Int)] := by simp [bsw, List.range_succ]
theorem bsw_in (w n X : Nat) : In (2 ^ w) (bsw w n X) := by
  refine In.map (fun i _ => ⟨Int.natCast_nonneg _, ?_⟩)
  have := Nat.mod_lt (X / 2 ^ (w * i)) (p2 w)
  have e : ((2 : Int) ^ w) = ((2 ^ w : Nat) : Int) := by simp
  rw [e]; omega
theorem T_bsw (w X : Nat) : ∀ n, T w (bsw w n X) = X % 2 ^ (w * n)
  | 0 => by simp [bsw, T, Nat.mod_one]
  | n + 1 => by
    rw [bsw_succ, T_append, T_bsw w X n, bsw_length, Nat.mul_succ, Nat.pow_add, Nat.mod_mul]
    simp only [T, Int.toNat_natCast, Nat.mod_mod, Nat.mul_zero, Nat.add_zero]
theorem bsw_T (w : Nat) (l : List Int) (h : In (2 ^ w) l) : bsw w l.length (T w l) = l := by
  refine List.ext_getElem (by simp) (fun i h1 h2 => ?_)
  have h3 := h.getD i (by exact_mod_cast p2 w)
  rw [getD_lt h2] at h3
  have e : ((2 : Int) ^ w) = ((2 ^ w : Nat) : Int) := by simp
  rw [← getD_lt (d := 0) h1, bsw_getD _ _ _ _ h2, T_getD, getD_lt h2, Nat.mod_eq_of_lt (by omega)]
  omega
theorem bsw_mod (w n X m : Nat) (h : w * n ≤ m) : bsw w n (X % 2 ^ m) = bsw w n X := by
  unfold bsw
  refine List.map_congr_left (fun i hi => ?_)
  have hi := List.mem_range.1 hi
  have h1 : w * i + w ≤ m := by
    have : w * (i + 1) ≤ w * n := Nat.mul_le_mul (Nat.le_refl _) hi
    rw [Nat.mul_succ] at this; omega
  have e : (2 : Nat) ^ m = 2 ^ (w * i) * (2 ^ w * 2 ^ (m - (w * i + w))) := by rw [← Nat.pow_add, ← Nat.pow_add]; congr 1; omega
  rw [e, Nat.mod_mul_right_div_self, Nat.mod_mul_right_mod]

/-- a piece of a number does not ask what stands high above it -/
theorem piece_mod (X h w m : Nat) (hm : h + w ≤ m) : X % 2 ^ m / 2 ^ h % 2 ^ w = X / 2 ^ h % 2 ^ w := by
  have e : (2 : Nat) ^ m = 2 ^ h * (2 ^ w * 2 ^ (m - (h + w))) := by rw [← Nat.pow_add, ← Nat.pow_add]; congr 1; omega
  rw [e, Nat.mod_mul_right_div_self, Nat.mod_mul_right_mod]
/-- a piece of a piece -/
theorem piece_piece (X h w a b : Nat) (hb : a + b ≤ w) : X / 2 ^ h % 2 ^ w / 2 ^ a % 2 ^ b = X / 2 ^ (h + a) % 2 ^ b := by
  rw [piece_mod _ _ _ _ hb, Nat.div_div_eq_div_mul, ← Nat.pow_add]
/-- one digit more, above -/
theorem piece_up (X h w a : Nat) : X / 2 ^ h % 2 ^ w + 2 ^ w * (X / 2 ^ (h + w) % 2 ^ a) = X / 2 ^ h % 2 ^ (w + a) := by
  rw [Nat.pow_add 2 w a, Nat.mod_mul, Nat.pow_add, Nat.div_div_eq_div_mul]
end Q
end

section
open Go Go.Abs
set_option linter.unusedVariables false
namespace P
noncomputable def bits_Unpack_r8 {ρ : Type} (v0 : List Int) (v1 : Int) (v8 : Int) (v9 : Int) (v10 : Int) (v19 : Int) (v20 : Int) (h0 : List Int) (nx : (List Int) → Int → Int → Int → Int → Int → Int → (List Int) → Option ρ) (k0 : (List Int) → Int → Int → Int → Int → Int → Int → (List Int) → Option ρ) : Option ρ :=
  br (decide (v9 < v1))
    (br (decide ((0 : Int) < (↑v0.length : Int)))
      (br (decide (v9 < (0 : Int))) none
        (br (decide ((1 : Int) ≤ (↑v0.length : Int)))
          (br (decide ((↑v0.length : Int) ≤ (↑v0.length : Int)))
            (nx (List.drop 1 (List.take (↑v0.length : Int).toNat v0)) v1
              (bits BinOp.or IntKind.u64 v8
                (IntKind.u64.wrap
                  (IntKind.u64.wrap (v0.getD 0 (0 : Int)) * (2 : Int) ^ min v9.toNat 64)))
              (IntKind.i64.wrap (v9 + (8 : Int))) v10 v19 v20 h0)
            none)
          none))
      none)
    (k0 v0 v1 v8 v9 v10 v19 v20 h0)
noncomputable def bits_Unpack_L8 {ρ : Type} (v0 : List Int) (v1 : Int) (v8 : Int) (v9 : Int) (v10 : Int) (v19 : Int) (v20 : Int) (h0 : List Int) (k0 : (List Int) → Int → Int → Int → Int → Int → Int → (List Int) → Option ρ) : Option ρ :=
  lp (fun (x : (List Int) × Int × Int × Int × Int × Int × Int × (List Int)) (next : ((List Int) × Int × Int × Int × Int × Int × Int × (List Int)) → Option ρ) (ex : (((List Int) × Int × Int × Int × Int × Int × Int × (List Int))) → Option ρ) => bits_Unpack_r8 x.1 x.2.1 x.2.2.1 x.2.2.2.1 x.2.2.2.2.1 x.2.2.2.2.2.1 x.2.2.2.2.2.2.1 x.2.2.2.2.2.2.2 (fun v0 v1 v8 v9 v10 v19 v20 h0 => next (v0, v1, v8, v9, v10, v19, v20, h0)) (fun v0 v1 v8 v9 v10 v19 v20 h0 => ex ((v0, v1, v8, v9, v10, v19, v20, h0)))) (v0, v1, v8, v9, v10, v19, v20, h0) (fun x => k0 x.1 x.2.1 x.2.2.1 x.2.2.2.1 x.2.2.2.2.1 x.2.2.2.2.2.1 x.2.2.2.2.2.2.1 x.2.2.2.2.2.2.2)
noncomputable def bits_Unpack_l8 {ρ : Type} (v0 : List Int) (v1 : Int) (v8 : Int) (v9 : Int) (v10 : Int) (v19 : Int) (v20 : Int) (h0 : List Int) (k0 : (List Int) → Int → Int → Int → Int → Int → Int → (List Int) → Option ρ) : Option ρ := shut (bits_Unpack_L8 (ρ := ρ)) v0 v1 v8 v9 v10 v19 v20 h0 k0
theorem bits_Unpack_l8_eq {ρ : Type} (v0 : List Int) (v1 : Int) (v8 : Int) (v9 : Int) (v10 : Int) (v19 : Int) (v20 : Int) (h0 : List Int) (k0 : (List Int) → Int → Int → Int → Int → Int → Int → (List Int) → Option ρ) : bits_Unpack_l8 v0 v1 v8 v9 v10 v19 v20 h0 k0 = bits_Unpack_L8 v0 v1 v8 v9 v10 v19 v20 h0 k0 := by unfold bits_Unpack_l8; rw [shut_eq]
noncomputable def bits_Unpack_r6 {ρ : Type} (v0 : List Int) (v1 : Int) (v8 : Int) (v9 : Int) (v19 : Int) (v20 : Int) (h0 : List Int) (nx : (List Int) → Int → Int → Int → Int → Int → (List Int) → Option ρ) (k0 : (List Int) → Int → Int → Int → Int → Int → (List Int) → Option ρ) : Option ρ :=
  br (decide (v20 < v19))
    (bits_Unpack_l8 v0 v1 v8 v9 v20 v19 v20 h0 fun (q0 : List Int) (q1 q2 q3 q4 q5 q6 : Int) (q7 : List Int) =>
      br (decide (q1 < (0 : Int))) none
        (br (decide ((0 : Int) ≤ q4))
          (br (decide (q4 < (↑q7.length : Int)))
            (br (decide (q1 < (0 : Int))) none
              (nx q0 q1 (q2.fdiv ((2 : Int) ^ min q1.toNat 64)) (IntKind.i64.wrap (q3 - q1)) q5
                (IntKind.i64.wrap (q6 + (1 : Int)))
                (q7.set q4.toNat
                  (IntKind.u32.wrap
                    (bits BinOp.and IntKind.u64 q2
                      (IntKind.u64.wrap
                        (IntKind.u64.wrap ((1 : Int) * (2 : Int) ^ min q1.toNat 64) - (1 : Int))))))))
            none)
          none))
    (k0 v0 v1 v8 v9 v19 v20 h0)
noncomputable def bits_Unpack_L6 {ρ : Type} (v0 : List Int) (v1 : Int) (v8 : Int) (v9 : Int) (v19 : Int) (v20 : Int) (h0 : List Int) (k0 : (List Int) → Int → Int → Int → Int → Int → (List Int) → Option ρ) : Option ρ :=
  lp (fun (x : (List Int) × Int × Int × Int × Int × Int × (List Int)) (next : ((List Int) × Int × Int × Int × Int × Int × (List Int)) → Option ρ) (ex : (((List Int) × Int × Int × Int × Int × Int × (List Int))) → Option ρ) => bits_Unpack_r6 x.1 x.2.1 x.2.2.1 x.2.2.2.1 x.2.2.2.2.1 x.2.2.2.2.2.1 x.2.2.2.2.2.2 (fun v0 v1 v8 v9 v19 v20 h0 => next (v0, v1, v8, v9, v19, v20, h0)) (fun v0 v1 v8 v9 v19 v20 h0 => ex ((v0, v1, v8, v9, v19, v20, h0)))) (v0, v1, v8, v9, v19, v20, h0) (fun x => k0 x.1 x.2.1 x.2.2.1 x.2.2.2.1 x.2.2.2.2.1 x.2.2.2.2.2.1 x.2.2.2.2.2.2)
noncomputable def bits_Unpack_l6 {ρ : Type} (v0 : List Int) (v1 : Int) (v8 : Int) (v9 : Int) (v19 : Int) (v20 : Int) (h0 : List Int) (k0 : (List Int) → Int → Int → Int → Int → Int → (List Int) → Option ρ) : Option ρ := shut (bits_Unpack_L6 (ρ := ρ)) v0 v1 v8 v9 v19 v20 h0 k0
theorem bits_Unpack_l6_eq {ρ : Type} (v0 : List Int) (v1 : Int) (v8 : Int) (v9 : Int) (v19 : Int) (v20 : Int) (h0 : List Int) (k0 : (List Int) → Int → Int → Int → Int → Int → (List Int) → Option ρ) : bits_Unpack_l6 v0 v1 v8 v9 v19 v20 h0 k0 = bits_Unpack_L6 v0 v1 v8 v9 v19 v20 h0 k0 := by unfold bits_Unpack_l6; rw [shut_eq]
noncomputable def bits_Unpack_raw {ρ : Type} (a0 : List Int) (a1 : Int) (a2 : Int) (k : (List Int) → Option ρ) : Option ρ :=
  bits_such a0 a1 a2 fun (q0 : Bool) =>
    br (!q0) (k [])
      (br (decide ((0 : Int) ≤ a2))
        (br (decide (a2 ≤ a2))
          (br (decide (a2 * (↑4 : Int) ≤ (↑140737488355328 : Int)))
            (bits_Unpack_l6 a0 a1 (0 : Int) (0 : Int) (↑(List.replicate a2.toNat (0 : Int)).length : Int) (0 : Int)
              (List.replicate a2.toNat (0 : Int)) fun (q1 : List Int) (q2 q3 q4 q5 q6 : Int) (q7 : List Int) => k q7)
            none)
          none)
        none)
noncomputable def bits_Unpack {ρ : Type} (a0 : List Int) (a1 : Int) (a2 : Int) (k : (List Int) → Option ρ) : Option ρ := shut (bits_Unpack_raw (ρ := ρ)) a0 a1 a2 k
theorem bits_Unpack_eq {ρ : Type} (a0 : List Int) (a1 : Int) (a2 : Int) (k : (List Int) → Option ρ) : bits_Unpack a0 a1 a2 k = bits_Unpack_raw a0 a1 a2 k := by unfold bits_Unpack; rw [shut_eq]

end P
end

section
open Go Go.Abs
set_option linter.unusedVariables false
namespace P
noncomputable def R01_such_raw {ρ : Type} (a0 : List Int) (a1 : Int) (a2 : Int) (k : Bool → Option ρ) : Option ρ :=
  br (decide (a1 ≥ (1 : Int)))
    (br (decide (a1 ≤ (24 : Int)))
      (br (decide (a2 ≥ (0 : Int)))
        (br (decide (a1 = (0 : Int))) none
          (k (decide (a2 ≤ IntKind.i64.wrap ((IntKind.i64.wrap ((↑a0.length : Int) * (8 : Int))).tdiv a1)))))
        (k false))
      (k false))
    (k false)
noncomputable def R01_such {ρ : Type} (a0 : List Int) (a1 : Int) (a2 : Int) (k : Bool → Option ρ) : Option ρ := shut (R01_such_raw (ρ := ρ)) a0 a1 a2 k
theorem R01_such_eq {ρ : Type} (a0 : List Int) (a1 : Int) (a2 : Int) (k : Bool → Option ρ) : R01_such a0 a1 a2 k = R01_such_raw a0 a1 a2 k := by unfold R01_such; rw [shut_eq]

end P
end

section
open Go Go.Abs
set_option linter.unusedVariables false
namespace P
noncomputable def R01_Unpack_r9 {ρ : Type} (v0 : List Int) (v1 : Int) (v2 : Int) (v8 : Int) (v9 : Int) (v10 : Int) (h0 : List Int) (nx : (List Int) → Int → Int → Int → Int → Int → (List Int) → Option ρ) (k0 : (List Int) → Int → Int → Int → Int → Int → (List Int) → Option ρ) : Option ρ :=
  br (decide (v10 ≥ (0 : Int)))
    (br (decide ((0 : Int) ≤ IntKind.i64.wrap ((IntKind.i64.wrap (IntKind.i64.wrap (v8 * v1) + v10)).tdiv (8 : Int))))
      (br
        (decide
          (IntKind.i64.wrap ((IntKind.i64.wrap (IntKind.i64.wrap (v8 * v1) + v10)).tdiv (8 : Int)) < (↑v0.length : Int)))
        (br (decide ((IntKind.i64.wrap (IntKind.i64.wrap (v8 * v1) + v10)).tmod (8 : Int) < (0 : Int))) none
          (nx v0 v1 v2 v8
            (IntKind.u32.wrap
              (IntKind.u32.wrap (v9 * (2 : Int)) +
                IntKind.u32.wrap
                  (bits BinOp.and IntKind.u8
                    ((v0.getD
                          (IntKind.i64.wrap ((IntKind.i64.wrap (IntKind.i64.wrap (v8 * v1) + v10)).tdiv (8 : Int))).toNat
                          (0 : Int)).fdiv
                      ((2 : Int) ^
                        min ((IntKind.i64.wrap (IntKind.i64.wrap (v8 * v1) + v10)).tmod (8 : Int)).toNat 8))
                    (1 : Int))))
            (IntKind.i64.wrap (v10 - (1 : Int))) h0))
        none)
      none)
    (k0 v0 v1 v2 v8 v9 v10 h0)
noncomputable def R01_Unpack_L9 {ρ : Type} (v0 : List Int) (v1 : Int) (v2 : Int) (v8 : Int) (v9 : Int) (v10 : Int) (h0 : List Int) (k0 : (List Int) → Int → Int → Int → Int → Int → (List Int) → Option ρ) : Option ρ :=
  lp (fun (x : (List Int) × Int × Int × Int × Int × Int × (List Int)) (next : ((List Int) × Int × Int × Int × Int × Int × (List Int)) → Option ρ) (ex : (((List Int) × Int × Int × Int × Int × Int × (List Int))) → Option ρ) => R01_Unpack_r9 x.1 x.2.1 x.2.2.1 x.2.2.2.1 x.2.2.2.2.1 x.2.2.2.2.2.1 x.2.2.2.2.2.2 (fun v0 v1 v2 v8 v9 v10 h0 => next (v0, v1, v2, v8, v9, v10, h0)) (fun v0 v1 v2 v8 v9 v10 h0 => ex ((v0, v1, v2, v8, v9, v10, h0)))) (v0, v1, v2, v8, v9, v10, h0) (fun x => k0 x.1 x.2.1 x.2.2.1 x.2.2.2.1 x.2.2.2.2.1 x.2.2.2.2.2.1 x.2.2.2.2.2.2)
noncomputable def R01_Unpack_l9 {ρ : Type} (v0 : List Int) (v1 : Int) (v2 : Int) (v8 : Int) (v9 : Int) (v10 : Int) (h0 : List Int) (k0 : (List Int) → Int → Int → Int → Int → Int → (List Int) → Option ρ) : Option ρ := shut (R01_Unpack_L9 (ρ := ρ)) v0 v1 v2 v8 v9 v10 h0 k0
theorem R01_Unpack_l9_eq {ρ : Type} (v0 : List Int) (v1 : Int) (v2 : Int) (v8 : Int) (v9 : Int) (v10 : Int) (h0 : List Int) (k0 : (List Int) → Int → Int → Int → Int → Int → (List Int) → Option ρ) : R01_Unpack_l9 v0 v1 v2 v8 v9 v10 h0 k0 = R01_Unpack_L9 v0 v1 v2 v8 v9 v10 h0 k0 := by unfold R01_Unpack_l9; rw [shut_eq]
noncomputable def R01_Unpack_r5 {ρ : Type} (v0 : List Int) (v1 : Int) (v2 : Int) (v8 : Int) (h0 : List Int) (nx : (List Int) → Int → Int → Int → (List Int) → Option ρ) (k0 : (List Int) → Int → Int → Int → (List Int) → Option ρ) : Option ρ :=
  br (decide (v8 < v2))
    (R01_Unpack_l9 v0 v1 v2 v8 (0 : Int) (IntKind.i64.wrap (v1 - (1 : Int))) h0
      fun (q0 : List Int) (q1 q2 q3 q4 q5 : Int) (q6 : List Int) =>
      br
        (decide
          ((q6.length + 1) * 4 ≤
            140737488355328))
        (nx q0 q1 q2 (IntKind.i64.wrap (q3 + (1 : Int))) (q6 ++ [q4])) none)
    (k0 v0 v1 v2 v8 h0)
noncomputable def R01_Unpack_L5 {ρ : Type} (v0 : List Int) (v1 : Int) (v2 : Int) (v8 : Int) (h0 : List Int) (k0 : (List Int) → Int → Int → Int → (List Int) → Option ρ) : Option ρ :=
  lp (fun (x : (List Int) × Int × Int × Int × (List Int)) (next : ((List Int) × Int × Int × Int × (List Int)) → Option ρ) (ex : (((List Int) × Int × Int × Int × (List Int))) → Option ρ) => R01_Unpack_r5 x.1 x.2.1 x.2.2.1 x.2.2.2.1 x.2.2.2.2 (fun v0 v1 v2 v8 h0 => next (v0, v1, v2, v8, h0)) (fun v0 v1 v2 v8 h0 => ex ((v0, v1, v2, v8, h0)))) (v0, v1, v2, v8, h0) (fun x => k0 x.1 x.2.1 x.2.2.1 x.2.2.2.1 x.2.2.2.2)
noncomputable def R01_Unpack_l5 {ρ : Type} (v0 : List Int) (v1 : Int) (v2 : Int) (v8 : Int) (h0 : List Int) (k0 : (List Int) → Int → Int → Int → (List Int) → Option ρ) : Option ρ := shut (R01_Unpack_L5 (ρ := ρ)) v0 v1 v2 v8 h0 k0
theorem R01_Unpack_l5_eq {ρ : Type} (v0 : List Int) (v1 : Int) (v2 : Int) (v8 : Int) (h0 : List Int) (k0 : (List Int) → Int → Int → Int → (List Int) → Option ρ) : R01_Unpack_l5 v0 v1 v2 v8 h0 k0 = R01_Unpack_L5 v0 v1 v2 v8 h0 k0 := by unfold R01_Unpack_l5; rw [shut_eq]
noncomputable def R01_Unpack_raw {ρ : Type} (a0 : List Int) (a1 : Int) (a2 : Int) (k : (List Int) → Option ρ) : Option ρ :=
  R01_such a0 a1 a2 fun (q0 : Bool) =>
    br (!q0) (k []) (R01_Unpack_l5 a0 a1 a2 (0 : Int) [] fun (q1 : List Int) (q2 q3 q4 : Int) (q5 : List Int) => k q5)
noncomputable def R01_Unpack {ρ : Type} (a0 : List Int) (a1 : Int) (a2 : Int) (k : (List Int) → Option ρ) : Option ρ := shut (R01_Unpack_raw (ρ := ρ)) a0 a1 a2 k
theorem R01_Unpack_eq {ρ : Type} (a0 : List Int) (a1 : Int) (a2 : Int) (k : (List Int) → Option ρ) : R01_Unpack a0 a1 a2 k = R01_Unpack_raw a0 a1 a2 k := by unfold R01_Unpack; rw [shut_eq]

end P
end

section
/- bits: Unpack. -/
namespace Q
open Go Go.Abs
set_option linter.unusedVariables false
set_option linter.unusedSimpArgs false

/-- so many numbers of so many bits are there -/
def Such (n : Nat) (w c : Int) : Prop := 1 ≤ w ∧ w ≤ 24 ∧ 0 ≤ c ∧ c * w ≤ n * 8
instance (n : Nat) (w c : Int) : Decidable (Such n w c) := inferInstanceAs (Decidable (_ ∧ _))

theorem such_eq (n : Nat) (w c : Int) (hn : n ≤ 1000000) {ρ : Type} (k : Bool → Option ρ) :
    br (decide (w ≥ (1 : Int))) (br (decide (w ≤ (24 : Int))) (br (decide (c ≥ (0 : Int))) (br (decide (w = (0 : Int))) none
      (k (decide (c ≤ IntKind.i64.wrap ((IntKind.i64.wrap ((↑n : Int) * (8 : Int))).tdiv w))))) (k false)) (k false)) (k false) = k (decide (Such n w c)) := by
  by_cases h1 : w ≥ 1
  · by_cases h2 : w ≤ 24
    · by_cases h3 : c ≥ 0
      · rw [br_pos h1, br_pos h2, br_pos h3, br_neg (by omega)]
        congr 1
        have e0 : ((n : Int) * 8).tdiv w = (n : Int) * 8 / w := Int.tdiv_eq_ediv_of_nonneg (by omega)
        have e1 : (n : Int) * 8 / w ≤ n * 8 := Int.ediv_le_self _ (by omega)
        have e2 : 0 ≤ (n : Int) * 8 / w := Int.ediv_nonneg (by omega) (by omega)
        rw [i64w (x := (n : Int) * 8) (by omega) (by omega), e0, i64w (by omega) (by omega)]
        apply decide_eq_decide.2
        rw [Int.le_ediv_iff_mul_le (by omega)]
        unfold Such
        omega
      · rw [br_pos h1, br_pos h2, br_neg h3, decide_eq_false (fun h => h3 h.2.2.1)]
    · rw [br_pos h1, br_neg h2, decide_eq_false (fun h => h2 h.2.1)]
  · rw [br_neg h1, decide_eq_false (fun h => h1 h.1)]

theorem bits_such (b : List Int) (w c : Int) (hn : b.length ≤ 1000000) {ρ : Type} (k : Bool → Option ρ) : P.bits_such b w c k = k (decide (Such b.length w c)) := by
  rw [P.bits_such_eq]; exact such_eq b.length w c hn k
theorem R01_such (b : List Int) (w c : Int) (hn : b.length ≤ 1000000) {ρ : Type} (k : Bool → Option ρ) : P.R01_such b w c k = k (decide (Such b.length w c)) := by
  rw [P.R01_such_eq]; exact such_eq b.length w c hn k

theorem fdiv_pow (a n m : Nat) (h : n ≤ m) : (a : Int).fdiv ((2 : Int) ^ min n m) = ((a / 2 ^ n : Nat) : Int) := by
  rw [Nat.min_eq_left h, show ((2 : Int) ^ n) = ((2 ^ n : Nat) : Int) by simp, ← Int.ofNat_fdiv]
theorem mul_pow (a n m : Nat) (h : n ≤ m) : (a : Int) * ((2 : Int) ^ min n m) = ((a * 2 ^ n : Nat) : Int) := by
  rw [Nat.min_eq_left h, show ((2 : Int) ^ n) = ((2 ^ n : Nat) : Int) by simp, ← Int.natCast_mul]
theorem u64n (a : Nat) (h : a < 18446744073709551616) : IntKind.u64.wrap (a : Int) = (a : Int) := by rw [u64m]; omega
theorem u32n (a : Nat) (h : a < 4294967296) : IntKind.u32.wrap (a : Int) = (a : Int) := by rw [u32m]; omega
theorem u8n (a : Nat) (h : a < 256) : IntKind.u8.wrap (a : Int) = (a : Int) := by rw [u8m]; omega
theorem p2_le {a b : Nat} (h : a ≤ b) : 2 ^ a ≤ 2 ^ b := Nat.pow_le_pow_right (by omega) h
theorem mask64 (w : Nat) (h : w ≤ 24) : IntKind.u64.wrap (IntKind.u64.wrap ((1 : Int) * (2 : Int) ^ min w 64) - (1 : Int)) = ((2 ^ w - 1 : Nat) : Int) := by
  have h1 := p2 w
  have h2 : 2 ^ w ≤ 2 ^ 24 := p2_le h
  rw [show (1 : Int) = ((1 : Nat) : Int) from rfl, mul_pow 1 w 64 (by omega), u64n _ (by omega), show ((1 * 2 ^ w : Nat) : Int) - ((1 : Nat) : Int) = ((2 ^ w - 1 : Nat) : Int) by omega, u64n _ (by omega)]
theorem and_mask64 (x w : Nat) (hx : x < 18446744073709551616) (h : w ≤ 24) : bits .and .u64 (x : Int) (IntKind.u64.wrap (IntKind.u64.wrap ((1 : Int) * (2 : Int) ^ min w 64) - (1 : Int))) = ((x % 2 ^ w : Nat) : Int) := by
  have h2 : 2 ^ w ≤ 2 ^ 24 := p2_le h
  rw [mask64 w h, and_u64 _ _ hx (by omega), Nat.and_two_pow_sub_one_eq_mod]

/-- bytes for so many bits -/
def ceil8 (n : Nat) : Nat := (n + 7) / 8
theorem ceil8_le (n : Nat) : n ≤ 8 * ceil8 n := by unfold ceil8; omega
theorem ceil8_lt (n : Nat) : 8 * ceil8 n < n + 8 := by unfold ceil8; omega

/-- the numbers, unpacked -/
def unpackS (b : List Int) (w c : Int) : List Int := if Such b.length w c then bsw w.toNat c.toNat (T 8 b) else []

theorem byte_at {b : List Int} (hb : In 256 b) (t : Nat) : ∃ x : Nat, b.getD t 0 = (x : Int) ∧ x < 256 ∧ x = (b.getD t 0).toNat % 2 ^ 8 := by
  have := hb.getD t (by omega)
  exact ⟨(b.getD t 0).toNat, by omega, by omega, by omega⟩

theorem bits_Unpack (b : List Int) (w c : Int) (hb : In 256 b) (hn : b.length ≤ 1000000) {ρ : Type} (k : List Int → Option ρ) : P.bits_Unpack b w c k = k (unpackS b w c) := by
  rw [P.bits_Unpack_eq]
  unfold P.bits_Unpack_raw
  rw [bits_such b w c hn, br_not]
  unfold unpackS
  by_cases hs : Such b.length w c
  rotate_left
  · rw [decide_eq_false hs, br_ff, if_neg hs]
  rw [decide_eq_true hs, br_tt, if_pos hs]
  obtain ⟨h1, h2, h3, h4⟩ := hs
  obtain ⟨w, rfl⟩ := Int.eq_ofNat_of_zero_le (show 0 ≤ w by omega)
  obtain ⟨c, rfl⟩ := Int.eq_ofNat_of_zero_le h3
  have h4 : c * w ≤ b.length * 8 := by exact_mod_cast h4
  have hc : c ≤ c * w := Nat.le_mul_of_pos_right c (by omega)
  simp only [toNat_cast, List.length_replicate]
  simp (disch := omega) only [br_pos, br_neg, br_bne_pos, br_bne_neg, br_beq_pos, br_beq_neg, br_not, br_tt, br_ff, i64w]
  rw [P.bits_Unpack_l6_eq]
  unfold P.bits_Unpack_L6
  refine lp_go (fun i => (b.drop (ceil8 (w * i)), (w : Int), ((T 8 (b.take (ceil8 (w * i))) / 2 ^ (w * i) : Nat) : Int), ((8 * ceil8 (w * i) - w * i : Nat) : Int), (c : Int), (i : Int), (bsw w i (T 8 b)) ++ List.replicate (c - i) 0)) c (by simp [ceil8, T, bsw]) (fun i hi next hn' => ?_) (fun next => ?_) (by omega)
  · have hwi : w * (i + 1) = w * i + w := Nat.mul_succ w i
    have hwc : w * (i + 1) ≤ b.length * 8 := Nat.le_trans (Nat.mul_le_mul (Nat.le_refl w) hi) (by rw [Nat.mul_comm]; exact h4)
    have c1 := ceil8_le (w * i)
    have c2 := ceil8_lt (w * i)
    have c3 := ceil8_le (w * (i + 1))
    have c4 := ceil8_lt (w * (i + 1))
    have c5 : ceil8 (w * i) ≤ ceil8 (w * (i + 1)) := by unfold ceil8; omega
    simp only [P.bits_Unpack_r6]
    rw [br_pos (by omega), P.bits_Unpack_l8_eq]
    unfold P.bits_Unpack_L8
    refine lp_go (fun j => (b.drop (ceil8 (w * i) + j), (w : Int), ((T 8 (b.take (ceil8 (w * i) + j)) / 2 ^ (w * i) : Nat) : Int), ((8 * (ceil8 (w * i) + j) - w * i : Nat) : Int), (i : Int), (c : Int), (i : Int), (bsw w i (T 8 b)) ++ List.replicate (c - i) 0)) (ceil8 (w * (i + 1)) - ceil8 (w * i)) rfl (fun j hj next2 hn2 => ?_) (fun next2 => ?_) (by omega)
    · have ht : ceil8 (w * i) + j < b.length := by omega
      obtain ⟨x, hx, hx2, hx3⟩ := byte_at hb (ceil8 (w * i) + j)
      have hlt : T 8 (b.take (ceil8 (w * i) + j)) / 2 ^ (w * i) < 2 ^ (8 * (ceil8 (w * i) + j) - w * i) := by
        rw [Nat.div_lt_iff_lt_mul (p2 _), ← Nat.pow_add]
        have := T_lt 8 (b.take (ceil8 (w * i) + j))
        rw [List.length_take, Nat.min_eq_left (by omega)] at this
        rw [show 8 * (ceil8 (w * i) + j) - w * i + w * i = 8 * (ceil8 (w * i) + j) by omega]
        exact this
      have hp : 2 ^ (8 * (ceil8 (w * i) + j) - w * i) ≤ 2 ^ 24 := p2_le (by omega)
      have hxp : x * 2 ^ (8 * (ceil8 (w * i) + j) - w * i) ≤ 255 * 2 ^ 24 := Nat.mul_le_mul (by omega) hp
      have est : T 8 (b.take (ceil8 (w * i) + (j + 1))) / 2 ^ (w * i) = T 8 (b.take (ceil8 (w * i) + j)) / 2 ^ (w * i) + x * 2 ^ (8 * (ceil8 (w * i) + j) - w * i) := by
        rw [← Nat.add_assoc, T_step 8 b _ ht, ← hx3, show 8 * (ceil8 (w * i) + j) = w * i + (8 * (ceil8 (w * i) + j) - w * i) by omega, Nat.pow_add, Nat.mul_assoc, Nat.add_mul_div_left _ _ (p2 _), Nat.mul_comm x]
        congr 3; omega
      simp only [P.bits_Unpack_r8, List.length_drop, toNat_cast]
      rw [List.take_of_length_le (l := b.drop (ceil8 (w * i) + j)) (by simp), List.drop_drop]
      have e0 : (b.drop (ceil8 (w * i) + j)).getD 0 0 = (x : Int) := by
        rw [← hx, drop_step b 0 _ ht]; rfl
      rw [e0, u64n x (by omega), mul_pow x _ 64 (by omega), u64n _ (by omega), or_u64 _ _ (by omega) (by omega), or_high _ _ _ hlt, ← est]
      simp (disch := omega) only [br_pos, br_neg, br_bne_pos, br_bne_neg, br_beq_pos, br_beq_neg, br_not, br_tt, br_ff, i64w]
      rw [Nat.add_assoc, show ((8 * (ceil8 (w * i) + j) - w * i : Nat) : Int) + 8 = ((8 * (ceil8 (w * i) + (j + 1)) - w * i : Nat) : Int) by omega]
      exact hn2
    · have et : ceil8 (w * i) + (ceil8 (w * (i + 1)) - ceil8 (w * i)) = ceil8 (w * (i + 1)) := by omega
      simp only [P.bits_Unpack_r8, toNat_cast]
      rw [et]
      have hlt : T 8 (b.take (ceil8 (w * (i + 1)))) / 2 ^ (w * i) < 2 ^ (8 * ceil8 (w * (i + 1)) - w * i) := by
        rw [Nat.div_lt_iff_lt_mul (p2 _), ← Nat.pow_add]
        have := T_lt 8 (b.take (ceil8 (w * (i + 1))))
        rw [List.length_take, Nat.min_eq_left (by omega)] at this
        rw [show 8 * ceil8 (w * (i + 1)) - w * i + w * i = 8 * ceil8 (w * (i + 1)) by omega]
        exact this
      have hp : 2 ^ (8 * ceil8 (w * (i + 1)) - w * i) ≤ 2 ^ 32 := p2_le (by omega)
      have hw2 : 2 ^ w ≤ 2 ^ 24 := p2_le (by omega)
      have hmod := Nat.mod_lt (T 8 (b.take (ceil8 (w * (i + 1)))) / 2 ^ (w * i)) (p2 w)
      rw [br_neg (by omega), and_mask64 _ w (by omega) (by omega), u32n _ (by omega), fdiv_pow _ w 64 (by omega), T_take_mod 8 b _ (by omega), piece_mod _ _ _ _ (by omega)]
      simp only [List.length_append, bsw_length, List.length_replicate]
      simp (disch := omega) only [br_pos, br_neg, br_bne_pos, br_bne_neg, br_beq_pos, br_beq_neg, br_not, br_tt, br_ff, i64w]
      rw [List.set_append_right _ _ (by simp), bsw_length, Nat.sub_self, show c - i = (c - (i + 1)) + 1 by omega, List.replicate_succ, List.set_cons_zero]
      rw [bsw_succ, List.append_assoc, List.singleton_append, T_take_mod 8 b _ (by omega), hwi, Nat.pow_add, ← Nat.div_div_eq_div_mul] at hn'
      rw [hwi, show ((8 * ceil8 (w * i + w) - w * i : Nat) : Int) - (w : Int) = ((8 * ceil8 (w * i + w) - (w * i + w) : Nat) : Int) by rw [hwi] at c3; omega]
      exact hn'
  · simp only [P.bits_Unpack_r6]
    rw [br_neg (by omega), Nat.sub_self]
    simp
end Q
end

section
/- bits: Unpack, as the document has it. -/
namespace Q
open Go Go.Abs
set_option linter.unusedVariables false
set_option linter.unusedSimpArgs false

theorem td8 (p : Nat) : (p : Int).tdiv 8 = ((p / 8 : Nat) : Int) := by rw [Int.tdiv_eq_ediv_of_nonneg (by omega)]; omega
theorem tm8 (p : Nat) : (p : Int).tmod 8 = ((p % 8 : Nat) : Int) := by rw [Int.tmod_eq_emod_of_nonneg (by omega)]; omega
theorem wmul (i w : Nat) (h : w * i ≤ 9223372036854775807) : IntKind.i64.wrap ((i : Int) * (w : Int)) = ((w * i : Nat) : Int) := by
  rw [← Int.natCast_mul, Nat.mul_comm, i64w (by omega) (by omega)]
theorem bit_u8 (x s : Nat) (hx : x < 256) (hs : s ≤ 8) : bits .and .u8 ((x : Int).fdiv ((2 : Int) ^ min s 8)) 1 = ((x / 2 ^ s % 2 : Nat) : Int) := by
  have := Nat.div_le_self x (2 ^ s)
  rw [fdiv_pow x s 8 hs, show (1 : Int) = ((1 : Nat) : Int) from rfl, and_u8 _ _ (by omega) (by omega), Nat.and_one_is_mod]
theorem bit_add (v x : Nat) (hv : v < 16777216) (hx : x < 2) : IntKind.u32.wrap (IntKind.u32.wrap ((v : Int) * 2) + IntKind.u32.wrap (x : Int)) = ((x + 2 * v : Nat) : Int) := by
  rw [u32n x (by omega), show (v : Int) * 2 = ((v * 2 : Nat) : Int) by omega, u32n _ (by omega), ← Int.natCast_add, u32n _ (by omega)]; omega
theorem bit_up (V h j : Nat) : V / 2 ^ h % 2 + 2 * (V / 2 ^ (h + 1) % 2 ^ j) = V / 2 ^ h % 2 ^ (j + 1) := by
  have := piece_up V h 1 j
  rw [Nat.add_comm j 1]; exact this

theorem R01_Unpack (b : List Int) (w c : Int) (hb : In 256 b) (hn : b.length ≤ 1000000) {ρ : Type} (k : List Int → Option ρ) : P.R01_Unpack b w c k = k (unpackS b w c) := by
  rw [P.R01_Unpack_eq]
  unfold P.R01_Unpack_raw
  rw [R01_such b w c hn, br_not]
  unfold unpackS
  by_cases hs : Such b.length w c
  rotate_left
  · rw [decide_eq_false hs, br_ff, if_neg hs]
  rw [decide_eq_true hs, br_tt, if_pos hs]
  obtain ⟨h1, h2, h3, h4⟩ := hs
  obtain ⟨w, rfl⟩ := Int.eq_ofNat_of_zero_le (show 0 ≤ w by omega)
  obtain ⟨c, rfl⟩ := Int.eq_ofNat_of_zero_le h3
  have h4 : c * w ≤ b.length * 8 := by exact_mod_cast h4
  have hc : c ≤ c * w := Nat.le_mul_of_pos_right c (by omega)
  simp only [toNat_cast]
  rw [P.R01_Unpack_l5_eq]
  unfold P.R01_Unpack_L5
  refine lp_go (fun i => (b, (w : Int), (c : Int), (i : Int), bsw w i (T 8 b))) c (by simp [bsw]) (fun i hi next hn' => ?_) (fun next => ?_) (by omega)
  · have hwi : w * (i + 1) = w * i + w := Nat.mul_succ w i
    have hwc : w * (i + 1) ≤ b.length * 8 := Nat.le_trans (Nat.mul_le_mul (Nat.le_refl w) hi) (by rw [Nat.mul_comm]; exact h4)
    simp only [P.R01_Unpack_r5]
    rw [br_pos (by omega), P.R01_Unpack_l9_eq, i64w (by omega) (by omega)]
    unfold P.R01_Unpack_L9
    refine lp_go (fun j => (b, (w : Int), (c : Int), (i : Int), ((T 8 b / 2 ^ (w * i + (w - j)) % 2 ^ j : Nat) : Int), (w : Int) - 1 - (j : Int), bsw w i (T 8 b))) w (by simp [Nat.mod_one]) (fun j hj next2 hn2 => ?_) (fun next2 => ?_) (by omega)
    · obtain ⟨x, hx, hx2, hx3⟩ := byte_at hb ((w * i + (w - (j + 1))) / 8)
      simp only [P.R01_Unpack_r9]
      rw [wmul i w (by omega), show ((w * i : Nat) : Int) + ((w : Int) - 1 - (j : Int)) = ((w * i + (w - (j + 1)) : Nat) : Int) by omega, i64w (x := ((w * i + (w - (j + 1)) : Nat) : Int)) (by omega) (by omega), td8, tm8, i64w (x := (((w * i + (w - (j + 1))) / 8 : Nat) : Int)) (by omega) (by omega)]
      simp only [toNat_cast]
      have hv := Nat.mod_lt (T 8 b / 2 ^ (w * i + (w - j))) (p2 j)
      have hv2 : 2 ^ j ≤ 2 ^ 24 := p2_le (by omega)
      rw [hx, bit_u8 x _ hx2 (by omega), bit_add _ _ (by omega) (by omega), hx3, ← T_getD]
      have e := piece_piece (T 8 b) (8 * ((w * i + (w - (j + 1))) / 8)) 8 ((w * i + (w - (j + 1))) % 8) 1 (by omega)
      rw [Nat.pow_one, show 8 * ((w * i + (w - (j + 1))) / 8) + (w * i + (w - (j + 1))) % 8 = w * i + (w - (j + 1)) by omega] at e
      rw [e, show w * i + (w - j) = w * i + (w - (j + 1)) + 1 by omega, bit_up]
      rw [show (w : Int) - 1 - ((j + 1 : Nat) : Int) = (w : Int) - 1 - (j : Int) - 1 by omega] at hn2
      simp (disch := omega) only [br_pos, br_neg, br_bne_pos, br_bne_neg, br_beq_pos, br_beq_neg, br_not, br_tt, br_ff, i64w]
      exact hn2
    · simp only [P.R01_Unpack_r9, bsw_length, Nat.sub_self, Nat.add_zero]
      simp (disch := omega) only [br_pos, br_neg, br_bne_pos, br_bne_neg, br_beq_pos, br_beq_neg, br_not, br_tt, br_ff, i64w]
      rw [← bsw_succ]
      exact hn'
  · simp only [P.R01_Unpack_r5]
    rw [br_neg (by omega)]
end Q
end

section
open Go Go.Abs
set_option linter.unusedVariables false
namespace P
noncomputable def R01_Digits_r9 {ρ : Type} (v0 : List Int) (v1 : Int) (v2 : Int) (v8 : Int) (v9 : Int) (v10 : Int) (h0 : List Int) (nx : (List Int) → Int → Int → Int → Int → Int → (List Int) → Option ρ) (k0 : (List Int) → Int → Int → Int → Int → Int → (List Int) → Option ρ) : Option ρ :=
  br (decide (v10 < v1))
    (br (decide ((0 : Int) ≤ IntKind.i64.wrap ((IntKind.i64.wrap (IntKind.i64.wrap (v8 * v1) + v10)).tdiv (8 : Int))))
      (br
        (decide
          (IntKind.i64.wrap ((IntKind.i64.wrap (IntKind.i64.wrap (v8 * v1) + v10)).tdiv (8 : Int)) < (↑v0.length : Int)))
        (br
          (decide
            (IntKind.i64.wrap ((7 : Int) - (IntKind.i64.wrap (IntKind.i64.wrap (v8 * v1) + v10)).tmod (8 : Int)) <
              (0 : Int)))
          none
          (nx v0 v1 v2 v8
            (IntKind.u32.wrap
              (IntKind.u32.wrap (v9 * (2 : Int)) +
                IntKind.u32.wrap
                  (bits BinOp.and IntKind.u8
                    ((v0.getD
                          (IntKind.i64.wrap ((IntKind.i64.wrap (IntKind.i64.wrap (v8 * v1) + v10)).tdiv (8 : Int))).toNat
                          (0 : Int)).fdiv
                      ((2 : Int) ^
                        min
                          (IntKind.i64.wrap
                              ((7 : Int) - (IntKind.i64.wrap (IntKind.i64.wrap (v8 * v1) + v10)).tmod (8 : Int))).toNat
                          8))
                    (1 : Int))))
            (IntKind.i64.wrap (v10 + (1 : Int))) h0))
        none)
      none)
    (k0 v0 v1 v2 v8 v9 v10 h0)
noncomputable def R01_Digits_L9 {ρ : Type} (v0 : List Int) (v1 : Int) (v2 : Int) (v8 : Int) (v9 : Int) (v10 : Int) (h0 : List Int) (k0 : (List Int) → Int → Int → Int → Int → Int → (List Int) → Option ρ) : Option ρ :=
  lp (fun (x : (List Int) × Int × Int × Int × Int × Int × (List Int)) (next : ((List Int) × Int × Int × Int × Int × Int × (List Int)) → Option ρ) (ex : (((List Int) × Int × Int × Int × Int × Int × (List Int))) → Option ρ) => R01_Digits_r9 x.1 x.2.1 x.2.2.1 x.2.2.2.1 x.2.2.2.2.1 x.2.2.2.2.2.1 x.2.2.2.2.2.2 (fun v0 v1 v2 v8 v9 v10 h0 => next (v0, v1, v2, v8, v9, v10, h0)) (fun v0 v1 v2 v8 v9 v10 h0 => ex ((v0, v1, v2, v8, v9, v10, h0)))) (v0, v1, v2, v8, v9, v10, h0) (fun x => k0 x.1 x.2.1 x.2.2.1 x.2.2.2.1 x.2.2.2.2.1 x.2.2.2.2.2.1 x.2.2.2.2.2.2)
noncomputable def R01_Digits_l9 {ρ : Type} (v0 : List Int) (v1 : Int) (v2 : Int) (v8 : Int) (v9 : Int) (v10 : Int) (h0 : List Int) (k0 : (List Int) → Int → Int → Int → Int → Int → (List Int) → Option ρ) : Option ρ := shut (R01_Digits_L9 (ρ := ρ)) v0 v1 v2 v8 v9 v10 h0 k0
theorem R01_Digits_l9_eq {ρ : Type} (v0 : List Int) (v1 : Int) (v2 : Int) (v8 : Int) (v9 : Int) (v10 : Int) (h0 : List Int) (k0 : (List Int) → Int → Int → Int → Int → Int → (List Int) → Option ρ) : R01_Digits_l9 v0 v1 v2 v8 v9 v10 h0 k0 = R01_Digits_L9 v0 v1 v2 v8 v9 v10 h0 k0 := by unfold R01_Digits_l9; rw [shut_eq]
noncomputable def R01_Digits_r5 {ρ : Type} (v0 : List Int) (v1 : Int) (v2 : Int) (v8 : Int) (h0 : List Int) (nx : (List Int) → Int → Int → Int → (List Int) → Option ρ) (k0 : (List Int) → Int → Int → Int → (List Int) → Option ρ) : Option ρ :=
  br (decide (v8 < v2))
    (R01_Digits_l9 v0 v1 v2 v8 (0 : Int) (0 : Int) h0 fun (q0 : List Int) (q1 q2 q3 q4 q5 : Int) (q6 : List Int) =>
      br
        (decide
          ((q6.length + 1) * 4 ≤
            140737488355328))
        (nx q0 q1 q2 (IntKind.i64.wrap (q3 + (1 : Int))) (q6 ++ [q4])) none)
    (k0 v0 v1 v2 v8 h0)
noncomputable def R01_Digits_L5 {ρ : Type} (v0 : List Int) (v1 : Int) (v2 : Int) (v8 : Int) (h0 : List Int) (k0 : (List Int) → Int → Int → Int → (List Int) → Option ρ) : Option ρ :=
  lp (fun (x : (List Int) × Int × Int × Int × (List Int)) (next : ((List Int) × Int × Int × Int × (List Int)) → Option ρ) (ex : (((List Int) × Int × Int × Int × (List Int))) → Option ρ) => R01_Digits_r5 x.1 x.2.1 x.2.2.1 x.2.2.2.1 x.2.2.2.2 (fun v0 v1 v2 v8 h0 => next (v0, v1, v2, v8, h0)) (fun v0 v1 v2 v8 h0 => ex ((v0, v1, v2, v8, h0)))) (v0, v1, v2, v8, h0) (fun x => k0 x.1 x.2.1 x.2.2.1 x.2.2.2.1 x.2.2.2.2)
noncomputable def R01_Digits_l5 {ρ : Type} (v0 : List Int) (v1 : Int) (v2 : Int) (v8 : Int) (h0 : List Int) (k0 : (List Int) → Int → Int → Int → (List Int) → Option ρ) : Option ρ := shut (R01_Digits_L5 (ρ := ρ)) v0 v1 v2 v8 h0 k0
theorem R01_Digits_l5_eq {ρ : Type} (v0 : List Int) (v1 : Int) (v2 : Int) (v8 : Int) (h0 : List Int) (k0 : (List Int) → Int → Int → Int → (List Int) → Option ρ) : R01_Digits_l5 v0 v1 v2 v8 h0 k0 = R01_Digits_L5 v0 v1 v2 v8 h0 k0 := by unfold R01_Digits_l5; rw [shut_eq]
noncomputable def R01_Digits_raw {ρ : Type} (a0 : List Int) (a1 : Int) (a2 : Int) (k : (List Int) → Option ρ) : Option ρ :=
  R01_such a0 a1 a2 fun (q0 : Bool) =>
    br (!q0) (k []) (R01_Digits_l5 a0 a1 a2 (0 : Int) [] fun (q1 : List Int) (q2 q3 q4 : Int) (q5 : List Int) => k q5)
noncomputable def R01_Digits {ρ : Type} (a0 : List Int) (a1 : Int) (a2 : Int) (k : (List Int) → Option ρ) : Option ρ := shut (R01_Digits_raw (ρ := ρ)) a0 a1 a2 k
theorem R01_Digits_eq {ρ : Type} (a0 : List Int) (a1 : Int) (a2 : Int) (k : (List Int) → Option ρ) : R01_Digits a0 a1 a2 k = R01_Digits_raw a0 a1 a2 k := by unfold R01_Digits; rw [shut_eq]

end P
end

section
/- bits: Digits. -/
namespace Q
open Go Go.Abs
set_option linter.unusedVariables false
set_option linter.unusedSimpArgs false

/-- the digits, the highest first -/
def dg (w L N : Nat) (i : Nat) : Int := ((N / 2 ^ (8 * L - w * (i + 1)) % 2 ^ w : Nat) : Int)
def digitsS (b : List Int) (w c : Int) : List Int := if Such b.length w c then (List.range c.toNat).map (dg w.toNat b.length (T 8 b.reverse)) else []

theorem rev_take (b : List Int) (t : Nat) (h : t ≤ b.length) : T 8 (b.take t).reverse = T 8 b.reverse / 2 ^ (8 * (b.length - t)) := by
  rw [List.reverse_take, T_drop_div 8 _ _ (by simp)]
theorem rev_step (b : List Int) (t : Nat) (h : t < b.length) : T 8 (b.take (t + 1)).reverse = (b.getD t 0).toNat % 2 ^ 8 + 256 * T 8 (b.take t).reverse := by
  rw [← take_step b 0 t h, List.reverse_append, List.reverse_singleton, List.singleton_append, T]
theorem rev_getD (b : List Int) (q : Nat) (h : q < b.length) : (b.getD q 0).toNat % 2 ^ 8 = T 8 b.reverse / 2 ^ (8 * (b.length - 1 - q)) % 2 ^ 8 := by
  rw [T_getD]
  congr 2
  rw [getD_lt h, getD_lt (by simp; omega), List.getElem_reverse]
  congr 1; omega

theorem bits_Digits (b : List Int) (w c : Int) (hb : In 256 b) (hn : b.length ≤ 1000000) {ρ : Type} (k : List Int → Option ρ) : P.bits_Digits b w c k = k (digitsS b w c) := by
  rw [P.bits_Digits_eq]
  unfold P.bits_Digits_raw
  rw [bits_such b w c hn, br_not]
  unfold digitsS
  by_cases hs : Such b.length w c
  rotate_left
  · rw [decide_eq_false hs, br_ff, if_neg hs]
  rw [decide_eq_true hs, br_tt, if_pos hs]
  obtain ⟨h1, h2, h3, h4⟩ := hs
  obtain ⟨w, rfl⟩ := Int.eq_ofNat_of_zero_le (show 0 ≤ w by omega)
  obtain ⟨c, rfl⟩ := Int.eq_ofNat_of_zero_le h3
  have h4 : c * w ≤ b.length * 8 := by exact_mod_cast h4
  have hc : c ≤ c * w := Nat.le_mul_of_pos_right c (by omega)
  simp only [toNat_cast, List.length_replicate]
  simp (disch := omega) only [br_pos, br_neg, br_bne_pos, br_bne_neg, br_beq_pos, br_beq_neg, br_not, br_tt, br_ff, i64w]
  rw [P.bits_Digits_l6_eq]
  unfold P.bits_Digits_L6
  refine lp_go (fun i => (b.drop (ceil8 (w * i)), (w : Int), ((T 8 (b.take (ceil8 (w * i))).reverse % 2 ^ 64 : Nat) : Int), ((8 * ceil8 (w * i) - w * i : Nat) : Int), (c : Int), (i : Int), ((List.range i).map (dg w b.length (T 8 b.reverse))) ++ List.replicate (c - i) 0)) c (by simp [ceil8, T, bsw]) (fun i hi next hn' => ?_) (fun next => ?_) (by omega)
  · have hwi : w * (i + 1) = w * i + w := Nat.mul_succ w i
    have hwc : w * (i + 1) ≤ b.length * 8 := Nat.le_trans (Nat.mul_le_mul (Nat.le_refl w) hi) (by rw [Nat.mul_comm]; exact h4)
    have c1 := ceil8_le (w * i)
    have c2 := ceil8_lt (w * i)
    have c3 := ceil8_le (w * (i + 1))
    have c4 := ceil8_lt (w * (i + 1))
    have c5 : ceil8 (w * i) ≤ ceil8 (w * (i + 1)) := by unfold ceil8; omega
    simp only [P.bits_Digits_r6]
    rw [br_pos (by omega), P.bits_Digits_l8_eq]
    unfold P.bits_Digits_L8
    refine lp_go (fun j => (b.drop (ceil8 (w * i) + j), (w : Int), ((T 8 (b.take (ceil8 (w * i) + j)).reverse % 2 ^ 64 : Nat) : Int), ((8 * (ceil8 (w * i) + j) - w * i : Nat) : Int), (i : Int), (c : Int), (i : Int), ((List.range i).map (dg w b.length (T 8 b.reverse))) ++ List.replicate (c - i) 0)) (ceil8 (w * (i + 1)) - ceil8 (w * i)) rfl (fun j hj next2 hn2 => ?_) (fun next2 => ?_) (by omega)
    · have ht : ceil8 (w * i) + j < b.length := by omega
      obtain ⟨x, hx, hx2, hx3⟩ := byte_at hb (ceil8 (w * i) + j)
      have est := rev_step b (ceil8 (w * i) + j) ht
      rw [← hx3] at est
      simp only [P.bits_Digits_r8, List.length_drop, toNat_cast]
      rw [List.take_of_length_le (l := b.drop (ceil8 (w * i) + j)) (by simp), List.drop_drop]
      have e0 : (b.drop (ceil8 (w * i) + j)).getD 0 0 = (x : Int) := by
        rw [← hx, drop_step b 0 _ ht]; rfl
      have e1 : IntKind.u64.wrap (((T 8 (b.take (ceil8 (w * i) + j)).reverse % 2 ^ 64 : Nat) : Int) * 2 ^ 8) = ((T 8 (b.take (ceil8 (w * i) + j)).reverse % 2 ^ 56 * 2 ^ 8 : Nat) : Int) := by
        rw [u64m]; omega
      rw [e0, e1, u64n x (by omega), or_u64 _ _ (by omega) (by omega), or_shift _ _ _ (by omega)]
      simp (disch := omega) only [br_pos, br_neg, br_bne_pos, br_bne_neg, br_beq_pos, br_beq_neg, br_not, br_tt, br_ff, i64w]
      rw [Nat.add_assoc, show ((8 * (ceil8 (w * i) + j) - w * i : Nat) : Int) + 8 = ((8 * (ceil8 (w * i) + (j + 1)) - w * i : Nat) : Int) by omega,
        show T 8 (b.take (ceil8 (w * i) + j)).reverse % 2 ^ 56 * 2 ^ 8 + x = T 8 (b.take (ceil8 (w * i) + (j + 1))).reverse % 2 ^ 64 by rw [← Nat.add_assoc, est]; omega]
      exact hn2
    · have et : ceil8 (w * i) + (ceil8 (w * (i + 1)) - ceil8 (w * i)) = ceil8 (w * (i + 1)) := by omega
      simp only [P.bits_Digits_r8, toNat_cast]
      rw [et, br_neg (by omega), show ((8 * ceil8 (w * (i + 1)) - w * i : Nat) : Int) - (w : Int) = ((8 * ceil8 (w * (i + 1)) - w * (i + 1) : Nat) : Int) by omega,
        i64w (x := ((8 * ceil8 (w * (i + 1)) - w * (i + 1) : Nat) : Int)) (by omega) (by omega)]
      simp only [toNat_cast]
      have hq : T 8 (b.take (ceil8 (w * (i + 1)))).reverse % 2 ^ 64 / 2 ^ (8 * ceil8 (w * (i + 1)) - w * (i + 1)) < 18446744073709551616 := by
        have := Nat.div_le_self (T 8 (b.take (ceil8 (w * (i + 1)))).reverse % 2 ^ 64) (2 ^ (8 * ceil8 (w * (i + 1)) - w * (i + 1)))
        omega
      rw [fdiv_pow _ _ 64 (by omega), and_mask64 _ w hq (by omega), piece_mod _ _ _ _ (by omega)]
      have hw2 : 2 ^ w ≤ 2 ^ 24 := p2_le (by omega)
      have hmod := Nat.mod_lt (T 8 (b.take (ceil8 (w * (i + 1)))).reverse / 2 ^ (8 * ceil8 (w * (i + 1)) - w * (i + 1))) (p2 w)
      rw [u32n _ (by omega)]
      have ed : ((T 8 (b.take (ceil8 (w * (i + 1)))).reverse / 2 ^ (8 * ceil8 (w * (i + 1)) - w * (i + 1)) % 2 ^ w : Nat) : Int) = dg w b.length (T 8 b.reverse) i := by
        unfold dg
        rw [rev_take b _ (by omega), Nat.div_div_eq_div_mul, ← Nat.pow_add]
        congr 4; omega
      rw [ed]
      simp only [List.length_append, List.length_map, List.length_range, List.length_replicate]
      simp (disch := omega) only [br_pos, br_neg, br_bne_pos, br_bne_neg, br_beq_pos, br_beq_neg, br_not, br_tt, br_ff, i64w]
      rw [fill_step _ _ _ hi]
      exact hn'
  · simp only [P.bits_Digits_r6]
    rw [br_neg (by omega), Nat.sub_self]
    simp

theorem R01_Digits (b : List Int) (w c : Int) (hb : In 256 b) (hn : b.length ≤ 1000000) {ρ : Type} (k : List Int → Option ρ) : P.R01_Digits b w c k = k (digitsS b w c) := by
  rw [P.R01_Digits_eq]
  unfold P.R01_Digits_raw
  rw [R01_such b w c hn, br_not]
  unfold digitsS
  by_cases hs : Such b.length w c
  rotate_left
  · rw [decide_eq_false hs, br_ff, if_neg hs]
  rw [decide_eq_true hs, br_tt, if_pos hs]
  obtain ⟨h1, h2, h3, h4⟩ := hs
  obtain ⟨w, rfl⟩ := Int.eq_ofNat_of_zero_le (show 0 ≤ w by omega)
  obtain ⟨c, rfl⟩ := Int.eq_ofNat_of_zero_le h3
  have h4 : c * w ≤ b.length * 8 := by exact_mod_cast h4
  have hc : c ≤ c * w := Nat.le_mul_of_pos_right c (by omega)
  simp only [toNat_cast]
  rw [P.R01_Digits_l5_eq]
  unfold P.R01_Digits_L5
  refine lp_go (fun i => (b, (w : Int), (c : Int), (i : Int), (List.range i).map (dg w b.length (T 8 b.reverse)))) c (by simp) (fun i hi next hn' => ?_) (fun next => ?_) (by omega)
  · have hwi : w * (i + 1) = w * i + w := Nat.mul_succ w i
    have hwc : w * (i + 1) ≤ b.length * 8 := Nat.le_trans (Nat.mul_le_mul (Nat.le_refl w) hi) (by rw [Nat.mul_comm]; exact h4)
    simp only [P.R01_Digits_r5]
    rw [br_pos (by omega), P.R01_Digits_l9_eq]
    unfold P.R01_Digits_L9
    refine lp_go (fun j => (b, (w : Int), (c : Int), (i : Int), ((T 8 b.reverse / 2 ^ (8 * b.length - (w * i + j)) % 2 ^ j : Nat) : Int), (j : Int), (List.range i).map (dg w b.length (T 8 b.reverse)))) w (by simp [Nat.mod_one]) (fun j hj next2 hn2 => ?_) (fun next2 => ?_) (by omega)
    · obtain ⟨x, hx, hx2, hx3⟩ := byte_at hb ((w * i + j) / 8)
      simp only [P.R01_Digits_r9]
      rw [wmul i w (by omega), ← Int.natCast_add, i64w (x := ((w * i + j : Nat) : Int)) (by omega) (by omega), td8, tm8, i64w (x := (((w * i + j) / 8 : Nat) : Int)) (by omega) (by omega),
        show (7 : Int) - (((w * i + j) % 8 : Nat) : Int) = ((7 - (w * i + j) % 8 : Nat) : Int) by omega, i64w (x := ((7 - (w * i + j) % 8 : Nat) : Int)) (by omega) (by omega)]
      simp only [toNat_cast]
      have hv := Nat.mod_lt (T 8 b.reverse / 2 ^ (8 * b.length - (w * i + j))) (p2 j)
      have hv2 : 2 ^ j ≤ 2 ^ 24 := p2_le (by omega)
      rw [hx, bit_u8 x _ hx2 (by omega), bit_add _ _ (by omega) (by omega), hx3, rev_getD b _ (by omega)]
      have e := piece_piece (T 8 b.reverse) (8 * (b.length - 1 - (w * i + j) / 8)) 8 (7 - (w * i + j) % 8) 1 (by omega)
      rw [Nat.pow_one, show 8 * (b.length - 1 - (w * i + j) / 8) + (7 - (w * i + j) % 8) = 8 * b.length - (w * i + (j + 1)) by omega] at e
      rw [e, show 8 * b.length - (w * i + j) = 8 * b.length - (w * i + (j + 1)) + 1 by omega, bit_up]
      simp (disch := omega) only [br_pos, br_neg, br_bne_pos, br_bne_neg, br_beq_pos, br_beq_neg, br_not, br_tt, br_ff, i64w]
      exact hn2
    · simp only [P.R01_Digits_r9, List.length_map, List.length_range]
      simp (disch := omega) only [br_pos, br_neg, br_bne_pos, br_bne_neg, br_beq_pos, br_beq_neg, br_not, br_tt, br_ff, i64w]
      have ed : ((T 8 b.reverse / 2 ^ (8 * b.length - (w * i + w)) % 2 ^ w : Nat) : Int) = dg w b.length (T 8 b.reverse) i := by unfold dg; rw [hwi]
      rw [ed, range_map_step]
      exact hn'
  · simp only [P.R01_Digits_r5]
    rw [br_neg (by omega)]
end Q
end

section
open Go Go.Abs
set_option linter.unusedVariables false
namespace P
noncomputable def bits_Num_r3 {ρ : Type} (v3 : Int) (v6 : List Int) (v7 : Int) (v8 : Int) (nx : Int → (List Int) → Int → Int → Option ρ) (k0 : Int → (List Int) → Int → Int → Option ρ) : Option ρ :=
  br (decide (v8 < v7))
    (br (decide ((0 : Int) ≤ v8))
      (br (decide (v8 < (↑v6.length : Int)))
        (nx
          (bits BinOp.or IntKind.u64 (IntKind.u64.wrap (v3 * (2 : Int) ^ 8))
            (IntKind.u64.wrap (v6.getD v8.toNat (0 : Int))))
          v6 v7 (IntKind.i64.wrap (v8 + (1 : Int))))
        none)
      none)
    (k0 v3 v6 v7 v8)
noncomputable def bits_Num_L3 {ρ : Type} (v3 : Int) (v6 : List Int) (v7 : Int) (v8 : Int) (k0 : Int → (List Int) → Int → Int → Option ρ) : Option ρ :=
  lp (fun (x : Int × (List Int) × Int × Int) (next : (Int × (List Int) × Int × Int) → Option ρ) (ex : ((Int × (List Int) × Int × Int)) → Option ρ) => bits_Num_r3 x.1 x.2.1 x.2.2.1 x.2.2.2 (fun v3 v6 v7 v8 => next (v3, v6, v7, v8)) (fun v3 v6 v7 v8 => ex ((v3, v6, v7, v8)))) (v3, v6, v7, v8) (fun x => k0 x.1 x.2.1 x.2.2.1 x.2.2.2)
noncomputable def bits_Num_l3 {ρ : Type} (v3 : Int) (v6 : List Int) (v7 : Int) (v8 : Int) (k0 : Int → (List Int) → Int → Int → Option ρ) : Option ρ := shut (bits_Num_L3 (ρ := ρ)) v3 v6 v7 v8 k0
theorem bits_Num_l3_eq {ρ : Type} (v3 : Int) (v6 : List Int) (v7 : Int) (v8 : Int) (k0 : Int → (List Int) → Int → Int → Option ρ) : bits_Num_l3 v3 v6 v7 v8 k0 = bits_Num_L3 v3 v6 v7 v8 k0 := by unfold bits_Num_l3; rw [shut_eq]
noncomputable def bits_Num_raw {ρ : Type} (a0 : List Int) (k : Int → Option ρ) : Option ρ :=
  bits_Num_l3 (0 : Int) a0 (↑a0.length : Int) (0 : Int) fun (q0 : Int) (q1 : List Int) (q2 q3 : Int) => k q0
noncomputable def bits_Num {ρ : Type} (a0 : List Int) (k : Int → Option ρ) : Option ρ := shut (bits_Num_raw (ρ := ρ)) a0 k
theorem bits_Num_eq {ρ : Type} (a0 : List Int) (k : Int → Option ρ) : bits_Num a0 k = bits_Num_raw a0 k := by unfold bits_Num; rw [shut_eq]

end P
end

section
open Go Go.Abs
set_option linter.unusedVariables false
namespace P
noncomputable def bits_NumLe_r3 {ρ : Type} (v0 : List Int) (v3 : Int) (v7 : Int) (v8 : Int) (nx : (List Int) → Int → Int → Int → Option ρ) (k0 : (List Int) → Int → Int → Int → Option ρ) : Option ρ :=
  br (decide (v8 < v7))
    (br (decide ((0 : Int) ≤ v8))
      (br (decide (v8 < (↑v0.length : Int)))
        (br (decide (IntKind.i64.wrap ((8 : Int) * v8) < (0 : Int))) none
          (nx v0
            (bits BinOp.or IntKind.u64 v3
              (IntKind.u64.wrap
                (IntKind.u64.wrap (v0.getD v8.toNat (0 : Int)) *
                  (2 : Int) ^ min (IntKind.i64.wrap ((8 : Int) * v8)).toNat 64)))
            v7 (IntKind.i64.wrap (v8 + (1 : Int)))))
        none)
      none)
    (k0 v0 v3 v7 v8)
noncomputable def bits_NumLe_L3 {ρ : Type} (v0 : List Int) (v3 : Int) (v7 : Int) (v8 : Int) (k0 : (List Int) → Int → Int → Int → Option ρ) : Option ρ :=
  lp (fun (x : (List Int) × Int × Int × Int) (next : ((List Int) × Int × Int × Int) → Option ρ) (ex : (((List Int) × Int × Int × Int)) → Option ρ) => bits_NumLe_r3 x.1 x.2.1 x.2.2.1 x.2.2.2 (fun v0 v3 v7 v8 => next (v0, v3, v7, v8)) (fun v0 v3 v7 v8 => ex ((v0, v3, v7, v8)))) (v0, v3, v7, v8) (fun x => k0 x.1 x.2.1 x.2.2.1 x.2.2.2)
noncomputable def bits_NumLe_l3 {ρ : Type} (v0 : List Int) (v3 : Int) (v7 : Int) (v8 : Int) (k0 : (List Int) → Int → Int → Int → Option ρ) : Option ρ := shut (bits_NumLe_L3 (ρ := ρ)) v0 v3 v7 v8 k0
theorem bits_NumLe_l3_eq {ρ : Type} (v0 : List Int) (v3 : Int) (v7 : Int) (v8 : Int) (k0 : (List Int) → Int → Int → Int → Option ρ) : bits_NumLe_l3 v0 v3 v7 v8 k0 = bits_NumLe_L3 v0 v3 v7 v8 k0 := by unfold bits_NumLe_l3; rw [shut_eq]
noncomputable def bits_NumLe_raw {ρ : Type} (a0 : List Int) (k : Int → Option ρ) : Option ρ :=
  bits_NumLe_l3 a0 (0 : Int) (bif decide ((8 : Int) < (↑a0.length : Int)) then (8 : Int) else (↑a0.length : Int))
    (0 : Int) fun (q0 : List Int) (q1 q2 q3 : Int) => k q1
noncomputable def bits_NumLe {ρ : Type} (a0 : List Int) (k : Int → Option ρ) : Option ρ := shut (bits_NumLe_raw (ρ := ρ)) a0 k
theorem bits_NumLe_eq {ρ : Type} (a0 : List Int) (k : Int → Option ρ) : bits_NumLe a0 k = bits_NumLe_raw a0 k := by unfold bits_NumLe; rw [shut_eq]

end P
end
