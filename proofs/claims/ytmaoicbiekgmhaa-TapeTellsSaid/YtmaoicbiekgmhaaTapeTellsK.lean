/-
  TapeTells, part K: an interpreter of my own over abstract values, the pure functions, the walks and the plain law.
-/

import Derived.Test.YtmaoicbiekgmhaaTapeTellsJ
import Derived.Laws.Bits64
import Derived.Test.YtmaoicbiekgmhaaTapeTellsF
import Derived.Test.YtmaoicbiekgmhaaTapeTellsG

section
/- Small laws for the plain proofs. -/
namespace Q
open Go Go.Abs
set_option linter.unusedVariables false

/-- all from 0 up and below a bound -/
def In (m : Int) (l : List Int) : Prop := ∀ x, x ∈ l → 0 ≤ x ∧ x < m

theorem wf_u8 {n : Int} (h : wfI .u8 n) : 0 ≤ n ∧ n < 256 := by
  simp [wfI, Lit.wf, IntKind.min, IntKind.max, IntKind.signed, IntKind.bits] at h; omega
theorem wf_u32 {n : Int} (h : wfI .u32 n) : 0 ≤ n ∧ n < 4294967296 := by
  simp [wfI, Lit.wf, IntKind.min, IntKind.max, IntKind.signed, IntKind.bits] at h; omega
theorem wf_u64 {n : Int} (h : wfI .u64 n) : 0 ≤ n ∧ n < 18446744073709551616 := by
  simp [wfI, Lit.wf, IntKind.min, IntKind.max, IntKind.signed, IntKind.bits] at h; omega
theorem wf_i64 {n : Int} (h : wfI .i64 n) : -9223372036854775808 ≤ n ∧ n ≤ 9223372036854775807 := by
  simp [wfI, Lit.wf, IntKind.min, IntKind.max, IntKind.signed, IntKind.bits] at h; omega
theorem in_u8 {l : List Int} (h : ∀ x, x ∈ l → wfI .u8 x) : In 256 l := fun x hx => wf_u8 (h x hx)
theorem in_u32 {l : List Int} (h : ∀ x, x ∈ l → wfI .u32 x) : In 4294967296 l := fun x hx => wf_u32 (h x hx)
theorem in_u64 {l : List Int} (h : ∀ x, x ∈ l → wfI .u64 x) : In 18446744073709551616 l := fun x hx => wf_u64 (h x hx)

theorem In.tail {m x : Int} {l : List Int} (h : In m (x :: l)) : In m l := fun y hy => h y (List.mem_cons_of_mem _ hy)
theorem In.head {m x : Int} {l : List Int} (h : In m (x :: l)) : 0 ≤ x ∧ x < m := h x (List.mem_cons_self ..)
theorem In.app {m : Int} {l r : List Int} (h1 : In m l) (h2 : In m r) : In m (l ++ r) := fun y hy => (List.mem_append.1 hy).elim (h1 y) (h2 y)
theorem In.left {m : Int} {l r : List Int} (h : In m (l ++ r)) : In m l := fun y hy => h y (List.mem_append_left _ hy)
theorem In.right {m : Int} {l r : List Int} (h : In m (l ++ r)) : In m r := fun y hy => h y (List.mem_append_right _ hy)
theorem In.take {m : Int} {l : List Int} (h : In m l) (n : Nat) : In m (l.take n) := fun y hy => h y (List.mem_of_mem_take hy)
theorem In.drop {m : Int} {l : List Int} (h : In m l) (n : Nat) : In m (l.drop n) := fun y hy => h y (List.mem_of_mem_drop hy)
theorem In.nil {m : Int} : In m [] := fun y hy => by simp at hy
theorem In.rev {m : Int} {l : List Int} (h : In m l) : In m l.reverse := fun y hy => h y (by simpa using hy)
theorem In.getD {m : Int} {l : List Int} (h : In m l) (i : Nat) (hm : 0 < m) : 0 ≤ l.getD i 0 ∧ l.getD i 0 < m := by
  rw [List.getD_eq_getElem?_getD]
  by_cases hi : i < l.length
  · rw [List.getElem?_eq_getElem hi]; exact h _ (List.getElem_mem hi)
  · rw [List.getElem?_eq_none (by omega)]; exact ⟨Int.le_refl 0, hm⟩
theorem In.map {m : Int} {α : Type} {l : List α} {f : α → Int} (h : ∀ a, a ∈ l → 0 ≤ f a ∧ f a < m) : In m (l.map f) := fun y hy => by
  obtain ⟨a, ha, rfl⟩ := List.mem_map.1 hy
  exact h a ha

theorem br_bne_pos {α : Type} {a b : Int} (h : ¬ a = b) (x y : α) : br (a != b) x y = x := by rw [bne_iff_ne.2 h]; exact br_tt x y
theorem br_bne_neg {α : Type} {a b : Int} (h : a = b) (x y : α) : br (a != b) x y = y := by rw [bne_eq_false_iff_eq.2 h]; exact br_ff x y
theorem br_beq_pos {α : Type} {a b : Int} (h : a = b) (x y : α) : br (a == b) x y = x := by rw [beq_iff_eq.2 h]; exact br_tt x y
theorem br_beq_neg {α : Type} {a b : Int} (h : ¬ a = b) (x y : α) : br (a == b) x y = y := by rw [beq_eq_false_iff_ne.2 h]; exact br_ff x y
theorem br_not {α : Type} (b : Bool) (x y : α) : br (!b) x y = br b y x := by cases b <;> simp
theorem br_dec {α : Type} (p : Prop) [Decidable p] (x y : α) : br (decide p) x y = if p then x else y := by
  by_cases h : p
  · rw [br_pos h, if_pos h]
  · rw [br_neg h, if_neg h]
theorem br_same {α : Type} (b : Bool) (x : α) : br b x x = x := by cases b <;> simp

/-- A LOOP that goes up: its states by a number. -/
theorem lp_up {X Y ρ : Type} {stp : X → (X → Option ρ) → (Y → Option ρ) → Option ρ} {K : Y → Option ρ} {r : Option ρ} (S : Nat → X) (n : Nat)
    (hstep : ∀ i, i < n → ∀ next, next (S (i + 1)) = r → stp (S i) next K = r) (hend : ∀ next, stp (S n) next K = r) {i : Nat} (hi : i ≤ n) (hn : n ≤ 18446744073709551616) : lp stp (S i) K = r := by
  have key : ∀ m i, m + i = n → lpN stp K m (S i) = r ∧ ∀ q, m ≤ q → lpN stp K q (S i) = r := by
    intro m
    induction m with
    | zero =>
      intro i hi
      have : i = n := by omega
      subst this
      refine ⟨hend _, fun q _ => ?_⟩
      cases q with
      | zero => exact hend _
      | succ q => exact hend _
    | succ m ih =>
      intro i hi
      refine ⟨hstep i (by omega) _ (ih (i + 1) (by omega)).1, fun q hq => ?_⟩
      cases q with
      | zero => omega
      | succ q => exact hstep i (by omega) _ ((ih (i + 1) (by omega)).2 q (by omega))
  exact (key (n - i) i (by omega)).2 FU (by rw [FU_eq]; omega)

theorem getD_lt {α : Type} {l : List α} {d : α} {i : Nat} (h : i < l.length) : l.getD i d = l[i] := by
  rw [List.getD_eq_getElem?_getD, List.getElem?_eq_getElem h]; rfl
theorem getD_ge {α : Type} {l : List α} {d : α} {i : Nat} (h : l.length ≤ i) : l.getD i d = d := by
  rw [List.getD_eq_getElem?_getD, List.getElem?_eq_none h]; rfl
theorem toNat_cast (n : Nat) : ((n : Int)).toNat = n := Int.toNat_natCast n

/-- 'out[i] = f i', from the beginning on -/
theorem fill_step (f : Nat → Int) (i n : Nat) (h : i < n) (d : Int) : ((List.range i).map f ++ List.replicate (n - i) d).set i (f i) = (List.range (i + 1)).map f ++ List.replicate (n - (i + 1)) d := by
  rw [List.set_append_right _ _ (by simp), show n - i = (n - (i + 1)) + 1 by omega, List.replicate_succ]
  simp [List.range_succ]
theorem range_map_step {α : Type} (f : Nat → α) (i : Nat) : (List.range i).map f ++ [f i] = (List.range (i + 1)).map f := by simp [List.range_succ]
theorem take_step {α : Type} (l : List α) (d : α) (i : Nat) (h : i < l.length) : l.take i ++ [l.getD i d] = l.take (i + 1) := by
  rw [getD_lt h, List.take_add_one, List.getElem?_eq_getElem h]; rfl
theorem drop_step {α : Type} (l : List α) (d : α) (i : Nat) (h : i < l.length) : l.drop i = l.getD i d :: l.drop (i + 1) := by
  rw [getD_lt h]; exact List.drop_eq_getElem_cons h
end Q
end

section
open Go Go.Abs
set_option linter.unusedVariables false
namespace P
noncomputable def R01_SameNums_r4 {ρ : Type} (v0 : List Int) (v1 : List Int) (v5 : Int) (nx : (List Int) → (List Int) → Int → Option ρ) (k0 : (List Int) → (List Int) → Int → Option ρ) (k1 : Bool → Option ρ) : Option ρ :=
  br (decide (v5 < (↑v0.length : Int)))
    (br (decide ((0 : Int) ≤ v5))
      (br (decide (v5 < (↑v0.length : Int)))
        (br (decide ((0 : Int) ≤ v5))
          (br (decide (v5 < (↑v1.length : Int)))
            (br (v0.getD v5.toNat (0 : Int) != v1.getD v5.toNat (0 : Int)) (k1 false)
              (nx v0 v1 (IntKind.i64.wrap (v5 + (1 : Int)))))
            none)
          none)
        none)
      none)
    (k0 v0 v1 v5)
noncomputable def R01_SameNums_L4 {ρ : Type} (v0 : List Int) (v1 : List Int) (v5 : Int) (k0 : (List Int) → (List Int) → Int → Option ρ) (k1 : Bool → Option ρ) : Option ρ :=
  lp (fun (x : (List Int) × (List Int) × Int) (next : ((List Int) × (List Int) × Int) → Option ρ) (ex : (((List Int) × (List Int) × Int) ⊕ ((Bool))) → Option ρ) => R01_SameNums_r4 x.1 x.2.1 x.2.2 (fun v0 v1 v5 => next (v0, v1, v5)) (fun v0 v1 v5 => ex (.inl (v0, v1, v5))) (fun v4 => ex (.inr v4))) (v0, v1, v5) (Sum.elim (fun x => k0 x.1 x.2.1 x.2.2) (fun x => k1 x))
noncomputable def R01_SameNums_l4 {ρ : Type} (v0 : List Int) (v1 : List Int) (v5 : Int) (k0 : (List Int) → (List Int) → Int → Option ρ) (k1 : Bool → Option ρ) : Option ρ := shut (R01_SameNums_L4 (ρ := ρ)) v0 v1 v5 k0 k1
theorem R01_SameNums_l4_eq {ρ : Type} (v0 : List Int) (v1 : List Int) (v5 : Int) (k0 : (List Int) → (List Int) → Int → Option ρ) (k1 : Bool → Option ρ) : R01_SameNums_l4 v0 v1 v5 k0 k1 = R01_SameNums_L4 v0 v1 v5 k0 k1 := by unfold R01_SameNums_l4; rw [shut_eq]
noncomputable def R01_SameNums_raw {ρ : Type} (a0 : List Int) (a1 : List Int) (k : Bool → Option ρ) : Option ρ :=
  br ((↑a0.length : Int) != (↑a1.length : Int)) (k false)
    (R01_SameNums_l4 a0 a1 (0 : Int) (fun (q0 q1 : List Int) (q2 : Int) => k true) fun (q3 : Bool) => k q3)
noncomputable def R01_SameNums {ρ : Type} (a0 : List Int) (a1 : List Int) (k : Bool → Option ρ) : Option ρ := shut (R01_SameNums_raw (ρ := ρ)) a0 a1 k
theorem R01_SameNums_eq {ρ : Type} (a0 : List Int) (a1 : List Int) (k : Bool → Option ρ) : R01_SameNums a0 a1 k = R01_SameNums_raw a0 a1 k := by unfold R01_SameNums; rw [shut_eq]

end P
end

section
open Go Go.Abs
set_option linter.unusedVariables false
namespace P
noncomputable def R01_Xor_r3 {ρ : Type} (v0 : List Int) (v1 : List Int) (v6 : Int) (h0 : List Int) (nx : (List Int) → (List Int) → Int → (List Int) → Option ρ) (k0 : (List Int) → (List Int) → Int → (List Int) → Option ρ) : Option ρ :=
  br (decide (v6 < (↑v0.length : Int)))
    (br (decide (v6 < (↑v1.length : Int)))
      (br (decide ((0 : Int) ≤ v6))
        (br (decide (v6 < (↑v0.length : Int)))
          (br (decide ((0 : Int) ≤ v6))
            (br (decide (v6 < (↑v1.length : Int)))
              (br
                (decide
                  ((h0.length + 1) * 1 ≤
                    140737488355328))
                (nx v0 v1 (IntKind.i64.wrap (v6 + (1 : Int)))
                  (h0 ++ [bits BinOp.xor IntKind.u8 (v0.getD v6.toNat (0 : Int)) (v1.getD v6.toNat (0 : Int))]))
                none)
              none)
            none)
          none)
        none)
      (k0 v0 v1 v6 h0))
    (k0 v0 v1 v6 h0)
noncomputable def R01_Xor_L3 {ρ : Type} (v0 : List Int) (v1 : List Int) (v6 : Int) (h0 : List Int) (k0 : (List Int) → (List Int) → Int → (List Int) → Option ρ) : Option ρ :=
  lp (fun (x : (List Int) × (List Int) × Int × (List Int)) (next : ((List Int) × (List Int) × Int × (List Int)) → Option ρ) (ex : (((List Int) × (List Int) × Int × (List Int))) → Option ρ) => R01_Xor_r3 x.1 x.2.1 x.2.2.1 x.2.2.2 (fun v0 v1 v6 h0 => next (v0, v1, v6, h0)) (fun v0 v1 v6 h0 => ex ((v0, v1, v6, h0)))) (v0, v1, v6, h0) (fun x => k0 x.1 x.2.1 x.2.2.1 x.2.2.2)
noncomputable def R01_Xor_l3 {ρ : Type} (v0 : List Int) (v1 : List Int) (v6 : Int) (h0 : List Int) (k0 : (List Int) → (List Int) → Int → (List Int) → Option ρ) : Option ρ := shut (R01_Xor_L3 (ρ := ρ)) v0 v1 v6 h0 k0
theorem R01_Xor_l3_eq {ρ : Type} (v0 : List Int) (v1 : List Int) (v6 : Int) (h0 : List Int) (k0 : (List Int) → (List Int) → Int → (List Int) → Option ρ) : R01_Xor_l3 v0 v1 v6 h0 k0 = R01_Xor_L3 v0 v1 v6 h0 k0 := by unfold R01_Xor_l3; rw [shut_eq]
noncomputable def R01_Xor_raw {ρ : Type} (a0 : List Int) (a1 : List Int) (k : (List Int) → Option ρ) : Option ρ :=
  R01_Xor_l3 a0 a1 (0 : Int) [] fun (q0 q1 : List Int) (q2 : Int) (q3 : List Int) => k q3
noncomputable def R01_Xor {ρ : Type} (a0 : List Int) (a1 : List Int) (k : (List Int) → Option ρ) : Option ρ := shut (R01_Xor_raw (ρ := ρ)) a0 a1 k
theorem R01_Xor_eq {ρ : Type} (a0 : List Int) (a1 : List Int) (k : (List Int) → Option ρ) : R01_Xor a0 a1 k = R01_Xor_raw a0 a1 k := by unfold R01_Xor; rw [shut_eq]

end P
end

section
open Go Go.Abs
set_option linter.unusedVariables false
namespace P
noncomputable def R01_Join_r3 {ρ : Type} (v0 : List (List Int)) (v4 : Int) (h0 : List Int) (nx : (List (List Int)) → Int → (List Int) → Option ρ) (k0 : (List (List Int)) → Int → (List Int) → Option ρ) : Option ρ :=
  br (decide (v4 < (↑v0.length : Int)))
    (br (decide ((0 : Int) ≤ v4))
      (br (decide (v4 < (↑v0.length : Int)))
        (br
          (decide
            ((h0.length + (v0.getD v4.toNat []).length) *
                1 ≤
              140737488355328))
          (nx v0 (IntKind.i64.wrap (v4 + (1 : Int))) (h0 ++ v0.getD v4.toNat [])) none)
        none)
      none)
    (k0 v0 v4 h0)
noncomputable def R01_Join_L3 {ρ : Type} (v0 : List (List Int)) (v4 : Int) (h0 : List Int) (k0 : (List (List Int)) → Int → (List Int) → Option ρ) : Option ρ :=
  lp (fun (x : (List (List Int)) × Int × (List Int)) (next : ((List (List Int)) × Int × (List Int)) → Option ρ) (ex : (((List (List Int)) × Int × (List Int))) → Option ρ) => R01_Join_r3 x.1 x.2.1 x.2.2 (fun v0 v4 h0 => next (v0, v4, h0)) (fun v0 v4 h0 => ex ((v0, v4, h0)))) (v0, v4, h0) (fun x => k0 x.1 x.2.1 x.2.2)
noncomputable def R01_Join_l3 {ρ : Type} (v0 : List (List Int)) (v4 : Int) (h0 : List Int) (k0 : (List (List Int)) → Int → (List Int) → Option ρ) : Option ρ := shut (R01_Join_L3 (ρ := ρ)) v0 v4 h0 k0
theorem R01_Join_l3_eq {ρ : Type} (v0 : List (List Int)) (v4 : Int) (h0 : List Int) (k0 : (List (List Int)) → Int → (List Int) → Option ρ) : R01_Join_l3 v0 v4 h0 k0 = R01_Join_L3 v0 v4 h0 k0 := by unfold R01_Join_l3; rw [shut_eq]
noncomputable def R01_Join_raw {ρ : Type} (a0 : List (List Int)) (k : (List Int) → Option ρ) : Option ρ :=
  R01_Join_l3 a0 (0 : Int) [] fun (q0 : List (List Int)) (q1 : Int) (q2 : List Int) => k q2
noncomputable def R01_Join {ρ : Type} (a0 : List (List Int)) (k : (List Int) → Option ρ) : Option ρ := shut (R01_Join_raw (ρ := ρ)) a0 k
theorem R01_Join_eq {ρ : Type} (a0 : List (List Int)) (k : (List Int) → Option ρ) : R01_Join a0 k = R01_Join_raw a0 k := by unfold R01_Join; rw [shut_eq]

end P
end

section
open Go Go.Abs
set_option linter.unusedVariables false
namespace P
noncomputable def bits_Xor_r3 {ρ : Type} (v1 : List Int) (v16 : Int) (v17 : Int) (h0 : List Int) (nx : (List Int) → Int → Int → (List Int) → Option ρ) (k0 : (List Int) → Int → Int → (List Int) → Option ρ) : Option ρ :=
  br (decide (v17 < v16))
    (br (decide ((0 : Int) ≤ v17))
      (br (decide (v17 < (↑h0.length : Int)))
        (br (decide ((0 : Int) ≤ v17))
          (br (decide (v17 < (↑v1.length : Int)))
            (br (decide ((0 : Int) ≤ v17))
              (br (decide (v17 < (↑h0.length : Int)))
                (nx v1 v16 (IntKind.i64.wrap (v17 + (1 : Int)))
                  (h0.set v17.toNat
                    (bits BinOp.xor IntKind.u8 (h0.getD v17.toNat (0 : Int)) (v1.getD v17.toNat (0 : Int)))))
                none)
              none)
            none)
          none)
        none)
      none)
    (k0 v1 v16 v17 h0)
noncomputable def bits_Xor_L3 {ρ : Type} (v1 : List Int) (v16 : Int) (v17 : Int) (h0 : List Int) (k0 : (List Int) → Int → Int → (List Int) → Option ρ) : Option ρ :=
  lp (fun (x : (List Int) × Int × Int × (List Int)) (next : ((List Int) × Int × Int × (List Int)) → Option ρ) (ex : (((List Int) × Int × Int × (List Int))) → Option ρ) => bits_Xor_r3 x.1 x.2.1 x.2.2.1 x.2.2.2 (fun v1 v16 v17 h0 => next (v1, v16, v17, h0)) (fun v1 v16 v17 h0 => ex ((v1, v16, v17, h0)))) (v1, v16, v17, h0) (fun x => k0 x.1 x.2.1 x.2.2.1 x.2.2.2)
noncomputable def bits_Xor_l3 {ρ : Type} (v1 : List Int) (v16 : Int) (v17 : Int) (h0 : List Int) (k0 : (List Int) → Int → Int → (List Int) → Option ρ) : Option ρ := shut (bits_Xor_L3 (ρ := ρ)) v1 v16 v17 h0 k0
theorem bits_Xor_l3_eq {ρ : Type} (v1 : List Int) (v16 : Int) (v17 : Int) (h0 : List Int) (k0 : (List Int) → Int → Int → (List Int) → Option ρ) : bits_Xor_l3 v1 v16 v17 h0 k0 = bits_Xor_L3 v1 v16 v17 h0 k0 := by unfold bits_Xor_l3; rw [shut_eq]
noncomputable def bits_Xor_raw {ρ : Type} (a0 : List Int) (a1 : List Int) (k : (List Int) → Option ρ) : Option ρ :=
  br
    (decide
      ((0 : Int) ≤ bif decide ((↑a1.length : Int) < (↑a0.length : Int)) then (↑a1.length : Int) else (↑a0.length : Int)))
    (br
      (decide
        ((bif decide ((↑a1.length : Int) < (↑a0.length : Int)) then (↑a1.length : Int) else (↑a0.length : Int)) ≤
          (↑a0.length : Int)))
      (slices_Clone_byte
        (List.drop 0
          (List.take
            (bif decide ((↑a1.length : Int) < (↑a0.length : Int)) then (↑a1.length : Int) else (↑a0.length : Int)).toNat
            a0))
        fun (q0 : List Int) =>
        bits_Xor_l3 a1 (↑q0.length : Int) (0 : Int) q0 fun (q1 : List Int) (q2 q3 : Int) (q4 : List Int) => k q4)
      none)
    none
noncomputable def bits_Xor {ρ : Type} (a0 : List Int) (a1 : List Int) (k : (List Int) → Option ρ) : Option ρ := shut (bits_Xor_raw (ρ := ρ)) a0 a1 k
theorem bits_Xor_eq {ρ : Type} (a0 : List Int) (a1 : List Int) (k : (List Int) → Option ρ) : bits_Xor a0 a1 k = bits_Xor_raw a0 a1 k := by unfold bits_Xor; rw [shut_eq]

end P
end

section
open Go Go.Abs
set_option linter.unusedVariables false
namespace P
noncomputable def bits_Same_r5 {ρ : Type} (v0 : List Int) (v1 : List Int) (v5 : Int) (v13 : Int) (v14 : Int) (nx : (List Int) → (List Int) → Int → Int → Int → Option ρ) (k0 : (List Int) → (List Int) → Int → Int → Int → Option ρ) : Option ρ :=
  br (decide (v14 < v13))
    (br (decide ((0 : Int) ≤ v14))
      (br (decide (v14 < (↑v0.length : Int)))
        (br (decide ((0 : Int) ≤ v14))
          (br (decide (v14 < (↑v1.length : Int)))
            (nx v0 v1
              (bits BinOp.or IntKind.u8 v5
                (bits BinOp.xor IntKind.u8 (v0.getD v14.toNat (0 : Int)) (v1.getD v14.toNat (0 : Int))))
              v13 (IntKind.i64.wrap (v14 + (1 : Int))))
            none)
          none)
        none)
      none)
    (k0 v0 v1 v5 v13 v14)
noncomputable def bits_Same_L5 {ρ : Type} (v0 : List Int) (v1 : List Int) (v5 : Int) (v13 : Int) (v14 : Int) (k0 : (List Int) → (List Int) → Int → Int → Int → Option ρ) : Option ρ :=
  lp (fun (x : (List Int) × (List Int) × Int × Int × Int) (next : ((List Int) × (List Int) × Int × Int × Int) → Option ρ) (ex : (((List Int) × (List Int) × Int × Int × Int)) → Option ρ) => bits_Same_r5 x.1 x.2.1 x.2.2.1 x.2.2.2.1 x.2.2.2.2 (fun v0 v1 v5 v13 v14 => next (v0, v1, v5, v13, v14)) (fun v0 v1 v5 v13 v14 => ex ((v0, v1, v5, v13, v14)))) (v0, v1, v5, v13, v14) (fun x => k0 x.1 x.2.1 x.2.2.1 x.2.2.2.1 x.2.2.2.2)
noncomputable def bits_Same_l5 {ρ : Type} (v0 : List Int) (v1 : List Int) (v5 : Int) (v13 : Int) (v14 : Int) (k0 : (List Int) → (List Int) → Int → Int → Int → Option ρ) : Option ρ := shut (bits_Same_L5 (ρ := ρ)) v0 v1 v5 v13 v14 k0
theorem bits_Same_l5_eq {ρ : Type} (v0 : List Int) (v1 : List Int) (v5 : Int) (v13 : Int) (v14 : Int) (k0 : (List Int) → (List Int) → Int → Int → Int → Option ρ) : bits_Same_l5 v0 v1 v5 v13 v14 k0 = bits_Same_L5 v0 v1 v5 v13 v14 k0 := by unfold bits_Same_l5; rw [shut_eq]
noncomputable def bits_Same_raw {ρ : Type} (a0 : List Int) (a1 : List Int) (k : Bool → Option ρ) : Option ρ :=
  br ((↑a0.length : Int) != (↑a1.length : Int)) (k false)
    (bits_Same_l5 a0 a1 (0 : Int) (↑a0.length : Int) (0 : Int) fun (q0 q1 : List Int) (q2 q3 q4 : Int) =>
      k (q2 == (0 : Int)))
noncomputable def bits_Same {ρ : Type} (a0 : List Int) (a1 : List Int) (k : Bool → Option ρ) : Option ρ := shut (bits_Same_raw (ρ := ρ)) a0 a1 k
theorem bits_Same_eq {ρ : Type} (a0 : List Int) (a1 : List Int) (k : Bool → Option ρ) : bits_Same a0 a1 k = bits_Same_raw a0 a1 k := by unfold bits_Same; rw [shut_eq]

end P
end

section
open Go Go.Abs
set_option linter.unusedVariables false
namespace P
noncomputable def slices_Grow_byte_raw {ρ : Type} (a1 : Int) (k : (List Int) → Option ρ) : Option ρ :=
  br (decide (a1 < (0 : Int))) none
    (br (decide (IntKind.i64.wrap (a1 - IntKind.i64.wrap ((0 : Int) - (↑0 : Int))) > (0 : Int)))
      (br (decide ((0 : Int) ≤ IntKind.i64.wrap (a1 - IntKind.i64.wrap ((0 : Int) - (↑0 : Int)))))
        (br
          (decide
            ((IntKind.i64.wrap (a1 - IntKind.i64.wrap ((0 : Int) - (↑0 : Int)))).toNat *
                1 ≤
              140737488355328))
          (k
            (List.take ((↑0 : Int) - (0 : Int)).toNat
              (List.replicate (IntKind.i64.wrap (a1 - IntKind.i64.wrap ((0 : Int) - (↑0 : Int)))).toNat
                (0 : Int))))
          none)
        none)
      (k []))
noncomputable def slices_Grow_byte {ρ : Type} (a1 : Int) (k : (List Int) → Option ρ) : Option ρ := shut (slices_Grow_byte_raw (ρ := ρ)) a1 k
theorem slices_Grow_byte_eq {ρ : Type} (a1 : Int) (k : (List Int) → Option ρ) : slices_Grow_byte a1 k = slices_Grow_byte_raw a1 k := by unfold slices_Grow_byte; rw [shut_eq]

end P
end

section
open Go Go.Abs
set_option linter.unusedVariables false
namespace P
noncomputable def slices_Concat_byte_r3 {ρ : Type} (v0 : List (List Int)) (v3 : Int) (v9 : List (List Int)) (v10 : Int) (v11 : Int) (nx : (List (List Int)) → Int → (List (List Int)) → Int → Int → Option ρ) (k0 : (List (List Int)) → Int → (List (List Int)) → Int → Int → Option ρ) : Option ρ :=
  br (decide (v11 < v10))
    (br (decide ((0 : Int) ≤ v11))
      (br (decide (v11 < (↑v9.length : Int)))
        (br (decide (IntKind.i64.wrap (v3 + (↑(v9.getD v11.toNat []).length : Int)) < (0 : Int))) none
          (nx v0 (IntKind.i64.wrap (v3 + (↑(v9.getD v11.toNat []).length : Int))) v9 v10
            (IntKind.i64.wrap (v11 + (1 : Int)))))
        none)
      none)
    (k0 v0 v3 v9 v10 v11)
noncomputable def slices_Concat_byte_L3 {ρ : Type} (v0 : List (List Int)) (v3 : Int) (v9 : List (List Int)) (v10 : Int) (v11 : Int) (k0 : (List (List Int)) → Int → (List (List Int)) → Int → Int → Option ρ) : Option ρ :=
  lp (fun (x : (List (List Int)) × Int × (List (List Int)) × Int × Int) (next : ((List (List Int)) × Int × (List (List Int)) × Int × Int) → Option ρ) (ex : (((List (List Int)) × Int × (List (List Int)) × Int × Int)) → Option ρ) => slices_Concat_byte_r3 x.1 x.2.1 x.2.2.1 x.2.2.2.1 x.2.2.2.2 (fun v0 v3 v9 v10 v11 => next (v0, v3, v9, v10, v11)) (fun v0 v3 v9 v10 v11 => ex ((v0, v3, v9, v10, v11)))) (v0, v3, v9, v10, v11) (fun x => k0 x.1 x.2.1 x.2.2.1 x.2.2.2.1 x.2.2.2.2)
noncomputable def slices_Concat_byte_l3 {ρ : Type} (v0 : List (List Int)) (v3 : Int) (v9 : List (List Int)) (v10 : Int) (v11 : Int) (k0 : (List (List Int)) → Int → (List (List Int)) → Int → Int → Option ρ) : Option ρ := shut (slices_Concat_byte_L3 (ρ := ρ)) v0 v3 v9 v10 v11 k0
theorem slices_Concat_byte_l3_eq {ρ : Type} (v0 : List (List Int)) (v3 : Int) (v9 : List (List Int)) (v10 : Int) (v11 : Int) (k0 : (List (List Int)) → Int → (List (List Int)) → Int → Int → Option ρ) : slices_Concat_byte_l3 v0 v3 v9 v10 v11 k0 = slices_Concat_byte_L3 v0 v3 v9 v10 v11 k0 := by unfold slices_Concat_byte_l3; rw [shut_eq]
noncomputable def slices_Concat_byte_r11 {ρ : Type} (v25 : List (List Int)) (v26 : Int) (v27 : Int) (h1 : List Int) (nx : (List (List Int)) → Int → Int → (List Int) → Option ρ) (k0 : (List (List Int)) → Int → Int → (List Int) → Option ρ) : Option ρ :=
  br (decide (v27 < v26))
    (br (decide ((0 : Int) ≤ v27))
      (br (decide (v27 < (↑v25.length : Int)))
        (br
          (decide
            ((h1.length + (v25.getD v27.toNat []).length) *
                1 ≤
              140737488355328))
          (nx v25 v26 (IntKind.i64.wrap (v27 + (1 : Int))) (h1 ++ v25.getD v27.toNat [])) none)
        none)
      none)
    (k0 v25 v26 v27 h1)
noncomputable def slices_Concat_byte_L11 {ρ : Type} (v25 : List (List Int)) (v26 : Int) (v27 : Int) (h1 : List Int) (k0 : (List (List Int)) → Int → Int → (List Int) → Option ρ) : Option ρ :=
  lp (fun (x : (List (List Int)) × Int × Int × (List Int)) (next : ((List (List Int)) × Int × Int × (List Int)) → Option ρ) (ex : (((List (List Int)) × Int × Int × (List Int))) → Option ρ) => slices_Concat_byte_r11 x.1 x.2.1 x.2.2.1 x.2.2.2 (fun v25 v26 v27 h1 => next (v25, v26, v27, h1)) (fun v25 v26 v27 h1 => ex ((v25, v26, v27, h1)))) (v25, v26, v27, h1) (fun x => k0 x.1 x.2.1 x.2.2.1 x.2.2.2)
noncomputable def slices_Concat_byte_l11 {ρ : Type} (v25 : List (List Int)) (v26 : Int) (v27 : Int) (h1 : List Int) (k0 : (List (List Int)) → Int → Int → (List Int) → Option ρ) : Option ρ := shut (slices_Concat_byte_L11 (ρ := ρ)) v25 v26 v27 h1 k0
theorem slices_Concat_byte_l11_eq {ρ : Type} (v25 : List (List Int)) (v26 : Int) (v27 : Int) (h1 : List Int) (k0 : (List (List Int)) → Int → Int → (List Int) → Option ρ) : slices_Concat_byte_l11 v25 v26 v27 h1 k0 = slices_Concat_byte_L11 v25 v26 v27 h1 k0 := by unfold slices_Concat_byte_l11; rw [shut_eq]
noncomputable def slices_Concat_byte_raw {ρ : Type} (a0 : List (List Int)) (k : (List Int) → Option ρ) : Option ρ :=
  slices_Concat_byte_l3 a0 (0 : Int) a0 (↑a0.length : Int) (0 : Int)
    fun (q0 : List (List Int)) (q1 : Int) (q2 : List (List Int)) (q3 q4 : Int) =>
    slices_Grow_byte q1 fun (q5 : List Int) =>
      slices_Concat_byte_l11 q0 (↑q0.length : Int) (0 : Int) q5
        fun (q6 : List (List Int)) (q7 q8 : Int) (q9 : List Int) => k q9
noncomputable def slices_Concat_byte {ρ : Type} (a0 : List (List Int)) (k : (List Int) → Option ρ) : Option ρ := shut (slices_Concat_byte_raw (ρ := ρ)) a0 k
theorem slices_Concat_byte_eq {ρ : Type} (a0 : List (List Int)) (k : (List Int) → Option ρ) : slices_Concat_byte a0 k = slices_Concat_byte_raw a0 k := by unfold slices_Concat_byte; rw [shut_eq]

end P
end

section
open Go Go.Abs
set_option linter.unusedVariables false
namespace P
noncomputable def bits_Join_raw {ρ : Type} (a0 : List (List Int)) (k : (List Int) → Option ρ) : Option ρ :=
  slices_Concat_byte a0 fun (q0 : List Int) => k q0
noncomputable def bits_Join {ρ : Type} (a0 : List (List Int)) (k : (List Int) → Option ρ) : Option ρ := shut (bits_Join_raw (ρ := ρ)) a0 k
theorem bits_Join_eq {ρ : Type} (a0 : List (List Int)) (k : (List Int) → Option ρ) : bits_Join a0 k = bits_Join_raw a0 k := by unfold bits_Join; rw [shut_eq]

end P
end

section
/- bits, the first part: texts. -/
namespace Q
open Go Go.Abs
set_option linter.unusedVariables false
set_option linter.unusedSimpArgs false

theorem same_loop {a b : List Int} (hl : a.length = b.length) (hs : a.length ≤ 140737488355328) {ρ : Type} (k0 : List Int → List Int → Int → Option ρ) (k1 : Bool → Option ρ) :
    ∀ (m i : Nat), i + m = a.length → ∀ {stp : (List Int × List Int × Int) → ((List Int × List Int × Int) → Option ρ) → ((List Int × List Int × Int) ⊕ Bool → Option ρ) → Option ρ} {K : (List Int × List Int × Int) ⊕ Bool → Option ρ},
      (∀ (j : Nat) next, stp (a, b, (j : Int)) next K = br (decide ((j : Int) < (a.length : Int))) (br (a.getD j 0 != b.getD j 0) (k1 false) (next (a, b, ((j + 1 : Nat) : Int)))) (k0 a b (j : Int))) →
      lp stp (a, b, (i : Int)) K = if a.drop i = b.drop i then k0 a b (a.length : Int) else k1 false := by
  intro m i hm stp K hst
  refine lp_eq (P := fun x => ∃ j : Nat, x = (a, b, (j : Int)) ∧ j ≤ a.length ∧ (if a.drop j = b.drop j then k0 a b (a.length : Int) else k1 false) = (if a.drop i = b.drop i then k0 a b (a.length : Int) else k1 false)) (μ := fun x => ((a.length : Int) - x.2.2).toNat) ?_ ⟨i, rfl, by omega, rfl⟩ (by simp only; omega)
  rintro _ ⟨j, rfl, hj, he⟩ next hn
  rw [hst, ← he]
  by_cases hji : j < a.length
  · rw [br_pos (by omega), drop_step a 0 j hji, drop_step b 0 j (by omega)]
    by_cases hab : a.getD j 0 = b.getD j 0
    · rw [br_bne_neg hab, hn _ ⟨j + 1, rfl, by omega, ?_⟩ (by simp only; omega), ← he, drop_step a 0 j hji, drop_step b 0 j (by omega)]
      · rw [← he, drop_step a 0 j hji, drop_step b 0 j (by omega)]
        simp only [hab, List.cons.injEq, true_and]
    · rw [br_bne_pos hab, if_neg (by simp only [List.cons.injEq]; exact fun h => hab h.1)]
  · have : j = a.length := by omega
    subst this
    rw [br_neg (by omega), if_pos (by rw [List.drop_eq_nil_of_le (Nat.le_refl _), List.drop_eq_nil_of_le (by omega)])]

theorem R01_Same (a b : List Int) (h : a.length ≤ 140737488355328) {ρ : Type} (k : Bool → Option ρ) : P.R01_Same a b k = k (decide (a = b)) := by
  rw [P.R01_Same_eq]
  unfold P.R01_Same_raw
  by_cases hl : a.length = b.length
  · rw [br_bne_neg (by omega), P.R01_Same_l4_eq]
    unfold P.R01_Same_L4
    have := same_loop hl h (fun _ _ _ => k true) k a.length 0 (by omega) (stp := (fun x next ex => P.R01_Same_r4 x.1 x.2.1 x.2.2 (fun v0 v1 v5 => next (v0, v1, v5)) (fun v0 v1 v5 => ex (.inl (v0, v1, v5))) (fun v4 => ex (.inr v4)))) (K := Sum.elim (fun _ => k true) k) (by
      intro j next
      simp only [P.R01_Same_r4, Sum.elim_inl, Sum.elim_inr]
      by_cases hj : (j : Int) < (a.length : Int)
      · simp only [br_pos hj]
        simp (disch := omega) only [br_pos, br_neg, br_bne_pos, br_bne_neg, br_beq_pos, br_beq_neg, br_not, br_tt, br_ff, i64w, toNat_cast]
        rfl
      · simp only [br_neg hj])
    simp only [List.drop_zero] at this
    refine this.trans ?_
    by_cases hab : a = b
    · rw [if_pos hab, decide_eq_true hab]
    · rw [if_neg hab, decide_eq_false hab]
  · rw [br_bne_pos (by omega), decide_eq_false (fun e => hl (by rw [e]))]

theorem R01_SameNums (a b : List Int) (h : a.length ≤ 140737488355328) {ρ : Type} (k : Bool → Option ρ) : P.R01_SameNums a b k = k (decide (a = b)) := by
  rw [P.R01_SameNums_eq]
  unfold P.R01_SameNums_raw
  by_cases hl : a.length = b.length
  · rw [br_bne_neg (by omega), P.R01_SameNums_l4_eq]
    unfold P.R01_SameNums_L4
    have := same_loop hl h (fun _ _ _ => k true) k a.length 0 (by omega) (stp := (fun x next ex => P.R01_SameNums_r4 x.1 x.2.1 x.2.2 (fun v0 v1 v5 => next (v0, v1, v5)) (fun v0 v1 v5 => ex (.inl (v0, v1, v5))) (fun v4 => ex (.inr v4)))) (K := Sum.elim (fun _ => k true) k) (by
      intro j next
      simp only [P.R01_SameNums_r4, Sum.elim_inl, Sum.elim_inr]
      by_cases hj : (j : Int) < (a.length : Int)
      · simp only [br_pos hj]
        simp (disch := omega) only [br_pos, br_neg, br_bne_pos, br_bne_neg, br_beq_pos, br_beq_neg, br_not, br_tt, br_ff, i64w, toNat_cast]
        rfl
      · simp only [br_neg hj])
    simp only [List.drop_zero] at this
    refine this.trans ?_
    by_cases hab : a = b
    · rw [if_pos hab, decide_eq_true hab]
    · rw [if_neg hab, decide_eq_false hab]
  · rw [br_bne_pos (by omega), decide_eq_false (fun e => hl (by rw [e]))]

/-- two texts xored -/
def xorS (a b : List Int) : List Int := (List.range (min a.length b.length)).map fun i => bits .xor .u8 (a.getD i 0) (b.getD i 0)

theorem R01_Xor (a b : List Int) (h : a.length ≤ 140737488355327) (h2 : b.length ≤ 140737488355327) {ρ : Type} (k : List Int → Option ρ) : P.R01_Xor a b k = k (xorS a b) := by
  rw [P.R01_Xor_eq]
  unfold P.R01_Xor_raw
  rw [P.R01_Xor_l3_eq]
  unfold P.R01_Xor_L3
  refine lp_up (fun i => (a, b, (i : Int), (List.range i).map fun i => bits .xor .u8 (a.getD i 0) (b.getD i 0))) (min a.length b.length) (fun i hi next hn => ?_) (fun next => ?_) (Nat.zero_le _) (by omega)
  · simp only [P.R01_Xor_r3, List.length_map, List.length_range, toNat_cast]
    simp (disch := omega) only [br_pos, br_neg, br_bne_pos, br_bne_neg, br_beq_pos, br_beq_neg, br_not, br_tt, br_ff, i64w]
    rw [range_map_step (fun i => bits .xor .u8 (a.getD i 0) (b.getD i 0))]
    exact hn
  · simp only [P.R01_Xor_r3, List.length_map, List.length_range, toNat_cast]
    by_cases hm : a.length ≤ b.length
    · rw [br_neg (by omega)]; rfl
    · rw [br_pos (by omega), br_neg (by omega)]; rfl

theorem bits_Xor (a b : List Int) (h : a.length ≤ 140737488355327) (h2 : b.length ≤ 140737488355327) {ρ : Type} (k : List Int → Option ρ) : P.bits_Xor a b k = k (xorS a b) := by
  rw [P.bits_Xor_eq]
  unfold P.bits_Xor_raw
  have e : (bif decide ((↑b.length : Int) < (↑a.length : Int)) then (↑b.length : Int) else (↑a.length : Int)) = ((min a.length b.length : Nat) : Int) := by
    by_cases hl : (b.length : Int) < (a.length : Int)
    · rw [decide_eq_true hl]; simp only [cond_true]; omega
    · rw [decide_eq_false hl]; simp only [cond_false]; omega
  rw [e, br_pos (by omega), br_pos (by omega), toNat_cast]
  unfold P.slices_Clone_byte
  simp only [List.drop_zero, List.length_take]
  rw [br_pos (by omega), P.bits_Xor_l3_eq]
  unfold P.bits_Xor_L3
  have hl0 : (a.take (min a.length b.length)).length = min a.length b.length := by simp
  have key : ∀ i, (fun i : Nat => (b, ((min a.length b.length : Nat) : Int), (i : Int), ((List.range i).map fun i => bits .xor .u8 (a.getD i 0) (b.getD i 0)) ++ (a.take (min a.length b.length)).drop i)) i = (b, ((min a.length b.length : Nat) : Int), (i : Int), ((List.range i).map fun i => bits .xor .u8 (a.getD i 0) (b.getD i 0)) ++ (a.take (min a.length b.length)).drop i) := fun _ => rfl
  have hrun := lp_up (ρ := ρ) (stp := (fun (x : (List Int) × Int × Int × (List Int)) (next : ((List Int) × Int × Int × (List Int)) → Option ρ) (ex : (((List Int) × Int × Int × (List Int))) → Option ρ) => P.bits_Xor_r3 x.1 x.2.1 x.2.2.1 x.2.2.2 (fun v1 v16 v17 h0 => next (v1, v16, v17, h0)) (fun v1 v16 v17 h0 => ex ((v1, v16, v17, h0))))) (K := fun x => k x.2.2.2) (r := k (xorS a b))
    (fun i : Nat => (b, ((min a.length b.length : Nat) : Int), (i : Int), ((List.range i).map fun i => bits .xor .u8 (a.getD i 0) (b.getD i 0)) ++ (a.take (min a.length b.length)).drop i)) (min a.length b.length) (fun i hi next hn => ?_) (fun next => ?_) (i := 0) (Nat.zero_le _) (by omega)
  · simp only [List.range_zero, List.map_nil, List.nil_append, List.drop_zero] at hrun
    rw [show min (min a.length b.length) a.length = min a.length b.length by omega]
    exact hrun
  · have hlen : (((List.range i).map fun i => bits .xor .u8 (a.getD i 0) (b.getD i 0)) ++ (a.take (min a.length b.length)).drop i).length = min a.length b.length := by
      simp; omega
    have hget : (((List.range i).map fun i => bits .xor .u8 (a.getD i 0) (b.getD i 0)) ++ (a.take (min a.length b.length)).drop i).getD i 0 = a.getD i 0 := by
      rw [List.getD_eq_getElem?_getD, List.getElem?_append_right (by simp)]
      simp only [List.length_map, List.length_range, Nat.sub_self, List.getElem?_drop, Nat.add_zero]
      rw [List.getElem?_take_of_lt hi, ← List.getD_eq_getElem?_getD]
    simp only [P.bits_Xor_r3, hlen, toNat_cast]
    simp (disch := omega) only [br_pos, br_neg, br_bne_pos, br_bne_neg, br_beq_pos, br_beq_neg, br_not, br_tt, br_ff, i64w, hget]
    rw [List.set_append_right _ _ (by simp)]
    simp only [List.length_map, List.length_range, Nat.sub_self]
    rw [List.drop_eq_getElem_cons (by rw [hl0]; exact hi), List.set_cons_zero]
    have e2 := range_map_step (fun i => bits .xor .u8 (a.getD i 0) (b.getD i 0)) i

    rw [← e2, List.append_assoc, List.singleton_append] at hn
    exact hn
  · simp only [P.bits_Xor_r3]
    rw [br_neg (by omega), List.drop_eq_nil_of_le (by rw [hl0]; exact Nat.le_refl _), List.append_nil]
    rfl
end Q
end

section
open Go Go.Abs
set_option linter.unusedVariables false
namespace P
noncomputable def bits_Le_r5 {ρ : Type} (v0 : Int) (v16 : Int) (v17 : Int) (h0 : List Int) (nx : Int → Int → Int → (List Int) → Option ρ) (k0 : Int → Int → Int → (List Int) → Option ρ) : Option ρ :=
  br (decide (v17 < v16))
    (br (decide (IntKind.i64.wrap ((8 : Int) * v17) < (0 : Int))) none
      (br (decide ((0 : Int) ≤ v17))
        (br (decide (v17 < (↑h0.length : Int)))
          (nx v0 v16 (IntKind.i64.wrap (v17 + (1 : Int)))
            (h0.set v17.toNat
              (IntKind.u8.wrap (v0.fdiv ((2 : Int) ^ min (IntKind.i64.wrap ((8 : Int) * v17)).toNat 64)))))
          none)
        none))
    (k0 v0 v16 v17 h0)
noncomputable def bits_Le_L5 {ρ : Type} (v0 : Int) (v16 : Int) (v17 : Int) (h0 : List Int) (k0 : Int → Int → Int → (List Int) → Option ρ) : Option ρ :=
  lp (fun (x : Int × Int × Int × (List Int)) (next : (Int × Int × Int × (List Int)) → Option ρ) (ex : ((Int × Int × Int × (List Int))) → Option ρ) => bits_Le_r5 x.1 x.2.1 x.2.2.1 x.2.2.2 (fun v0 v16 v17 h0 => next (v0, v16, v17, h0)) (fun v0 v16 v17 h0 => ex ((v0, v16, v17, h0)))) (v0, v16, v17, h0) (fun x => k0 x.1 x.2.1 x.2.2.1 x.2.2.2)
noncomputable def bits_Le_l5 {ρ : Type} (v0 : Int) (v16 : Int) (v17 : Int) (h0 : List Int) (k0 : Int → Int → Int → (List Int) → Option ρ) : Option ρ := shut (bits_Le_L5 (ρ := ρ)) v0 v16 v17 h0 k0
theorem bits_Le_l5_eq {ρ : Type} (v0 : Int) (v16 : Int) (v17 : Int) (h0 : List Int) (k0 : Int → Int → Int → (List Int) → Option ρ) : bits_Le_l5 v0 v16 v17 h0 k0 = bits_Le_L5 v0 v16 v17 h0 k0 := by unfold bits_Le_l5; rw [shut_eq]
noncomputable def bits_Le_raw {ρ : Type} (a0 : Int) (a1 : Int) (k : (List Int) → Option ρ) : Option ρ :=
  br (decide (a1 < (0 : Int))) (k [])
    (br (decide (a1 > (65536 : Int))) (k [])
      (br (decide ((0 : Int) ≤ a1))
        (br (decide (a1 ≤ a1))
          (br (decide (a1 * (↑1 : Int) ≤ (↑140737488355328 : Int)))
            (bits_Le_l5 a0 (bif decide ((8 : Int) < a1) then (8 : Int) else a1) (0 : Int)
              (List.replicate a1.toNat (0 : Int)) fun (q0 q1 q2 : Int) (q3 : List Int) => k q3)
            none)
          none)
        none))
noncomputable def bits_Le {ρ : Type} (a0 : Int) (a1 : Int) (k : (List Int) → Option ρ) : Option ρ := shut (bits_Le_raw (ρ := ρ)) a0 a1 k
theorem bits_Le_eq {ρ : Type} (a0 : Int) (a1 : Int) (k : (List Int) → Option ρ) : bits_Le a0 a1 k = bits_Le_raw a0 a1 k := by unfold bits_Le; rw [shut_eq]

end P
end

section
open Go Go.Abs
set_option linter.unusedVariables false
namespace P
noncomputable def bits_Be_r1_1 {ρ : Type} (v2 : Int) (v3 : Int) (h0 : List Int) (nx : Int → Int → (List Int) → Option ρ) (k0 : Int → Int → (List Int) → Option ρ) : Option ρ :=
  br (decide (v2 < v3))
    (br (decide ((0 : Int) ≤ v3))
      (br (decide (v3 < (↑h0.length : Int)))
        (br (decide ((0 : Int) ≤ v2))
          (br (decide (v2 < (↑h0.length : Int)))
            (br (decide ((0 : Int) ≤ v2))
              (br (decide (v2 < (↑h0.length : Int)))
                (br (decide ((0 : Int) ≤ v3))
                  (br (decide (v3 < (↑(h0.set v2.toNat (h0.getD v3.toNat (0 : Int))).length : Int)))
                    (nx (IntKind.i64.wrap (v2 + (1 : Int))) (IntKind.i64.wrap (v3 - (1 : Int)))
                      ((h0.set v2.toNat (h0.getD v3.toNat (0 : Int))).set v3.toNat (h0.getD v2.toNat (0 : Int))))
                    none)
                  none)
                none)
              none)
            none)
          none)
        none)
      none)
    (k0 v2 v3 h0)
noncomputable def bits_Be_L1_1 {ρ : Type} (v2 : Int) (v3 : Int) (h0 : List Int) (k0 : Int → Int → (List Int) → Option ρ) : Option ρ :=
  lp (fun (x : Int × Int × (List Int)) (next : (Int × Int × (List Int)) → Option ρ) (ex : ((Int × Int × (List Int))) → Option ρ) => bits_Be_r1_1 x.1 x.2.1 x.2.2 (fun v2 v3 h0 => next (v2, v3, h0)) (fun v2 v3 h0 => ex ((v2, v3, h0)))) (v2, v3, h0) (fun x => k0 x.1 x.2.1 x.2.2)
noncomputable def bits_Be_l1_1 {ρ : Type} (v2 : Int) (v3 : Int) (h0 : List Int) (k0 : Int → Int → (List Int) → Option ρ) : Option ρ := shut (bits_Be_L1_1 (ρ := ρ)) v2 v3 h0 k0
theorem bits_Be_l1_1_eq {ρ : Type} (v2 : Int) (v3 : Int) (h0 : List Int) (k0 : Int → Int → (List Int) → Option ρ) : bits_Be_l1_1 v2 v3 h0 k0 = bits_Be_L1_1 v2 v3 h0 k0 := by unfold bits_Be_l1_1; rw [shut_eq]
noncomputable def bits_Be_raw {ρ : Type} (a0 : Int) (a1 : Int) (k : (List Int) → Option ρ) : Option ρ :=
  bits_Le a0 a1 fun (q0 : List Int) =>
    bits_Be_l1_1 (0 : Int) (IntKind.i64.wrap ((↑q0.length : Int) - (1 : Int))) q0 fun (q1 q2 : Int) (q3 : List Int) =>
      k q3
noncomputable def bits_Be {ρ : Type} (a0 : Int) (a1 : Int) (k : (List Int) → Option ρ) : Option ρ := shut (bits_Be_raw (ρ := ρ)) a0 a1 k
theorem bits_Be_eq {ρ : Type} (a0 : Int) (a1 : Int) (k : (List Int) → Option ρ) : bits_Be a0 a1 k = bits_Be_raw a0 a1 k := by unfold bits_Be; rw [shut_eq]

end P
end

section
open Go Go.Abs
set_option linter.unusedVariables false
namespace P
noncomputable def bits_such_raw {ρ : Type} (a0 : List Int) (a1 : Int) (a2 : Int) (k : Bool → Option ρ) : Option ρ :=
  br (decide (a1 ≥ (1 : Int)))
    (br (decide (a1 ≤ (24 : Int)))
      (br (decide (a2 ≥ (0 : Int)))
        (br (decide (a1 = (0 : Int))) none
          (k (decide (a2 ≤ IntKind.i64.wrap ((IntKind.i64.wrap ((↑a0.length : Int) * (8 : Int))).tdiv a1)))))
        (k false))
      (k false))
    (k false)
noncomputable def bits_such {ρ : Type} (a0 : List Int) (a1 : Int) (a2 : Int) (k : Bool → Option ρ) : Option ρ := shut (bits_such_raw (ρ := ρ)) a0 a1 a2 k
theorem bits_such_eq {ρ : Type} (a0 : List Int) (a1 : Int) (a2 : Int) (k : Bool → Option ρ) : bits_such a0 a1 a2 k = bits_such_raw a0 a1 a2 k := by unfold bits_such; rw [shut_eq]

end P
end

section
open Go Go.Abs
set_option linter.unusedVariables false
namespace P
noncomputable def bits_Digits_r8 {ρ : Type} (v0 : List Int) (v1 : Int) (v8 : Int) (v9 : Int) (v10 : Int) (v19 : Int) (v20 : Int) (h0 : List Int) (nx : (List Int) → Int → Int → Int → Int → Int → Int → (List Int) → Option ρ) (k0 : (List Int) → Int → Int → Int → Int → Int → Int → (List Int) → Option ρ) : Option ρ :=
  br (decide (v9 < v1))
    (br (decide ((0 : Int) < (↑v0.length : Int)))
      (br (decide ((1 : Int) ≤ (↑v0.length : Int)))
        (br (decide ((↑v0.length : Int) ≤ (↑v0.length : Int)))
          (nx (List.drop 1 (List.take (↑v0.length : Int).toNat v0)) v1
            (bits BinOp.or IntKind.u64 (IntKind.u64.wrap (v8 * (2 : Int) ^ 8))
              (IntKind.u64.wrap (v0.getD 0 (0 : Int))))
            (IntKind.i64.wrap (v9 + (8 : Int))) v10 v19 v20 h0)
          none)
        none)
      none)
    (k0 v0 v1 v8 v9 v10 v19 v20 h0)
noncomputable def bits_Digits_L8 {ρ : Type} (v0 : List Int) (v1 : Int) (v8 : Int) (v9 : Int) (v10 : Int) (v19 : Int) (v20 : Int) (h0 : List Int) (k0 : (List Int) → Int → Int → Int → Int → Int → Int → (List Int) → Option ρ) : Option ρ :=
  lp (fun (x : (List Int) × Int × Int × Int × Int × Int × Int × (List Int)) (next : ((List Int) × Int × Int × Int × Int × Int × Int × (List Int)) → Option ρ) (ex : (((List Int) × Int × Int × Int × Int × Int × Int × (List Int))) → Option ρ) => bits_Digits_r8 x.1 x.2.1 x.2.2.1 x.2.2.2.1 x.2.2.2.2.1 x.2.2.2.2.2.1 x.2.2.2.2.2.2.1 x.2.2.2.2.2.2.2 (fun v0 v1 v8 v9 v10 v19 v20 h0 => next (v0, v1, v8, v9, v10, v19, v20, h0)) (fun v0 v1 v8 v9 v10 v19 v20 h0 => ex ((v0, v1, v8, v9, v10, v19, v20, h0)))) (v0, v1, v8, v9, v10, v19, v20, h0) (fun x => k0 x.1 x.2.1 x.2.2.1 x.2.2.2.1 x.2.2.2.2.1 x.2.2.2.2.2.1 x.2.2.2.2.2.2.1 x.2.2.2.2.2.2.2)
noncomputable def bits_Digits_l8 {ρ : Type} (v0 : List Int) (v1 : Int) (v8 : Int) (v9 : Int) (v10 : Int) (v19 : Int) (v20 : Int) (h0 : List Int) (k0 : (List Int) → Int → Int → Int → Int → Int → Int → (List Int) → Option ρ) : Option ρ := shut (bits_Digits_L8 (ρ := ρ)) v0 v1 v8 v9 v10 v19 v20 h0 k0
theorem bits_Digits_l8_eq {ρ : Type} (v0 : List Int) (v1 : Int) (v8 : Int) (v9 : Int) (v10 : Int) (v19 : Int) (v20 : Int) (h0 : List Int) (k0 : (List Int) → Int → Int → Int → Int → Int → Int → (List Int) → Option ρ) : bits_Digits_l8 v0 v1 v8 v9 v10 v19 v20 h0 k0 = bits_Digits_L8 v0 v1 v8 v9 v10 v19 v20 h0 k0 := by unfold bits_Digits_l8; rw [shut_eq]
noncomputable def bits_Digits_r6 {ρ : Type} (v0 : List Int) (v1 : Int) (v8 : Int) (v9 : Int) (v19 : Int) (v20 : Int) (h0 : List Int) (nx : (List Int) → Int → Int → Int → Int → Int → (List Int) → Option ρ) (k0 : (List Int) → Int → Int → Int → Int → Int → (List Int) → Option ρ) : Option ρ :=
  br (decide (v20 < v19))
    (bits_Digits_l8 v0 v1 v8 v9 v20 v19 v20 h0 fun (q0 : List Int) (q1 q2 q3 q4 q5 q6 : Int) (q7 : List Int) =>
      br (decide (IntKind.i64.wrap (q3 - q1) < (0 : Int))) none
        (br (decide (q1 < (0 : Int))) none
          (br (decide ((0 : Int) ≤ q4))
            (br (decide (q4 < (↑q7.length : Int)))
              (nx q0 q1 q2 (IntKind.i64.wrap (q3 - q1)) q5 (IntKind.i64.wrap (q6 + (1 : Int)))
                (q7.set q4.toNat
                  (IntKind.u32.wrap
                    (bits BinOp.and IntKind.u64
                      (q2.fdiv ((2 : Int) ^ min (IntKind.i64.wrap (q3 - q1)).toNat 64))
                      (IntKind.u64.wrap
                        (IntKind.u64.wrap ((1 : Int) * (2 : Int) ^ min q1.toNat 64) - (1 : Int)))))))
              none)
            none)))
    (k0 v0 v1 v8 v9 v19 v20 h0)
noncomputable def bits_Digits_L6 {ρ : Type} (v0 : List Int) (v1 : Int) (v8 : Int) (v9 : Int) (v19 : Int) (v20 : Int) (h0 : List Int) (k0 : (List Int) → Int → Int → Int → Int → Int → (List Int) → Option ρ) : Option ρ :=
  lp (fun (x : (List Int) × Int × Int × Int × Int × Int × (List Int)) (next : ((List Int) × Int × Int × Int × Int × Int × (List Int)) → Option ρ) (ex : (((List Int) × Int × Int × Int × Int × Int × (List Int))) → Option ρ) => bits_Digits_r6 x.1 x.2.1 x.2.2.1 x.2.2.2.1 x.2.2.2.2.1 x.2.2.2.2.2.1 x.2.2.2.2.2.2 (fun v0 v1 v8 v9 v19 v20 h0 => next (v0, v1, v8, v9, v19, v20, h0)) (fun v0 v1 v8 v9 v19 v20 h0 => ex ((v0, v1, v8, v9, v19, v20, h0)))) (v0, v1, v8, v9, v19, v20, h0) (fun x => k0 x.1 x.2.1 x.2.2.1 x.2.2.2.1 x.2.2.2.2.1 x.2.2.2.2.2.1 x.2.2.2.2.2.2)
noncomputable def bits_Digits_l6 {ρ : Type} (v0 : List Int) (v1 : Int) (v8 : Int) (v9 : Int) (v19 : Int) (v20 : Int) (h0 : List Int) (k0 : (List Int) → Int → Int → Int → Int → Int → (List Int) → Option ρ) : Option ρ := shut (bits_Digits_L6 (ρ := ρ)) v0 v1 v8 v9 v19 v20 h0 k0
theorem bits_Digits_l6_eq {ρ : Type} (v0 : List Int) (v1 : Int) (v8 : Int) (v9 : Int) (v19 : Int) (v20 : Int) (h0 : List Int) (k0 : (List Int) → Int → Int → Int → Int → Int → (List Int) → Option ρ) : bits_Digits_l6 v0 v1 v8 v9 v19 v20 h0 k0 = bits_Digits_L6 v0 v1 v8 v9 v19 v20 h0 k0 := by unfold bits_Digits_l6; rw [shut_eq]
noncomputable def bits_Digits_raw {ρ : Type} (a0 : List Int) (a1 : Int) (a2 : Int) (k : (List Int) → Option ρ) : Option ρ :=
  bits_such a0 a1 a2 fun (q0 : Bool) =>
    br (!q0) (k [])
      (br (decide ((0 : Int) ≤ a2))
        (br (decide (a2 ≤ a2))
          (br (decide (a2 * (↑4 : Int) ≤ (↑140737488355328 : Int)))
            (bits_Digits_l6 a0 a1 (0 : Int) (0 : Int) (↑(List.replicate a2.toNat (0 : Int)).length : Int) (0 : Int)
              (List.replicate a2.toNat (0 : Int)) fun (q1 : List Int) (q2 q3 q4 q5 q6 : Int) (q7 : List Int) => k q7)
            none)
          none)
        none)
noncomputable def bits_Digits {ρ : Type} (a0 : List Int) (a1 : Int) (a2 : Int) (k : (List Int) → Option ρ) : Option ρ := shut (bits_Digits_raw (ρ := ρ)) a0 a1 a2 k
theorem bits_Digits_eq {ρ : Type} (a0 : List Int) (a1 : Int) (a2 : Int) (k : (List Int) → Option ρ) : bits_Digits a0 a1 a2 k = bits_Digits_raw a0 a1 a2 k := by unfold bits_Digits; rw [shut_eq]

end P
end

section
open Go Go.Abs
set_option linter.unusedVariables false
namespace P
noncomputable def bits_Pack_r10 {ρ : Type} (v1 : Int) (v6 : Int) (v7 : Int) (v23 : List Int) (v24 : Int) (v25 : Int) (h2 : List Int) (nx : Int → Int → Int → (List Int) → Int → Int → (List Int) → Option ρ) (k0 : Int → Int → Int → (List Int) → Int → Int → (List Int) → Option ρ) : Option ρ :=
  br (decide (v7 ≥ (8 : Int)))
    (br
      (decide
        ((h2.length + 1) * 1 ≤
          140737488355328))
      (nx v1 (v6.fdiv ((2 : Int) ^ 8)) (IntKind.i64.wrap (v7 - (8 : Int))) v23 v24 v25
        (h2 ++ [IntKind.u8.wrap v6]))
      none)
    (k0 v1 v6 v7 v23 v24 v25 h2)
noncomputable def bits_Pack_L10 {ρ : Type} (v1 : Int) (v6 : Int) (v7 : Int) (v23 : List Int) (v24 : Int) (v25 : Int) (h2 : List Int) (k0 : Int → Int → Int → (List Int) → Int → Int → (List Int) → Option ρ) : Option ρ :=
  lp (fun (x : Int × Int × Int × (List Int) × Int × Int × (List Int)) (next : (Int × Int × Int × (List Int) × Int × Int × (List Int)) → Option ρ) (ex : ((Int × Int × Int × (List Int) × Int × Int × (List Int))) → Option ρ) => bits_Pack_r10 x.1 x.2.1 x.2.2.1 x.2.2.2.1 x.2.2.2.2.1 x.2.2.2.2.2.1 x.2.2.2.2.2.2 (fun v1 v6 v7 v23 v24 v25 h2 => next (v1, v6, v7, v23, v24, v25, h2)) (fun v1 v6 v7 v23 v24 v25 h2 => ex ((v1, v6, v7, v23, v24, v25, h2)))) (v1, v6, v7, v23, v24, v25, h2) (fun x => k0 x.1 x.2.1 x.2.2.1 x.2.2.2.1 x.2.2.2.2.1 x.2.2.2.2.2.1 x.2.2.2.2.2.2)
noncomputable def bits_Pack_l10 {ρ : Type} (v1 : Int) (v6 : Int) (v7 : Int) (v23 : List Int) (v24 : Int) (v25 : Int) (h2 : List Int) (k0 : Int → Int → Int → (List Int) → Int → Int → (List Int) → Option ρ) : Option ρ := shut (bits_Pack_L10 (ρ := ρ)) v1 v6 v7 v23 v24 v25 h2 k0
theorem bits_Pack_l10_eq {ρ : Type} (v1 : Int) (v6 : Int) (v7 : Int) (v23 : List Int) (v24 : Int) (v25 : Int) (h2 : List Int) (k0 : Int → Int → Int → (List Int) → Int → Int → (List Int) → Option ρ) : bits_Pack_l10 v1 v6 v7 v23 v24 v25 h2 k0 = bits_Pack_L10 v1 v6 v7 v23 v24 v25 h2 k0 := by unfold bits_Pack_l10; rw [shut_eq]
noncomputable def bits_Pack_r6 {ρ : Type} (v1 : Int) (v6 : Int) (v7 : Int) (v23 : List Int) (v24 : Int) (v25 : Int) (h1 : List Int) (nx : Int → Int → Int → (List Int) → Int → Int → (List Int) → Option ρ) (k0 : Int → Int → Int → (List Int) → Int → Int → (List Int) → Option ρ) : Option ρ :=
  br (decide (v25 < v24))
    (br (decide ((0 : Int) ≤ v25))
      (br (decide (v25 < (↑v23.length : Int)))
        (br (decide (v1 < (0 : Int))) none
          (br (decide (v7 < (0 : Int))) none
            (bits_Pack_l10 v1
              (bits BinOp.or IntKind.u64 v6
                (IntKind.u64.wrap
                  (IntKind.u64.wrap
                      (bits BinOp.and IntKind.u32 (v23.getD v25.toNat (0 : Int))
                        (IntKind.u32.wrap
                          (IntKind.u32.wrap ((1 : Int) * (2 : Int) ^ min v1.toNat 32) - (1 : Int)))) *
                    (2 : Int) ^ min v7.toNat 64)))
              (IntKind.i64.wrap (v7 + v1)) v23 v24 v25 h1
              fun (q0 q1 q2 : Int) (q3 : List Int) (q4 q5 : Int) (q6 : List Int) =>
              nx q0 q1 q2 q3 q4 (IntKind.i64.wrap (q5 + (1 : Int))) q6)))
        none)
      none)
    (k0 v1 v6 v7 v23 v24 v25 h1)
noncomputable def bits_Pack_L6 {ρ : Type} (v1 : Int) (v6 : Int) (v7 : Int) (v23 : List Int) (v24 : Int) (v25 : Int) (h1 : List Int) (k0 : Int → Int → Int → (List Int) → Int → Int → (List Int) → Option ρ) : Option ρ :=
  lp (fun (x : Int × Int × Int × (List Int) × Int × Int × (List Int)) (next : (Int × Int × Int × (List Int) × Int × Int × (List Int)) → Option ρ) (ex : ((Int × Int × Int × (List Int) × Int × Int × (List Int))) → Option ρ) => bits_Pack_r6 x.1 x.2.1 x.2.2.1 x.2.2.2.1 x.2.2.2.2.1 x.2.2.2.2.2.1 x.2.2.2.2.2.2 (fun v1 v6 v7 v23 v24 v25 h1 => next (v1, v6, v7, v23, v24, v25, h1)) (fun v1 v6 v7 v23 v24 v25 h1 => ex ((v1, v6, v7, v23, v24, v25, h1)))) (v1, v6, v7, v23, v24, v25, h1) (fun x => k0 x.1 x.2.1 x.2.2.1 x.2.2.2.1 x.2.2.2.2.1 x.2.2.2.2.2.1 x.2.2.2.2.2.2)
noncomputable def bits_Pack_l6 {ρ : Type} (v1 : Int) (v6 : Int) (v7 : Int) (v23 : List Int) (v24 : Int) (v25 : Int) (h1 : List Int) (k0 : Int → Int → Int → (List Int) → Int → Int → (List Int) → Option ρ) : Option ρ := shut (bits_Pack_L6 (ρ := ρ)) v1 v6 v7 v23 v24 v25 h1 k0
theorem bits_Pack_l6_eq {ρ : Type} (v1 : Int) (v6 : Int) (v7 : Int) (v23 : List Int) (v24 : Int) (v25 : Int) (h1 : List Int) (k0 : Int → Int → Int → (List Int) → Int → Int → (List Int) → Option ρ) : bits_Pack_l6 v1 v6 v7 v23 v24 v25 h1 k0 = bits_Pack_L6 v1 v6 v7 v23 v24 v25 h1 k0 := by unfold bits_Pack_l6; rw [shut_eq]
noncomputable def bits_Pack_raw {ρ : Type} (a0 : List Int) (a1 : Int) (k : (List Int) → Option ρ) : Option ρ :=
  br (decide (a1 < (1 : Int))) (k [])
    (br (decide (a1 > (24 : Int))) (k [])
      (br
        (decide
          ((0 : Int) ≤
            IntKind.i64.wrap
              ((IntKind.i64.wrap (IntKind.i64.wrap ((↑a0.length : Int) * a1) + (7 : Int))).tdiv (8 : Int))))
        (br
          (decide
            (IntKind.i64.wrap
                  ((IntKind.i64.wrap (IntKind.i64.wrap ((↑a0.length : Int) * a1) + (7 : Int))).tdiv (8 : Int)) *
                (↑1 : Int) ≤
              (↑140737488355328 : Int)))
          (bits_Pack_l6 a1 (0 : Int) (0 : Int) a0 (↑a0.length : Int) (0 : Int) (List.replicate 0 (0 : Int))
            fun (q0 q1 q2 : Int) (q3 : List Int) (q4 q5 : Int) (q6 : List Int) =>
            br (decide (q2 > (0 : Int)))
              (br
                (decide
                  ((q6.length + 1) * 1 ≤
                    140737488355328))
                (k (q6 ++ [IntKind.u8.wrap q1])) none)
              (k q6))
          none)
        none))
noncomputable def bits_Pack {ρ : Type} (a0 : List Int) (a1 : Int) (k : (List Int) → Option ρ) : Option ρ := shut (bits_Pack_raw (ρ := ρ)) a0 a1 k
theorem bits_Pack_eq {ρ : Type} (a0 : List Int) (a1 : Int) (k : (List Int) → Option ρ) : bits_Pack a0 a1 k = bits_Pack_raw a0 a1 k := by unfold bits_Pack; rw [shut_eq]

end P
end

section
open Go Go.Abs
set_option linter.unusedVariables false
namespace P
noncomputable def L01_awake_raw {ρ : Type}  (k : Bool → Option ρ) : Option ρ :=
  bits_Digits [(165 : Int)] (4 : Int) (2 : Int) fun (q0 : List Int) =>
    bits_Be (258 : Int) (3 : Int) fun (q1 : List Int) =>
      R01_Same q1 [(0 : Int), (1 : Int), (2 : Int)] fun (q2 : Bool) =>
        br q2
          (bits_Le (258 : Int) (3 : Int) fun (q3 : List Int) =>
            R01_Same q3 [(2 : Int), (1 : Int), (0 : Int)] fun (q4 : Bool) =>
              br q4
                (br ((↑q0.length : Int) == (2 : Int))
                  (br (decide ((0 : Int) < (↑q0.length : Int)))
                    (br (q0.getD 0 (0 : Int) == (10 : Int))
                      (br (decide ((1 : Int) < (↑q0.length : Int)))
                        (br (q0.getD 1 (0 : Int) == (5 : Int))
                          (bits_Pack [(5 : Int), (10 : Int)] (4 : Int) fun (q5 : List Int) =>
                            R01_Same q5 [(165 : Int)] fun (q6 : Bool) => k q6)
                          (k false))
                        none)
                      (k false))
                    none)
                  (k false))
                (k false))
          (k false)
noncomputable def L01_awake {ρ : Type}  (k : Bool → Option ρ) : Option ρ := shut (L01_awake_raw (ρ := ρ))  k
theorem L01_awake_eq {ρ : Type}  (k : Bool → Option ρ) : L01_awake  k = L01_awake_raw  k := by unfold L01_awake; rw [shut_eq]

end P
end

section
/- bits: the law's own test. -/
namespace Q
open Go Go.Abs
set_option linter.unusedVariables false
set_option linter.unusedSimpArgs false

theorem FU_ge (n : Nat) (h : n ≤ 18446744073709551616) : ∃ m, FU = m + n := ⟨18446744073709551616 - n, by rw [FU_eq]; omega⟩

theorem L01_awake {ρ : Type} (k : Bool → Option ρ) : P.L01_awake k = k true := by
  obtain ⟨m, hm⟩ := FU_ge 20 (by omega)
  simp only [P.L01_awake_eq, P.L01_awake_raw, P.bits_Digits_eq, P.bits_Digits_raw, P.bits_Digits_l6_eq, P.bits_Digits_L6, P.bits_Digits_r6, P.bits_Digits_l8_eq, P.bits_Digits_L8, P.bits_Digits_r8,
    P.bits_Be_eq, P.bits_Be_raw, P.bits_Be_l1_1_eq, P.bits_Be_L1_1, P.bits_Be_r1_1, P.bits_Le_eq, P.bits_Le_raw, P.bits_Le_l5_eq, P.bits_Le_L5, P.bits_Le_r5,
    P.bits_Pack_eq, P.bits_Pack_raw, P.bits_Pack_l6_eq, P.bits_Pack_L6, P.bits_Pack_r6, P.bits_Pack_l10_eq, P.bits_Pack_L10, P.bits_Pack_r10, P.bits_such_eq, P.bits_such_raw,
    P.R01_Same_eq, P.R01_Same_raw, P.R01_Same_l4_eq, P.R01_Same_L4, P.R01_Same_r4, lp, hm]
  kernel_rfl

end Q
end

section
/- The bit operations as numbers. -/
namespace Q
open Go Go.Abs
set_option linter.unusedVariables false

theorem or_u8 (x y : Nat) (hx : x < 256) (hy : y < 256) : bits .or .u8 (x : Int) (y : Int) = ((x ||| y : Nat) : Int) := by
  have h1 : x ||| y < 256 := Nat.or_lt_two_pow (n := 8) hx hy
  have e : bits .or .u8 (x : Int) (y : Int) = IntKind.u8.wrap ((BitVec.ofInt 8 (x : Int) ||| BitVec.ofInt 8 (y : Int)).toNat : Int) := rfl
  have e2 : (BitVec.ofInt 8 (x : Int) ||| BitVec.ofInt 8 (y : Int)).toNat = x ||| y := by
    rw [BitVec.toNat_or, BitVec.toNat_ofInt, BitVec.toNat_ofInt]; congr 1 <;> omega
  rw [e, e2]; exact IntWalk.u8_in _ ⟨by omega, by omega⟩
theorem xor_u8 (x y : Nat) (hx : x < 256) (hy : y < 256) : bits .xor .u8 (x : Int) (y : Int) = ((x ^^^ y : Nat) : Int) := by
  have h1 : x ^^^ y < 256 := Nat.xor_lt_two_pow (n := 8) hx hy
  have e : bits .xor .u8 (x : Int) (y : Int) = IntKind.u8.wrap ((BitVec.ofInt 8 (x : Int) ^^^ BitVec.ofInt 8 (y : Int)).toNat : Int) := rfl
  have e2 : (BitVec.ofInt 8 (x : Int) ^^^ BitVec.ofInt 8 (y : Int)).toNat = x ^^^ y := by
    rw [BitVec.toNat_xor, BitVec.toNat_ofInt, BitVec.toNat_ofInt]; congr 1 <;> omega
  rw [e, e2]; exact IntWalk.u8_in _ ⟨by omega, by omega⟩
theorem and_u8 (x y : Nat) (hx : x < 256) (hy : y < 256) : bits .and .u8 (x : Int) (y : Int) = ((x &&& y : Nat) : Int) := by
  have h1 : x &&& y < 256 := Nat.and_lt_two_pow (n := 8) x hy
  have e : bits .and .u8 (x : Int) (y : Int) = IntKind.u8.wrap ((BitVec.ofInt 8 (x : Int) &&& BitVec.ofInt 8 (y : Int)).toNat : Int) := rfl
  have e2 : (BitVec.ofInt 8 (x : Int) &&& BitVec.ofInt 8 (y : Int)).toNat = x &&& y := by
    rw [BitVec.toNat_and, BitVec.toNat_ofInt, BitVec.toNat_ofInt]; congr 1 <;> omega
  rw [e, e2]; exact IntWalk.u8_in _ ⟨by omega, by omega⟩
theorem or_u64 (x y : Nat) (hx : x < 18446744073709551616) (hy : y < 18446744073709551616) : bits .or .u64 (x : Int) (y : Int) = ((x ||| y : Nat) : Int) := by
  have h1 : x ||| y < 18446744073709551616 := Nat.or_lt_two_pow (n := 64) hx hy
  have e : bits .or .u64 (x : Int) (y : Int) = IntKind.u64.wrap ((BitVec.ofInt 64 (x : Int) ||| BitVec.ofInt 64 (y : Int)).toNat : Int) := rfl
  have e2 : (BitVec.ofInt 64 (x : Int) ||| BitVec.ofInt 64 (y : Int)).toNat = x ||| y := by
    rw [BitVec.toNat_or, BitVec.toNat_ofInt, BitVec.toNat_ofInt]; congr 1 <;> omega
  rw [e, e2]; exact IntWalk.u64_in _ ⟨by omega, by omega⟩
theorem and_u64 (x y : Nat) (hx : x < 18446744073709551616) (hy : y < 18446744073709551616) : bits .and .u64 (x : Int) (y : Int) = ((x &&& y : Nat) : Int) := by
  have h1 : x &&& y < 18446744073709551616 := Nat.and_lt_two_pow (n := 64) x hy
  have e : bits .and .u64 (x : Int) (y : Int) = IntKind.u64.wrap ((BitVec.ofInt 64 (x : Int) &&& BitVec.ofInt 64 (y : Int)).toNat : Int) := rfl
  have e2 : (BitVec.ofInt 64 (x : Int) &&& BitVec.ofInt 64 (y : Int)).toNat = x &&& y := by
    rw [BitVec.toNat_and, BitVec.toNat_ofInt, BitVec.toNat_ofInt]; congr 1 <;> omega
  rw [e, e2]; exact IntWalk.u64_in _ ⟨by omega, by omega⟩
theorem and_u32 (x y : Nat) (hx : x < 4294967296) (hy : y < 4294967296) : bits .and .u32 (x : Int) (y : Int) = ((x &&& y : Nat) : Int) := by
  have h1 : x &&& y < 4294967296 := Nat.and_lt_two_pow (n := 32) x hy
  have e : bits .and .u32 (x : Int) (y : Int) = IntKind.u32.wrap ((BitVec.ofInt 32 (x : Int) &&& BitVec.ofInt 32 (y : Int)).toNat : Int) := rfl
  have e2 : (BitVec.ofInt 32 (x : Int) &&& BitVec.ofInt 32 (y : Int)).toNat = x &&& y := by
    rw [BitVec.toNat_and, BitVec.toNat_ofInt, BitVec.toNat_ofInt]; congr 1 <;> omega
  rw [e, e2]; exact IntWalk.u32_in _ ⟨by omega, by omega⟩
theorem or_u32 (x y : Nat) (hx : x < 4294967296) (hy : y < 4294967296) : bits .or .u32 (x : Int) (y : Int) = ((x ||| y : Nat) : Int) := by
  have h1 : x ||| y < 4294967296 := Nat.or_lt_two_pow (n := 32) hx hy
  have e : bits .or .u32 (x : Int) (y : Int) = IntKind.u32.wrap ((BitVec.ofInt 32 (x : Int) ||| BitVec.ofInt 32 (y : Int)).toNat : Int) := rfl
  have e2 : (BitVec.ofInt 32 (x : Int) ||| BitVec.ofInt 32 (y : Int)).toNat = x ||| y := by
    rw [BitVec.toNat_or, BitVec.toNat_ofInt, BitVec.toNat_ofInt]; congr 1 <;> omega
  rw [e, e2]; exact IntWalk.u32_in _ ⟨by omega, by omega⟩

theorem u8m (n : Int) : IntKind.u8.wrap n = n % 256 := by simp [IntKind.wrap, IntKind.bits, IntKind.signed]
theorem u32m (n : Int) : IntKind.u32.wrap n = n % 4294967296 := by simp [IntKind.wrap, IntKind.bits, IntKind.signed]
theorem u64m (n : Int) : IntKind.u64.wrap n = n % 18446744073709551616 := by simp [IntKind.wrap, IntKind.bits, IntKind.signed]

theorem xor_zero {x y : Nat} : x ^^^ y = 0 ↔ x = y := by
  constructor
  · intro h
    have : (x ^^^ y) ^^^ y = x := by rw [Nat.xor_assoc, Nat.xor_self, Nat.xor_zero]
    rw [h, Nat.zero_xor] at this
    exact this.symm
  · rintro rfl; exact Nat.xor_self _
theorem or_shift (a x i : Nat) (hx : x < 2 ^ i) : (a * 2 ^ i) ||| x = a * 2 ^ i + x := by
  rw [← Nat.shiftLeft_eq, Nat.shiftLeft_add_eq_or_of_lt hx]
end Q
end

section
/- bits: Same, Join. -/
namespace Q
open Go Go.Abs
set_option linter.unusedVariables false
set_option linter.unusedSimpArgs false

/-- the differences, gathered -/
def diff (a b : List Int) (i : Nat) : Int := (List.range i).foldl (fun acc j => bits .or .u8 acc (bits .xor .u8 (a.getD j 0) (b.getD j 0))) 0
theorem diff_succ (a b : List Int) (i : Nat) : diff a b (i + 1) = bits .or .u8 (diff a b i) (bits .xor .u8 (a.getD i 0) (b.getD i 0)) := by
  simp [diff, List.range_succ]
theorem diff_fact (a b : List Int) (ha : In 256 a) (hb : In 256 b) : ∀ i, (0 ≤ diff a b i ∧ diff a b i < 256) ∧ (diff a b i = 0 ↔ ∀ j, j < i → a.getD j 0 = b.getD j 0)
  | 0 => ⟨⟨by simp [diff], by simp [diff]⟩, by simp [diff]⟩
  | i + 1 => by
    obtain ⟨h1, h2⟩ := diff_fact a b ha hb i
    rw [diff_succ]
    have hx := ha.getD i (by omega)
    have hy := hb.getD i (by omega)
    obtain ⟨d, hd⟩ := Int.eq_ofNat_of_zero_le h1.1
    obtain ⟨x, hx'⟩ := Int.eq_ofNat_of_zero_le hx.1
    obtain ⟨y, hy'⟩ := Int.eq_ofNat_of_zero_le hy.1
    rw [hd, hx', hy', xor_u8 x y (by omega) (by omega), or_u8 d _ (by omega) (Nat.xor_lt_two_pow (n := 8) (show x < 2 ^ 8 by omega) (show y < 2 ^ 8 by omega))]
    have hb : d ||| (x ^^^ y) < 256 := Nat.or_lt_two_pow (n := 8) (show d < 2 ^ 8 by omega) (Nat.xor_lt_two_pow (n := 8) (show x < 2 ^ 8 by omega) (show y < 2 ^ 8 by omega))
    refine ⟨⟨by omega, by omega⟩, ?_⟩
    rw [show (((d ||| (x ^^^ y) : Nat) : Int) = 0 ↔ (d ||| (x ^^^ y)) = 0) by omega, Nat.or_eq_zero_iff, xor_zero]
    constructor
    · rintro ⟨h0, hxy⟩ j hj
      by_cases hji : j = i
      · subst hji; rw [hx', hy', hxy]
      · exact h2.1 (by omega) j (by omega)
    · intro h
      refine ⟨?_, ?_⟩
      · have := h2.2 (fun j hj => h j (by omega)); omega
      · have := h i (by omega); rw [hx', hy'] at this; omega

theorem bits_Same (a b : List Int) (ha : In 256 a) (hb : In 256 b) (h : a.length ≤ 140737488355328) {ρ : Type} (k : Bool → Option ρ) : P.bits_Same a b k = k (decide (a = b)) := by
  rw [P.bits_Same_eq]
  unfold P.bits_Same_raw
  by_cases hl : a.length = b.length
  · rw [br_bne_neg (by omega), P.bits_Same_l5_eq]
    unfold P.bits_Same_L5
    refine lp_up (fun i => (a, b, diff a b i, (a.length : Int), (i : Int))) a.length (fun i hi next hn => ?_) (fun next => ?_) (Nat.zero_le _) (by omega)
    · simp only [P.bits_Same_r5, toNat_cast]
      simp (disch := omega) only [br_pos, br_neg, br_bne_pos, br_bne_neg, br_beq_pos, br_beq_neg, br_not, br_tt, br_ff, i64w]
      rw [← diff_succ]
      exact hn
    · simp only [P.bits_Same_r5]
      rw [br_neg (by omega)]
      congr 1
      have := (diff_fact a b ha hb a.length).2
      by_cases hab : a = b
      · rw [decide_eq_true hab, beq_iff_eq, this]
        subst hab; exact fun _ _ => rfl
      · rw [decide_eq_false hab, beq_eq_false_iff_ne]
        intro h0
        refine hab (List.ext_getElem hl (fun i h1 h2 => ?_))
        have := this.1 h0 i h1
        rw [getD_lt h1, getD_lt h2] at this
        exact this
  · rw [br_bne_pos (by omega), decide_eq_false (fun e => hl (by rw [e]))]

/-- rows one behind the other -/
def joined (l : List (List Int)) (i : Nat) : List Int := (l.take i).flatten
theorem joined_succ (l : List (List Int)) (i : Nat) (h : i < l.length) : joined l (i + 1) = joined l i ++ l.getD i [] := by
  unfold joined
  rw [← take_step l [] i h, List.flatten_append]; simp
theorem joined_all (l : List (List Int)) : joined l l.length = l.flatten := by unfold joined; rw [List.take_length]
theorem joined_le (l : List (List Int)) (i : Nat) : (joined l i).length ≤ l.flatten.length := by
  unfold joined
  have : l.flatten = (l.take i).flatten ++ (l.drop i).flatten := by rw [← List.flatten_append, List.take_append_drop]
  rw [this, List.length_append]; omega

theorem R01_Join (l : List (List Int)) (h : l.length ≤ 140737488355328) (h2 : l.flatten.length ≤ 140737488355328) {ρ : Type} (k : List Int → Option ρ) : P.R01_Join l k = k l.flatten := by
  rw [P.R01_Join_eq]
  unfold P.R01_Join_raw
  rw [P.R01_Join_l3_eq]
  unfold P.R01_Join_L3
  refine lp_up (fun i => (l, (i : Int), joined l i)) l.length (fun i hi next hn => ?_) (fun next => ?_) (Nat.zero_le _) (by omega)
  · have e := joined_succ l i hi
    have h3 := joined_le l (i + 1)
    rw [e, List.length_append] at h3
    simp only [P.R01_Join_r3, toNat_cast]
    simp (disch := omega) only [br_pos, br_neg, br_bne_pos, br_bne_neg, br_beq_pos, br_beq_neg, br_not, br_tt, br_ff, i64w]
    rw [← e]
    exact hn
  · simp only [P.R01_Join_r3]
    rw [br_neg (by omega), joined_all]

theorem slices_Grow_byte (n : Nat) (h : n ≤ 140737488355328) {ρ : Type} (k : List Int → Option ρ) : P.slices_Grow_byte (n : Int) k = k [] := by
  rw [P.slices_Grow_byte_eq]
  unfold P.slices_Grow_byte_raw
  rw [br_neg (by omega), show IntKind.i64.wrap ((0 : Int) - (0 : Int)) = 0 by decide]
  rw [i64w (by omega) (by omega)]
  by_cases h0 : n = 0
  · subst h0; rw [br_neg (by omega)]
  · rw [br_pos (by omega), br_pos (by omega), br_pos (by omega)]; rfl

theorem slices_Concat_byte (l : List (List Int)) (h : l.length ≤ 140737488355328) (h2 : l.flatten.length ≤ 140737488355328) {ρ : Type} (k : List Int → Option ρ) : P.slices_Concat_byte l k = k l.flatten := by
  rw [P.slices_Concat_byte_eq]
  unfold P.slices_Concat_byte_raw
  rw [P.slices_Concat_byte_l3_eq]
  unfold P.slices_Concat_byte_L3
  refine lp_up (fun i => (l, ((joined l i).length : Int), l, (l.length : Int), (i : Int))) l.length (fun i hi next hn => ?_) (fun next => ?_) (Nat.zero_le _) (by omega)
  · have e := joined_succ l i hi
    have h3 := joined_le l (i + 1)
    have e2 : ((joined l i).length : Int) + ((l.getD i []).length : Int) = ((joined l (i + 1)).length : Int) := by rw [e, List.length_append]; omega
    simp only [P.slices_Concat_byte_r3, toNat_cast, e2]
    simp (disch := omega) only [br_pos, br_neg, br_bne_pos, br_bne_neg, br_beq_pos, br_beq_neg, br_not, br_tt, br_ff, i64w]
    exact hn
  · simp only [P.slices_Concat_byte_r3]
    rw [br_neg (by omega), joined_all, slices_Grow_byte _ h2, P.slices_Concat_byte_l11_eq]
    unfold P.slices_Concat_byte_L11
    refine lp_up (fun i => (l, (l.length : Int), (i : Int), joined l i)) l.length (fun i hi next hn => ?_) (fun next => ?_) (Nat.zero_le _) (by omega)
    · have e := joined_succ l i hi
      have h3 := joined_le l (i + 1)
      rw [e, List.length_append] at h3
      simp only [P.slices_Concat_byte_r11, toNat_cast]
      simp (disch := omega) only [br_pos, br_neg, br_bne_pos, br_bne_neg, br_beq_pos, br_beq_neg, br_not, br_tt, br_ff, i64w]
      rw [← e]
      exact hn
    · simp only [P.slices_Concat_byte_r11]
      rw [br_neg (by omega), joined_all]

theorem bits_Join (l : List (List Int)) (h : l.length ≤ 140737488355328) (h2 : l.flatten.length ≤ 140737488355328) {ρ : Type} (k : List Int → Option ρ) : P.bits_Join l k = k l.flatten := by
  rw [P.bits_Join_eq]
  unfold P.bits_Join_raw
  exact slices_Concat_byte l h h2 k
end Q
end

section
/- Numbers and their digits, the lowest first. -/
namespace Q
open Go Go.Abs
set_option linter.unusedVariables false

def T (w : Nat) : List Int → Nat
  | [] => 0
  | x :: l => x.toNat % 2 ^ w + 2 ^ w * T w l

theorem p2 (n : Nat) : 0 < 2 ^ n := Nat.pow_pos (by omega)

theorem T_lt (w : Nat) : ∀ l : List Int, T w l < 2 ^ (w * l.length)
  | [] => by simp [T]
  | x :: l => by
    have ih := T_lt w l
    have h1 := Nat.mod_lt x.toNat (p2 w)
    rw [List.length_cons, Nat.mul_succ, Nat.add_comm, Nat.pow_add]
    simp only [T]
    have : 2 ^ w * (T w l + 1) ≤ 2 ^ w * 2 ^ (w * l.length) := Nat.mul_le_mul (Nat.le_refl _) ih
    rw [Nat.mul_add] at this
    omega
theorem T_append (w : Nat) : ∀ a b : List Int, T w (a ++ b) = T w a + 2 ^ (w * a.length) * T w b
  | [], b => by simp [T]
  | x :: a, b => by
    rw [List.cons_append, T, T, T_append w a b, List.length_cons, Nat.mul_succ, Nat.add_comm (w * a.length) w, Nat.pow_add, Nat.mul_add, Nat.mul_assoc]
    omega
theorem T_take (w : Nat) (l : List Int) (k : Nat) (h : k ≤ l.length) : T w l = T w (l.take k) + 2 ^ (w * k) * T w (l.drop k) := by
  have := T_append w (l.take k) (l.drop k)
  rw [List.take_append_drop, List.length_take, Nat.min_eq_left h] at this
  exact this
theorem T_take_mod (w : Nat) (l : List Int) (k : Nat) (h : k ≤ l.length) : T w (l.take k) = T w l % 2 ^ (w * k) := by
  rw [T_take w l k h, Nat.add_mul_mod_self_left]
  have := T_lt w (l.take k)
  rw [List.length_take, Nat.min_eq_left h] at this
  exact (Nat.mod_eq_of_lt this).symm
theorem T_drop_div (w : Nat) (l : List Int) (k : Nat) (h : k ≤ l.length) : T w (l.drop k) = T w l / 2 ^ (w * k) := by
  have := T_lt w (l.take k)
  rw [List.length_take, Nat.min_eq_left h] at this
  rw [T_take w l k h, Nat.add_mul_div_left _ _ (p2 _), Nat.div_eq_of_lt this, Nat.zero_add]
theorem T_getD (w : Nat) (l : List Int) (k : Nat) : T w l / 2 ^ (w * k) % 2 ^ w = (l.getD k 0).toNat % 2 ^ w := by
  by_cases h : k < l.length
  · rw [← T_drop_div w l k (by omega), drop_step l 0 k h, T, Nat.add_mul_mod_self_left, Nat.mod_mod]
  · rw [getD_ge (by omega), Nat.div_eq_of_lt]
    · rfl
    · exact Nat.lt_of_lt_of_le (T_lt w l) (Nat.pow_le_pow_right (by omega) (Nat.mul_le_mul (Nat.le_refl _) (by omega)))
theorem T_step (w : Nat) (l : List Int) (k : Nat) (h : k < l.length) : T w (l.take (k + 1)) = T w (l.take k) + 2 ^ (w * k) * ((l.getD k 0).toNat % 2 ^ w) := by
  rw [← take_step l 0 k h, T_append, List.length_take, Nat.min_eq_left (by omega)]
  simp [T]

theorem or_high (a x i : Nat) (hx : x < 2 ^ i) : x ||| (a * 2 ^ i) = x + a * 2 ^ i := by rw [Nat.or_comm, or_shift _ _ _ hx, Nat.add_comm]

/-- A LOOP that goes up, from where it starts. -/
theorem lp_go {X Y ρ : Type} {stp : X → (X → Option ρ) → (Y → Option ρ) → Option ρ} {K : Y → Option ρ} {r : Option ρ} (S : Nat → X) (n : Nat) {x : X} (hx : x = S 0)
    (hstep : ∀ i, i < n → ∀ next, next (S (i + 1)) = r → stp (S i) next K = r) (hend : ∀ next, stp (S n) next K = r) (hn : n ≤ 18446744073709551616) : lp stp x K = r := by
  rw [hx]; exact lp_up S n hstep hend (Nat.zero_le _) hn

/-- so many digits of a number -/
def bsw (w n X : Nat) : List Int := (List.range n).map fun i => ((X / 2 ^ (w * i) % 2 ^ w : Nat) : Int)
@[simp] theorem bsw_length (w n X : Nat) : (bsw w n X).length = n := by simp [bsw]
theorem bsw_getD (w n X i : Nat) (h : i < n) : (bsw w n X).getD i 0 = ((X / 2 ^ (w * i) % 2 ^ w : Nat) : Int) := by
  rw [getD_lt (by simpa using h)]; simp [bsw]
theorem bsw_succ (w n X : Nat) : bsw w (n + 1) X = bsw w n X ++ [((X / 2 ^ (w * n) % 2 ^ w : Nat) : Int)] := by simp [bsw, List.range_succ]
theorem bsw_in (w n X : Nat) : In (2 ^ w) (bsw w n X) := by
  refine In.map (fun i _ => ⟨Int.natCast_nonneg _, ?_⟩)
  have := Nat.mod_lt (X / 2 ^ (w * i)) (p2 w)
  have e : ((2 : Int) ^ w) = ((2 ^ w : Nat) : Int) := by simp
  rw [e]; omega
theorem T_bsw (w X : Nat) : ∀ n, T w (bsw w n X) = X % 2 ^ (w * n)
  | 0 => by simp [bsw, T, Nat.mod_one]
  | n + 1 => by
    rw [bsw_succ, T_append, T_bsw w X n, bsw_length, Nat.mul_succ, Nat.pow_add, Nat.mod_mul]
    simp only [T, Int.toNat_natCast, Nat.mod_mod, Nat.mul_zero, Nat.add_zero]
theorem bsw_T (w : Nat) (l : List Int) (h : In (2 ^ w) l) : bsw w l.length (T w l) = l := by
  refine List.ext_getElem (by simp) (fun i h1 h2 => ?_)
  have h3 := h.getD i (by exact_mod_cast p2 w)
  rw [getD_lt h2] at h3
  have e : ((2 : Int) ^ w) = ((2 ^ w : Nat) : Int) := by simp
  rw [← getD_lt (d := 0) h1, bsw_getD _ _ _ _ h2, T_getD, getD_lt h2, Nat.mod_eq_of_lt (by omega)]
  omega
theorem bsw_mod (w n X m : Nat) (h : w * n ≤ m) : bsw w n (X % 2 ^ m) = bsw w n X := by
  unfold bsw
  refine List.map_congr_left (fun i hi => ?_)
  have hi := List.mem_range.1 hi
  have h1 : w * i + w ≤ m := by
    have : w * (i + 1) ≤ w * n := Nat.mul_le_mul (Nat.le_refl _) hi
    rw [Nat.mul_succ] at this; omega
  have e : (2 : Nat) ^ m = 2 ^ (w * i) * (2 ^ w * 2 ^ (m - (w * i + w))) := by rw [← Nat.pow_add, ← Nat.pow_add]; congr 1; omega
  rw [e, Nat.mod_mul_right_div_self, Nat.mod_mul_right_mod]

/-- a piece of a number does not ask what stands high above it -/
theorem piece_mod (X h w m : Nat) (hm : h + w ≤ m) : X % 2 ^ m / 2 ^ h % 2 ^ w = X / 2 ^ h % 2 ^ w := by
  have e : (2 : Nat) ^ m = 2 ^ h * (2 ^ w * 2 ^ (m - (h + w))) := by rw [← Nat.pow_add, ← Nat.pow_add]; congr 1; omega
  rw [e, Nat.mod_mul_right_div_self, Nat.mod_mul_right_mod]
/-- a piece of a piece -/
theorem piece_piece (X h w a b : Nat) (hb : a + b ≤ w) : X / 2 ^ h % 2 ^ w / 2 ^ a % 2 ^ b = X / 2 ^ (h + a) % 2 ^ b := by
  rw [piece_mod _ _ _ _ hb, Nat.div_div_eq_div_mul, ← Nat.pow_add]
/-- one digit more, above -/
theorem piece_up (X h w a : Nat) : X / 2 ^ h % 2 ^ w + 2 ^ w * (X / 2 ^ (h + w) % 2 ^ a) = X / 2 ^ h % 2 ^ (w + a) := by
  rw [Nat.pow_add 2 w a, Nat.mod_mul, Nat.pow_add, Nat.div_div_eq_div_mul]
end Q
end

section
/- tape: takes. -/
namespace Q
open Go Go.Abs
set_option linter.unusedVariables false
set_option linter.unusedSimpArgs false

/-- it is a tape -/
def TFit (b : List Int) (at_ : Int) : Prop := (b.length : Int) ≤ 1048576 ∧ 0 ≤ at_ ∧ at_ ≤ (b.length : Int)
instance (b : List Int) (at_ : Int) : Decidable (TFit b at_) := inferInstanceAs (Decidable (_ ∧ _))
theorem tape_Fit (b : List Int) (at_ : Int) {ρ : Type} (k : Bool → Option ρ) : P.tape_Fit b at_ k = k (decide (TFit b at_)) := by
  rw [P.tape_Fit_eq]; unfold P.tape_Fit_raw
  by_cases h1 : (b.length : Int) ≤ 1048576
  · by_cases h2 : at_ ≥ 0
    · rw [br_pos h1, br_pos h2]
      congr 1
      exact decide_eq_decide.2 ⟨fun h => ⟨h1, h2, h⟩, fun h => h.2.2⟩
    · rw [br_pos h1, br_neg h2, decide_eq_false (fun h => h2 h.2.1)]
  · rw [br_neg h1, decide_eq_false (fun h => h1 h.1)]

/-- what is told of a take -/
def tkE (b : List Int) (at_ n : Int) : Int := if TFit b at_ then if n < 0 then 8 else if n > (b.length : Int) - at_ then 13 else 0 else 1
def cut (b : List Int) (at_ n : Int) : List Int := (b.take (at_ + n).toNat).drop at_.toNat
theorem tkE_zero {b : List Int} {at_ n : Int} (h : tkE b at_ n = 0) : TFit b at_ ∧ 0 ≤ n ∧ n ≤ (b.length : Int) - at_ := by
  unfold tkE at h
  split at h
  · rename_i hf
    split at h
    · cases h
    · split at h
      · cases h
      · exact ⟨hf, by omega, by omega⟩
  · cases h
theorem tkE_ok {b : List Int} {at_ n : Int} (hf : TFit b at_) (h0 : 0 ≤ n) (h1 : n ≤ (b.length : Int) - at_) : tkE b at_ n = 0 := by
  unfold tkE; rw [if_pos hf, if_neg (by omega), if_neg (by omega)]
theorem cut_len {b : List Int} {at_ n : Int} (h : tkE b at_ n = 0) : ((cut b at_ n).length : Int) = n := by
  obtain ⟨⟨h1, h2, h3⟩, h4, h5⟩ := tkE_zero h
  unfold cut; simp; omega

/-- the bytes behind the parts of a take -/
theorem take_eq {ρ : Type} (b : List Int) (at_ n : Int) (k : Int → Int → List Int → Int → Option ρ) (F : List Int → (List Int → Option ρ) → Option ρ) (hF : ∀ l, l.length ≤ 140737488355328 → ∀ k, F l k = k l)
    (kz : Option ρ) (ks : List Int → Option ρ) (hb : TFit b at_) (h0 : ¬ n < 0) (h1 : ¬ n > (b.length : Int) - at_) :
    br (decide ((0 : Int) ≤ IntKind.i64.wrap (IntKind.i64.wrap (at_ + n) - n))) (br (decide (IntKind.i64.wrap (IntKind.i64.wrap (at_ + n) - n) ≤ IntKind.i64.wrap (at_ + n)))
      (br (decide (IntKind.i64.wrap (at_ + n) ≤ (↑b.length : Int))) (F (List.drop (IntKind.i64.wrap (IntKind.i64.wrap (at_ + n) - n)).toNat (List.take (IntKind.i64.wrap (at_ + n)).toNat b)) ks) kz) kz) kz = ks (cut b at_ n) := by
  obtain ⟨h2, h3, h4⟩ := hb
  rw [i64w (x := at_ + n) (by omega) (by omega), i64w (x := at_ + n - n) (by omega) (by omega), show at_ + n - n = at_ by omega, br_pos (by omega), br_pos (by omega), br_pos (by omega), hF _ (by simp; omega)]
  rfl
theorem clone_byte (l : List Int) (h : l.length ≤ 140737488355328) {ρ : Type} (k : List Int → Option ρ) : P.slices_Clone_byte l k = k l := by
  unfold P.slices_Clone_byte; rw [br_pos (by omega)]

theorem tape_Take (b : List Int) (at_ n : Int) {ρ : Type} (k : List Int → Int → List Int → Int → Option ρ) : P.tape_Take b at_ n k = if tkE b at_ n = 0 then k b (at_ + n) (cut b at_ n) 0 else k b at_ [] (tkE b at_ n) := by
  rw [P.tape_Take_eq]; unfold P.tape_Take_raw
  rw [tape_Fit, br_not]
  by_cases hf : TFit b at_
  · rw [decide_eq_true hf, br_tt]
    by_cases h0 : n < 0
    · have : tkE b at_ n = 8 := by unfold tkE; rw [if_pos hf, if_pos h0]
      rw [br_pos h0, this, if_neg (by omega)]
    · have hw : IntKind.i64.wrap ((b.length : Int) - at_) = (b.length : Int) - at_ := i64w (by obtain ⟨h2, h3, h4⟩ := hf; omega) (by obtain ⟨h2, h3, h4⟩ := hf; omega)
      rw [br_neg h0, hw]
      by_cases h1 : n > (b.length : Int) - at_
      · have : tkE b at_ n = 13 := by unfold tkE; rw [if_pos hf, if_neg h0, if_pos h1]
        rw [br_pos h1, this, if_neg (by omega)]
      · have e0 := tkE_ok (n := n) hf (by omega) (by omega)
        have hwn : IntKind.i64.wrap (at_ + n) = at_ + n := i64w (by obtain ⟨h2, h3, h4⟩ := hf; omega) (by obtain ⟨h2, h3, h4⟩ := hf; omega)
        rw [br_neg h1, if_pos e0]
        have := take_eq b at_ n (fun _ _ _ _ => none) P.slices_Clone_byte (fun l hl k => clone_byte l hl k) none (fun q1 : List Int => k b (IntKind.i64.wrap (at_ + n)) q1 (0 : Int)) hf h0 h1
        rw [this, hwn]
  · have : tkE b at_ n = 1 := by unfold tkE; rw [if_neg hf]
    rw [decide_eq_false hf, br_ff, this, if_neg (by omega)]

/-- parts: how far, and which; or what is told -/
def partsS (b : List Int) : Int → List (List Int) → List Int → Int × List (List Int) × Int
  | at_, out, [] => (at_, out, 0)
  | at_, out, n :: l => if tkE b at_ n = 0 then partsS b (at_ + n) (out ++ [cut b at_ n]) l else (at_, out, tkE b at_ n)

theorem tkE_nat (b : List Int) (at_ n : Int) : tkE b at_ n = 0 ∨ tkE b at_ n = 1 ∨ tkE b at_ n = 8 ∨ tkE b at_ n = 13 := by
  unfold tkE; split
  · split
    · simp
    · split <;> simp
  · simp

theorem tape_Parts (b : List Int) (a0 : Int) (l : List Int) (hl : l.length ≤ 100000) {ρ : Type} (k : List Int → Int → List (List Int) → Int → Option ρ) :
    P.tape_Parts b a0 l k = if (partsS b a0 [] l).2.2 = 0 then k b (partsS b a0 [] l).1 (partsS b a0 [] l).2.1 0 else k b a0 [] (partsS b a0 [] l).2.2 := by
  rw [P.tape_Parts_eq]; unfold P.tape_Parts_raw
  rw [P.tape_Parts_l5_eq]; unfold P.tape_Parts_L5
  refine lp_eq (P := fun x => ∃ (i : Nat) (out : List (List Int)) (a e : Int), x = (l, (l.length : Int), (i : Int), out, b, a0, (0 : Int), b, a, e) ∧ i ≤ l.length ∧ out.length = i ∧ ((e = 0 ∧ partsS b a0 [] l = partsS b a out (l.drop i)) ∨ (e ≠ 0 ∧ (partsS b a0 [] l).2.2 = e)))
    (μ := fun x => ((l.length : Int) - x.2.2.1).toNat) ?_ ⟨0, [], a0, 0, by simp, by omega, rfl, .inl ⟨rfl, by simp⟩⟩ (by simp only; omega)
  rintro _ ⟨i, out, a, e, rfl, hi, hout, hcase⟩ next hn
  simp only [P.tape_Parts_r5, toNat_cast]
  by_cases hil : i < l.length
  · rw [br_pos (by omega), br_pos (by omega), br_pos (by omega), i64w (by omega) (by omega)]
    rcases hcase with ⟨rfl, hp⟩ | ⟨he, hp⟩
    · rw [br_bne_neg rfl, tape_Fit, br_not]
      rw [drop_step l 0 i hil] at hp
      simp only [partsS] at hp
      by_cases hf : TFit b a
      · rw [decide_eq_true hf, br_tt]
        by_cases h0 : l.getD i 0 < 0
        · have e8 : tkE b a (l.getD i 0) = 8 := by unfold tkE; rw [if_pos hf, if_pos h0]
          rw [e8, if_neg (by omega)] at hp
          rw [br_pos h0, br_pos (by omega)]
          exact hn _ ⟨i + 1, _, a, 8, rfl, by omega, by simp; omega, .inr ⟨by omega, by rw [hp]⟩⟩ (by simp only; omega)
        · have hw : IntKind.i64.wrap ((b.length : Int) - a) = (b.length : Int) - a := i64w (by obtain ⟨h2, h3, h4⟩ := hf; omega) (by obtain ⟨h2, h3, h4⟩ := hf; omega)
          rw [br_neg h0, hw]
          by_cases h1 : l.getD i 0 > (b.length : Int) - a
          · have e13 : tkE b a (l.getD i 0) = 13 := by unfold tkE; rw [if_pos hf, if_neg h0, if_pos h1]
            rw [e13, if_neg (by omega)] at hp
            rw [br_pos h1, br_pos (by omega)]
            exact hn _ ⟨i + 1, _, a, 13, rfl, by omega, by simp; omega, .inr ⟨by omega, by rw [hp]⟩⟩ (by simp only; omega)
          · have e0 := tkE_ok (n := l.getD i 0) hf (by omega) (by omega)
            have hwn : IntKind.i64.wrap (a + l.getD i 0) = a + l.getD i 0 := i64w (by obtain ⟨h2, h3, h4⟩ := hf; omega) (by obtain ⟨h2, h3, h4⟩ := hf; omega)
            rw [e0, if_pos rfl] at hp
            rw [br_neg h1, take_eq b a (l.getD i 0) (fun _ _ _ _ => none) P.slices_Clone_byte (fun l hl k => clone_byte l hl k) none _ hf h0 h1, br_pos (by omega), hwn]
            exact hn _ ⟨i + 1, _, a + l.getD i 0, 0, rfl, by omega, by simp; omega, .inl ⟨rfl, hp⟩⟩ (by simp only; omega)
      · have e1 : tkE b a (l.getD i 0) = 1 := by unfold tkE; rw [if_neg hf]
        rw [e1, if_neg (by omega)] at hp
        rw [decide_eq_false hf, br_ff, br_pos (by omega)]
        exact hn _ ⟨i + 1, _, a, 1, rfl, by omega, by simp; omega, .inr ⟨by omega, by rw [hp]⟩⟩ (by simp only; omega)
    · rw [br_bne_pos he, br_pos (by omega)]
      exact hn _ ⟨i + 1, _, a, e, rfl, by omega, by simp; omega, .inr ⟨he, hp⟩⟩ (by simp only; omega)
  · rw [br_neg (by omega)]
    rcases hcase with ⟨rfl, hp⟩ | ⟨he, hp⟩
    · rw [List.drop_eq_nil_of_le (by omega)] at hp
      simp only [partsS] at hp
      rw [br_bne_neg rfl, hp, if_pos rfl]
    · rw [br_bne_pos he, hp, if_neg he]

theorem tape_Left (b : List Int) (at_ : Int) {ρ : Type} (k : Int → Option ρ) : P.tape_Left b at_ k = k (if TFit b at_ then (b.length : Int) - at_ else 0) := by
  rw [P.tape_Left_eq]; unfold P.tape_Left_raw
  rw [tape_Fit, br_not]
  by_cases hf : TFit b at_
  · rw [decide_eq_true hf, br_tt, if_pos hf]
    obtain ⟨h1, h2, h3⟩ := hf
    rw [br_pos (by omega), br_pos (by omega), br_pos (by omega)]
    congr 1
    simp; omega
  · rw [decide_eq_false hf, br_ff, if_neg hf]

theorem R13_Same (a b : List Int) (x y : Int) (h : a.length ≤ 140737488355328) {ρ : Type} (k : Bool → Option ρ) : P.R13_Same a x b y k = k (decide (x = y ∧ a = b)) := by
  rw [P.R13_Same_eq]; unfold P.R13_Same_raw
  by_cases e : x = y
  · rw [br_beq_pos e, R01_Same a b h]
    congr 1
    exact decide_eq_decide.2 ⟨fun h => ⟨e, h⟩, fun h => h.2⟩
  · rw [br_beq_neg e, decide_eq_false (fun h => e h.1)]

theorem L13_awake {ρ : Type} (k : Bool → Option ρ) : P.L13_awake k = k true := by
  rw [P.L13_awake_eq]; unfold P.L13_awake_raw
  have e1 : tkE [(1 : Int), 2, 3] 0 2 = 0 := by decide
  have e2 : tkE [(1 : Int), 2, 3] (0 + 2) 2 = 13 := by decide
  have e3 : cut [(1 : Int), 2, 3] 0 2 = [1, 2] := by decide
  rw [tape_Take, if_pos e1, tape_Take, e2, if_neg (by omega), br_beq_pos rfl, e3, R01_Same _ _ (by simp), decide_eq_true rfl, br_tt]
  rfl
end Q
end

section
/- tape: the document's answers; texts in order. -/
namespace Q
open Go Go.Abs
set_option linter.unusedVariables false
set_option linter.unusedSimpArgs false

/-- which text is ahead -/
def lexLt : List Int → List Int → Bool
  | _, [] => false
  | [], _ :: _ => true
  | x :: a, y :: b => if x = y then lexLt a b else decide (x < y)
theorem lexLt_self : ∀ a, lexLt a a = false
  | [] => rfl
  | x :: a => by simp [lexLt, lexLt_self a]

theorem R04_Less (a b : List Int) (ha : a.length ≤ 140737488355328) {ρ : Type} (k : Bool → Option ρ) : P.R04_Less a b k = k (lexLt a b) := by
  rw [P.R04_Less_eq]; unfold P.R04_Less_raw
  rw [P.R04_Less_l2_eq]; unfold P.R04_Less_L2
  refine lp_eq (P := fun x => ∃ j : Nat, x = (a, b, (j : Int)) ∧ j ≤ a.length ∧ j ≤ b.length ∧ lexLt a b = lexLt (a.drop j) (b.drop j)) (μ := fun x => ((a.length : Int) - x.2.2).toNat) ?_ ⟨0, rfl, by omega, by omega, rfl⟩ (by simp only; omega)
  rintro _ ⟨j, rfl, hja, hjb, he⟩ next hn
  simp only [P.R04_Less_r2, toNat_cast, Sum.elim_inl, Sum.elim_inr]
  by_cases h1 : j < a.length
  · by_cases h2 : j < b.length
    · rw [drop_step a 0 j h1, drop_step b 0 j h2] at he
      simp only [lexLt] at he
      by_cases e : a.getD j 0 = b.getD j 0
      · rw [if_pos e] at he
        simp (disch := omega) only [br_pos, br_neg, br_bne_pos, br_bne_neg, br_beq_pos, br_beq_neg, br_not, br_tt, br_ff, i64w]
        exact hn _ ⟨j + 1, rfl, by omega, by omega, he⟩ (by simp only; omega)
      · rw [if_neg e] at he
        simp (disch := omega) only [br_pos, br_neg, br_bne_pos, br_bne_neg, br_beq_pos, br_beq_neg, br_not, br_tt, br_ff, i64w, he]
    · rw [br_pos (by omega), br_neg (by omega), he, List.drop_eq_nil_of_le (show b.length ≤ j by omega)]
      congr 1
      rw [decide_eq_false (by omega)]
      cases a.drop j <;> rfl
  · rw [br_neg (by omega), he, List.drop_eq_nil_of_le (show a.length ≤ j by omega)]
    congr 1
    by_cases h2 : j < b.length
    · rw [drop_step b 0 j h2, decide_eq_true (by omega)]; rfl
    · rw [List.drop_eq_nil_of_le (show b.length ≤ j by omega), decide_eq_false (by omega)]; rfl

theorem R04_Same_self (l : List (List Int)) (hl : l.length ≤ 140737488355328) (h : ∀ i, i < l.length → (l.getD i []).length ≤ 140737488355328) {ρ : Type} (k : Bool → Option ρ) : P.R04_Same l l k = k true := by
  rw [P.R04_Same_eq]; unfold P.R04_Same_raw
  rw [br_bne_neg (by rfl), P.R04_Same_l4_eq]; unfold P.R04_Same_L4
  refine lp_go (fun i => (l, l, (i : Int))) l.length rfl (fun i hi next hn' => ?_) (fun next => ?_) (by omega)
  · simp only [P.R04_Same_r4, toNat_cast, Sum.elim_inl, Sum.elim_inr]
    rw [br_pos (by omega), br_pos (by omega), br_pos (by omega), br_pos (by omega), br_pos (by omega), R04_Less _ _ (h i hi), lexLt_self, br_ff, br_pos (by omega), br_pos (by omega), br_pos (by omega), br_pos (by omega), R04_Less _ _ (h i hi), lexLt_self, br_ff, i64w (by omega) (by omega)]
    exact hn'
  · simp only [P.R04_Same_r4, Sum.elim_inl, Sum.elim_inr]
    rw [br_neg (by omega)]

theorem R13_Fit (b : List Int) (at_ : Int) {ρ : Type} (k : Bool → Option ρ) : P.R13_Fit b at_ k = k (decide (TFit b at_)) := by
  have := tape_Fit b at_ k
  rw [P.tape_Fit_eq] at this
  rw [P.R13_Fit_eq]; exact this
theorem R13_Left (b : List Int) (at_ : Int) {ρ : Type} (k : Int → Option ρ) : P.R13_Left b at_ k = k (if TFit b at_ then (b.length : Int) - at_ else 0) := by
  rw [P.R13_Left_eq]; unfold P.R13_Left_raw
  rw [R13_Fit, br_not]
  by_cases hf : TFit b at_
  · rw [decide_eq_true hf, br_tt, if_pos hf, i64w (by obtain ⟨h1, h2, h3⟩ := hf; omega) (by obtain ⟨h1, h2, h3⟩ := hf; omega)]
  · rw [decide_eq_false hf, br_ff, if_neg hf]

theorem R13_Take (b : List Int) (at_ n : Int) {ρ : Type} (k : List Int → Int → List Int → Int → Option ρ) : P.R13_Take b at_ n k = if tkE b at_ n = 0 then k b (at_ + n) (cut b at_ n) 0 else k b at_ [] (tkE b at_ n) := by
  rw [P.R13_Take_eq]; unfold P.R13_Take_raw
  rw [R13_Fit, br_not]
  by_cases hf : TFit b at_
  · rw [decide_eq_true hf, br_tt]
    by_cases h0 : n < 0
    · have : tkE b at_ n = 8 := by unfold tkE; rw [if_pos hf, if_pos h0]
      rw [br_pos h0, this, if_neg (by omega)]
    · rw [br_neg h0, R13_Left, if_pos hf]
      by_cases h1 : n > (b.length : Int) - at_
      · have : tkE b at_ n = 13 := by unfold tkE; rw [if_pos hf, if_neg h0, if_pos h1]
        rw [br_pos h1, this, if_neg (by omega)]
      · have e0 := tkE_ok (n := n) hf (by omega) (by omega)
        have hwn : IntKind.i64.wrap (at_ + n) = at_ + n := i64w (by obtain ⟨h2, h3, h4⟩ := hf; omega) (by obtain ⟨h2, h3, h4⟩ := hf; omega)
        rw [br_neg h1, if_pos e0, hwn, br_pos hf.2.1, br_pos (by omega), br_pos (by omega)]
        rfl
  · have : tkE b at_ n = 1 := by unfold tkE; rw [if_neg hf]
    rw [decide_eq_false hf, br_ff, this, if_neg (by omega)]

theorem R13_Parts (b : List Int) (a0 : Int) (l : List Int) (hl : l.length ≤ 100000) {ρ : Type} (k : List Int → Int → List (List Int) → Int → Option ρ) :
    P.R13_Parts b a0 l k = if (partsS b a0 [] l).2.2 = 0 then k b (partsS b a0 [] l).1 (partsS b a0 [] l).2.1 0 else k b a0 [] (partsS b a0 [] l).2.2 := by
  rw [P.R13_Parts_eq]; unfold P.R13_Parts_raw
  rw [P.R13_Parts_l4_eq]; unfold P.R13_Parts_L4
  refine lp_eq (P := fun x => ∃ (i : Nat) (out : List (List Int)) (a : Int), x = (l, (i : Int), out, b, a0, (0 : Int), b, a) ∧ i ≤ l.length ∧ out.length = i ∧ partsS b a0 [] l = partsS b a out (l.drop i))
    (μ := fun x => ((l.length : Int) - x.2.1).toNat) ?_ ⟨0, [], a0, by simp, by omega, rfl, by simp⟩ (by simp only; omega)
  rintro _ ⟨i, out, a, rfl, hi, hout, hp⟩ next hn
  simp only [P.R13_Parts_r4, toNat_cast, Sum.elim_inl, Sum.elim_inr]
  by_cases hil : i < l.length
  · rw [drop_step l 0 i hil] at hp
    simp only [partsS] at hp
    rw [br_pos (by omega), br_pos (by omega), br_pos (by omega), R13_Take]
    by_cases e : tkE b a (l.getD i 0) = 0
    · rw [if_pos e] at hp ⊢
      rw [br_bne_neg rfl, br_pos (by omega), i64w (by omega) (by omega)]
      exact hn _ ⟨i + 1, _, _, rfl, by omega, by simp; omega, hp⟩ (by simp only; omega)
    · rw [if_neg e] at hp ⊢
      rw [br_bne_pos e, hp, if_neg e]
  · rw [br_neg (by omega)]
    rw [List.drop_eq_nil_of_le (by omega)] at hp
    simp only [partsS] at hp
    rw [hp, if_pos rfl]

theorem slices_Equal_byte (a b : List Int) (h : a.length ≤ 140737488355328) {ρ : Type} (k : Bool → Option ρ) : P.slices_Equal_byte a b k = k (decide (a = b)) := by
  rw [P.slices_Equal_byte_eq]
  unfold P.slices_Equal_byte_raw
  by_cases hl : a.length = b.length
  · rw [br_bne_neg (by omega), P.slices_Equal_byte_l4_eq]
    unfold P.slices_Equal_byte_L4
    refine lp_eq (P := fun x => ∃ j : Nat, x = (a, b, (a.length : Int), (j : Int)) ∧ j ≤ a.length ∧ (a.drop j = b.drop j ↔ a = b)) (μ := fun x => ((a.length : Int) - x.2.2.2).toNat) ?_ ⟨0, rfl, by omega, by simp⟩ (by simp only; omega)
    rintro _ ⟨j, rfl, hj, he⟩ next hn
    simp only [P.slices_Equal_byte_r4, toNat_cast, Sum.elim_inl, Sum.elim_inr]
    by_cases hji : j < a.length
    · rw [drop_step a 0 j hji, drop_step b 0 j (by omega), List.cons.injEq] at he
      by_cases hab : a.getD j 0 = b.getD j 0
      · simp (disch := omega) only [br_pos, br_neg, br_bne_pos, br_bne_neg, br_beq_pos, br_beq_neg, br_not, br_tt, br_ff, i64w]
        exact hn _ ⟨j + 1, rfl, by omega, by rw [← he]; exact ⟨fun h => ⟨hab, h⟩, fun h => h.2⟩⟩ (by simp only; omega)
      · simp (disch := omega) only [br_pos, br_neg, br_bne_pos, br_bne_neg, br_beq_pos, br_beq_neg, br_not, br_tt, br_ff, i64w]
        rw [decide_eq_false (fun e => hab (he.2 e).1)]
    · rw [br_neg (by omega), decide_eq_true (he.1 (by rw [List.drop_eq_nil_of_le (by omega), List.drop_eq_nil_of_le (by omega)]))]
  · rw [br_bne_pos (by omega), decide_eq_false (fun e => hl (by rw [e]))]
theorem tape_Same (a b : List Int) (x y : Int) (h : a.length ≤ 140737488355328) {ρ : Type} (k : Bool → Option ρ) : P.tape_Same a x b y k = k (decide (x = y ∧ a = b)) := by
  rw [P.tape_Same_eq]; unfold P.tape_Same_raw
  by_cases e : x = y
  · rw [br_beq_pos e, slices_Equal_byte a b h]
    congr 1
    exact decide_eq_decide.2 ⟨fun h => ⟨e, h⟩, fun h => h.2⟩
  · rw [br_beq_neg e, decide_eq_false (fun h => e h.1)]
end Q
end

section
/- The plain law of TapeTells. -/
namespace Q
open Go Go.Abs
set_option linter.unusedVariables false
set_option linter.unusedSimpArgs false

theorem cut_le (b : List Int) (a n : Int) : (cut b a n).length ≤ b.length := by unfold cut; simp; omega
theorem parts_fact (b : List Int) : ∀ (l : List Int) (a : Int) (out : List (List Int)), (∀ r, r ∈ out → r.length ≤ b.length) →
    (∀ r, r ∈ (partsS b a out l).2.1 → r.length ≤ b.length) ∧ (partsS b a out l).2.1.length ≤ out.length + l.length
  | [], a, out, h => ⟨h, by simp [partsS]⟩
  | n :: l, a, out, h => by
    simp only [partsS]
    split
    · obtain ⟨h1, h2⟩ := parts_fact b l (a + n) (out ++ [cut b a n]) (fun r hr => by
        rcases List.mem_append.1 hr with hr | hr
        · exact h r hr
        · rw [List.mem_singleton.1 hr]; exact cut_le b a n)
      exact ⟨h1, by simp at h2 ⊢; first | omega | exact h2⟩
    · exact ⟨h, by simp⟩

theorem TapeTells (x0_Bytes : List Int) (x0_At : Int) (x1_Bytes : List Int) (x1_At : Int) (x2 : Int) (x3 : List Int) (nx0_Bytes : x0_Bytes.length ≤ 140737488355328) (wx0_Bytes : ∀ x, x ∈ x0_Bytes → wfI .u8 x) (wx0_At : wfI .i64 x0_At) (nx1_Bytes : x1_Bytes.length ≤ 140737488355328) (wx1_Bytes : ∀ x, x ∈ x1_Bytes → wfI .u8 x) (wx1_At : wfI .i64 x1_At) (wx2 : wfI .i64 x2) (nx3 : x3.length ≤ 140737488355328) (wx3 : ∀ x, x ∈ x3 → wfI .i64 x) {ρ : Type} (k : Bool → Option ρ) : P.L13_TapeTells x0_Bytes x0_At x1_Bytes x1_At x2 x3 k = k true := by
  rw [P.L13_TapeTells_eq]; unfold P.L13_TapeTells_raw
  rw [i64w (by omega) (by omega)]
  by_cases g1 : (x0_Bytes.length : Int) + (x1_Bytes.length : Int) > 2000
  · rw [br_pos g1, L13_awake]
  rw [br_neg g1]
  by_cases g2 : (x3.length : Int) > 20
  · rw [br_pos g2, L13_awake]
  rw [br_neg g2]
  generalize x0_Bytes = b at *
  generalize x0_At = a at *
  obtain ⟨hr, hn⟩ := parts_fact b x3 a [] (fun r hr => by simp at hr)
  have hg : ∀ i, i < (partsS b a [] x3).2.1.length → ((partsS b a [] x3).2.1.getD i []).length ≤ 140737488355328 := fun i hi => by
    have := hr _ (List.getElem_mem hi)
    rw [getD_lt hi]; omega
  have hn2 : (partsS b a [] x3).2.1.length ≤ 140737488355328 := by simp at hn; omega
  have hc := cut_le b a x2
  have fin : ∀ (y : Int) (c : List Int) (e : Int) (z : Int) (o : List (List Int)) (f : Int), c.length ≤ 140737488355328 → o.length ≤ 140737488355328 → (∀ i, i < o.length → (o.getD i []).length ≤ 140737488355328) →
      (P.tape_Fit b a fun (q18 : Bool) => P.R13_Fit b a fun (q19 : Bool) => br (q18 == q19)
        (P.tape_Left b a fun (q20 : Int) => P.R13_Left b a fun (q21 : Int) => br (q20 == q21)
          (P.R13_Same b y b y fun (q22 : Bool) => br q22 (P.R01_Same c c fun (q23 : Bool) => br q23 (br (e == e)
            (P.R13_Same b z b z fun (q24 : Bool) => br q24 (P.R04_Same o o fun (q25 : Bool) => br q25 (br (f == f)
              (P.tape_Same b a x1_Bytes x1_At fun (q26 : Bool) => P.R13_Same b a x1_Bytes x1_At fun (q27 : Bool) => br (q26 == q27)
                (P.tape_Same b a b a fun (q28 : Bool) => br q28 (P.L13_awake fun (q29 : Bool) => k q29) (k false)) (k false)) (k false)) (k false)) (k false)) (k false)) (k false)) (k false)) (k false)) (k false)) = k true := by
    intro y c e z o f hc ho hg
    rw [tape_Fit, R13_Fit, beq_self_eq_true, br_tt, tape_Left, R13_Left, beq_self_eq_true, br_tt, R13_Same _ _ _ _ nx0_Bytes, decide_eq_true ⟨rfl, rfl⟩, br_tt, R01_Same _ _ hc, decide_eq_true rfl, br_tt, beq_self_eq_true, br_tt,
      R13_Same _ _ _ _ nx0_Bytes, decide_eq_true ⟨rfl, rfl⟩, br_tt, R04_Same_self o ho hg, br_tt, beq_self_eq_true, br_tt, tape_Same _ _ _ _ nx0_Bytes, R13_Same _ _ _ _ nx0_Bytes, beq_self_eq_true, br_tt, tape_Same _ _ _ _ nx0_Bytes, decide_eq_true ⟨rfl, rfl⟩, br_tt, L13_awake]
  have hP1 := tape_Parts b a x3 (by omega) (ρ := ρ)
  have hP2 := R13_Parts b a x3 (by omega) (ρ := ρ)
  by_cases e1 : tkE b a x2 = 0
  · rw [tape_Take, if_pos e1, R13_Take, if_pos e1, hP1]
    by_cases e2 : (partsS b a [] x3).2.2 = 0
    · rw [if_pos e2, hP2, if_pos e2]
      exact fin _ _ _ _ _ _ (by omega) hn2 hg
    · rw [if_neg e2, hP2, if_neg e2]
      exact fin _ _ _ _ _ _ (by omega) (by simp) (fun i hi => by simp at hi)
  · rw [tape_Take, if_neg e1, R13_Take, if_neg e1, hP1]
    by_cases e2 : (partsS b a [] x3).2.2 = 0
    · rw [if_pos e2, hP2, if_pos e2]
      exact fin _ _ _ _ _ _ (by simp) hn2 hg
    · rw [if_neg e2, hP2, if_neg e2]
      exact fin _ _ _ _ _ _ (by simp) (by simp) (fun i hi => by simp at hi)
end Q
end
