/-
  BitsTexts, part K: an interpreter of my own over abstract values, the pure functions, the walks and the plain law.
-/

import Derived.Test.YtmaoicbiekgmhaaBitsTextsJ
import Derived.Laws.Bits64
import Derived.Test.YtmaoicbiekgmhaaBitsTextsF
import Derived.Test.YtmaoicbiekgmhaaBitsTextsG

section
/- Small laws for the plain proofs. -/
namespace Q
open Go Go.Abs
set_option linter.unusedVariables false

/-- all from 0 up and below a bound -/
def In (m : Int) (l : List Int) : Prop := ∀ x, x ∈ l → 0 ≤ x ∧ x < m

theorem wf_u8 {n : Int} (h : wfI .u8 n) : 0 ≤ n ∧ n < 256 := by
  simp [wfI, Lit.wf, IntKind.min, IntKind.max, IntKind.signed, IntKind.bits] at h; omega
theorem wf_u32 {n : Int} (h : wfI .u32 n) : 0 ≤ n ∧ n < 4294967296 := by
  simp [wfI, Lit.wf, IntKind.min, IntKind.max, IntKind.signed, IntKind.bits] at h; omega
theorem wf_u64 {n : Int} (h : wfI .u64 n) : 0 ≤ n ∧ n < 18446744073709551616 := by
  simp [wfI, Lit.wf, IntKind.min, IntKind.max, IntKind.signed, IntKind.bits] at h; omega
theorem wf_i64 {n : Int} (h : wfI .i64 n) : -9223372036854775808 ≤ n ∧ n ≤ 9223372036854775807 := by
  simp [wfI, Lit.wf, IntKind.min, IntKind.max, IntKind.signed, IntKind.bits] at h; omega
theorem in_u8 {l : List Int} (h : ∀ x, x ∈ l → wfI .u8 x) : In 256 l := fun x hx => wf_u8 (h x hx)
theorem in_u32 {l : List Int} (h : ∀ x, x ∈ l → wfI .u32 x) : In 4294967296 l := fun x hx => wf_u32 (h x hx)
theorem in_u64 {l : List Int} (h : ∀ x, x ∈ l → wfI .u64 x) : In 18446744073709551616 l := fun x hx => wf_u64 (h x hx)

theorem In.tail {m x : Int} {l : List Int} (h : In m (x :: l)) : In m l := fun y hy => h y (List.mem_cons_of_mem _ hy)
theorem In.head {m x : Int} {l : List Int} (h : In m (x :: l)) : 0 ≤ x ∧ x < m := h x (List.mem_cons_self ..)
theorem In.app {m : Int} {l r : List Int} (h1 : In m l) (h2 : In m r) : In m (l ++ r) := fun y hy => (List.mem_append.1 hy).elim (h1 y) (h2 y)
theorem In.left {m : Int} {l r : List Int} (h : In m (l ++ r)) : In m l := fun y hy => h y (List.mem_append_left _ hy)
theorem In.right {m : Int} {l r : List Int} (h : In m (l ++ r)) : In m r := fun y hy => h y (List.mem_append_right _ hy)
theorem In.take {m : Int} {l : List Int} (h : In m l) (n : Nat) : In m (l.take n) := fun y hy => h y (List.mem_of_mem_take hy)
theorem In.drop {m : Int} {l : List Int} (h : In m l) (n : Nat) : In m (l.drop n) := fun y hy => h y (List.mem_of_mem_drop hy)
theorem In.nil {m : Int} : In m [] := fun y hy => by simp at hy
theorem In.rev {m : Int} {l : List Int} (h : In m l) : In m l.reverse := fun y hy => h y (by simpa using hy)
theorem In.getD {m : Int} {l : List Int} (h : In m l) (i : Nat) (hm : 0 < m) : 0 ≤ l.getD i 0 ∧ l.getD i 0 < m := by
  rw [List.getD_eq_getElem?_getD]
  by_cases hi : i < l.length
  · rw [List.getElem?_eq_getElem hi]; exact h _ (List.getElem_mem hi)
  · rw [List.getElem?_eq_none (by omega)]; exact ⟨Int.le_refl 0, hm⟩
theorem In.map {m : Int} {α : Type} {l : List α} {f : α → Int} (h : ∀ a, a ∈ l → 0 ≤ f a ∧ f a < m) : In m (l.map f) := fun y hy => by
  obtain ⟨a, ha, rfl⟩ := List.mem_map.1 hy
  exact h a ha

theorem br_bne_pos {α : Type} {a b : Int} (h : ¬ a = b) (x y : α) : br (a != b) x y = x := by rw [bne_iff_ne.2 h]; exact br_tt x y
theorem br_bne_neg {α : Type} {a b : Int} (h : a = b) (x y : α) : br (a != b) x y = y := by rw [bne_eq_false_iff_eq.2 h]; exact br_ff x y
theorem br_beq_pos {α : Type} {a b : Int} (h : a = b) (x y : α) : br (a == b) x y = x := by rw [beq_iff_eq.2 h]; exact br_tt x y
theorem br_beq_neg {α : Type} {a b : Int} (h : ¬ a = b) (x y : α) : br (a == b) x y = y := by rw [beq_eq_false_iff_ne.2 h]; exact br_ff x y
theorem br_not {α : Type} (b : Bool) (x y : α) : br (!b) x y = br b y x := by cases b <;> simp
theorem br_dec {α : Type} (p : Prop) [Decidable p] (x y : α) : br (decide p) x y = if p then x else y := by
  by_cases h : p
  · rw [br_pos h, if_pos h]
  · rw [br_neg h, if_neg h]
theorem br_same {α : Type} (b : Bool) (x : α) : br b x x = x := by cases b <;> simp

/-- A LOOP that goes up: its states by a number. -/
theorem lp_up {X Y ρ : Type} {stp : X → (X → Option ρ) → (Y → Option ρ) → Option ρ} {K : Y → Option ρ} {r : Option ρ} (S : Nat → X) (n : Nat)
    (hstep : ∀ i, i < n → ∀ next, next (S (i + 1)) = r → stp (S i) next K = r) (hend : ∀ next, stp (S n) next K = r) {i : Nat} (hi : i ≤ n) (hn : n ≤ 18446744073709551616) : lp stp (S i) K = r := by
  have key : ∀ m i, m + i = n → lpN stp K m (S i) = r ∧ ∀ q, m ≤ q → lpN stp K q (S i) = r := by
    intro m
    induction m with
    | zero =>
      intro i hi
      have : i = n := by omega
      subst this
      refine ⟨hend _, fun q _ => ?_⟩
      cases q with
      | zero => exact hend _
      | succ q => exact hend _
    | succ m ih =>
      intro i hi
      refine ⟨hstep i (by omega) _ (ih (i + 1) (by omega)).1, fun q hq => ?_⟩
      cases q with
      | zero => omega
      | succ q => exact hstep i (by omega) _ ((ih (i + 1) (by omega)).2 q (by omega))
  exact (key (n - i) i (by omega)).2 FU (by rw [FU_eq]; omega)

theorem getD_lt {α : Type} {l : List α} {d : α} {i : Nat} (h : i < l.length) : l.getD i d = l[i] := by
  rw [List.getD_eq_getElem?_getD, List.getElem?_eq_getElem h]; rfl
theorem getD_ge {α : Type} {l : List α} {d : α} {i : Nat} (h : l.length ≤ i) : l.getD i d = d := by
  rw [List.getD_eq_getElem?_getD, List.getElem?_eq_none h]; rfl
theorem toNat_cast (n : Nat) : ((n : Int)).toNat = n := Int.toNat_natCast n

/-- 'out[i] = f i', from the beginning on -/
theorem fill_step (f : Nat → Int) (i n : Nat) (h : i < n) (d : Int) : ((List.range i).map f ++ List.replicate (n - i) d).set i (f i) = (List.range (i + 1)).map f ++ List.replicate (n - (i + 1)) d := by
  rw [List.set_append_right _ _ (by simp), show n - i = (n - (i + 1)) + 1 by omega, List.replicate_succ]
  simp [List.range_succ]
theorem range_map_step {α : Type} (f : Nat → α) (i : Nat) : (List.range i).map f ++ [f i] = (List.range (i + 1)).map f := by simp [List.range_succ]
theorem take_step {α : Type} (l : List α) (d : α) (i : Nat) (h : i < l.length) : l.take i ++ [l.getD i d] = l.take (i + 1) := by
  rw [getD_lt h, List.take_add_one, List.getElem?_eq_getElem h]; rfl
theorem drop_step {α : Type} (l : List α) (d : α) (i : Nat) (h : i < l.length) : l.drop i = l.getD i d :: l.drop (i + 1) := by
  rw [getD_lt h]; exact List.drop_eq_getElem_cons h
end Q
end

section
open Go Go.Abs
set_option linter.unusedVariables false
namespace P
noncomputable def R01_SameNums_r4 {ρ : Type} (v0 : List Int) (v1 : List Int) (v5 : Int) (nx : (List Int) → (List Int) → Int → Option ρ) (k0 : (List Int) → (List Int) → Int → Option ρ) (k1 : Bool → Option ρ) : Option ρ :=
  br (decide (v5 < (↑v0.length : Int)))
    (br (decide ((0 : Int) ≤ v5))
      (br (decide (v5 < (↑v0.length : Int)))
        (br (decide ((0 : Int) ≤ v5))
          (br (decide (v5 < (↑v1.length : Int)))
            (br (v0.getD v5.toNat (0 : Int) != v1.getD v5.toNat (0 : Int)) (k1 false)
              (nx v0 v1 (IntKind.i64.wrap (v5 + (1 : Int)))))
            none)
          none)
        none)
      none)
    (k0 v0 v1 v5)
noncomputable def R01_SameNums_L4 {ρ : Type} (v0 : List Int) (v1 : List Int) (v5 : Int) (k0 : (List Int) → (List Int) → Int → Option ρ) (k1 : Bool → Option ρ) : Option ρ :=
  lp (fun (x : (List Int) × (List Int) × Int) (next : ((List Int) × (List Int) × Int) → Option ρ) (ex : (((List Int) × (List Int) × Int) ⊕ ((Bool))) → Option ρ) => R01_SameNums_r4 x.1 x.2.1 x.2.2 (fun v0 v1 v5 => next (v0, v1, v5)) (fun v0 v1 v5 => ex (.inl (v0, v1, v5))) (fun v4 => ex (.inr v4))) (v0, v1, v5) (Sum.elim (fun x => k0 x.1 x.2.1 x.2.2) (fun x => k1 x))
noncomputable def R01_SameNums_l4 {ρ : Type} (v0 : List Int) (v1 : List Int) (v5 : Int) (k0 : (List Int) → (List Int) → Int → Option ρ) (k1 : Bool → Option ρ) : Option ρ := shut (R01_SameNums_L4 (ρ := ρ)) v0 v1 v5 k0 k1
theorem R01_SameNums_l4_eq {ρ : Type} (v0 : List Int) (v1 : List Int) (v5 : Int) (k0 : (List Int) → (List Int) → Int → Option ρ) (k1 : Bool → Option ρ) : R01_SameNums_l4 v0 v1 v5 k0 k1 = R01_SameNums_L4 v0 v1 v5 k0 k1 := by unfold R01_SameNums_l4; rw [shut_eq]
noncomputable def R01_SameNums_raw {ρ : Type} (a0 : List Int) (a1 : List Int) (k : Bool → Option ρ) : Option ρ :=
  br ((↑a0.length : Int) != (↑a1.length : Int)) (k false)
    (R01_SameNums_l4 a0 a1 (0 : Int) (fun (q0 q1 : List Int) (q2 : Int) => k true) fun (q3 : Bool) => k q3)
noncomputable def R01_SameNums {ρ : Type} (a0 : List Int) (a1 : List Int) (k : Bool → Option ρ) : Option ρ := shut (R01_SameNums_raw (ρ := ρ)) a0 a1 k
theorem R01_SameNums_eq {ρ : Type} (a0 : List Int) (a1 : List Int) (k : Bool → Option ρ) : R01_SameNums a0 a1 k = R01_SameNums_raw a0 a1 k := by unfold R01_SameNums; rw [shut_eq]

end P
end

section
/- bits, the first part: texts. -/
namespace Q
open Go Go.Abs
set_option linter.unusedVariables false
set_option linter.unusedSimpArgs false

theorem same_loop {a b : List Int} (hl : a.length = b.length) (hs : a.length ≤ 140737488355328) {ρ : Type} (k0 : List Int → List Int → Int → Option ρ) (k1 : Bool → Option ρ) :
    ∀ (m i : Nat), i + m = a.length → ∀ {stp : (List Int × List Int × Int) → ((List Int × List Int × Int) → Option ρ) → ((List Int × List Int × Int) ⊕ Bool → Option ρ) → Option ρ} {K : (List Int × List Int × Int) ⊕ Bool → Option ρ},
      (∀ (j : Nat) next, stp (a, b, (j : Int)) next K = br (decide ((j : Int) < (a.length : Int))) (br (a.getD j 0 != b.getD j 0) (k1 false) (next (a, b, ((j + 1 : Nat) : Int)))) (k0 a b (j : Int))) →
      lp stp (a, b, (i : Int)) K = if a.drop i = b.drop i then k0 a b (a.length : Int) else k1 false := by
  intro m i hm stp K hst
  refine lp_eq (P := fun x => ∃ j : Nat, x = (a, b, (j : Int)) ∧ j ≤ a.length ∧ (if a.drop j = b.drop j then k0 a b (a.length : Int) else k1 false) = (if a.drop i = b.drop i then k0 a b (a.length : Int) else k1 false)) (μ := fun x => ((a.length : Int) - x.2.2).toNat) ?_ ⟨i, rfl, by omega, rfl⟩ (by simp only; omega)
  rintro _ ⟨j, rfl, hj, he⟩ next hn
  rw [hst, ← he]
  by_cases hji : j < a.length
  · rw [br_pos (by omega), drop_step a 0 j hji, drop_step b 0 j (by omega)]
    by_cases hab : a.getD j 0 = b.getD j 0
    · rw [br_bne_neg hab, hn _ ⟨j + 1, rfl, by omega, ?_⟩ (by simp only; omega), ← he, drop_step a 0 j hji, drop_step b 0 j (by omega)]
      · rw [← he, drop_step a 0 j hji, drop_step b 0 j (by omega)]
        simp only [hab, List.cons.injEq, true_and]
    · rw [br_bne_pos hab, if_neg (by simp only [List.cons.injEq]; exact fun h => hab h.1)]
  · have : j = a.length := by omega
    subst this
    rw [br_neg (by omega), if_pos (by rw [List.drop_eq_nil_of_le (Nat.le_refl _), List.drop_eq_nil_of_le (by omega)])]

theorem R01_Same (a b : List Int) (h : a.length ≤ 140737488355328) {ρ : Type} (k : Bool → Option ρ) : P.R01_Same a b k = k (decide (a = b)) := by
  rw [P.R01_Same_eq]
  unfold P.R01_Same_raw
  by_cases hl : a.length = b.length
  · rw [br_bne_neg (by omega), P.R01_Same_l4_eq]
    unfold P.R01_Same_L4
    have := same_loop hl h (fun _ _ _ => k true) k a.length 0 (by omega) (stp := (fun x next ex => P.R01_Same_r4 x.1 x.2.1 x.2.2 (fun v0 v1 v5 => next (v0, v1, v5)) (fun v0 v1 v5 => ex (.inl (v0, v1, v5))) (fun v4 => ex (.inr v4)))) (K := Sum.elim (fun _ => k true) k) (by
      intro j next
      simp only [P.R01_Same_r4, Sum.elim_inl, Sum.elim_inr]
      by_cases hj : (j : Int) < (a.length : Int)
      · simp only [br_pos hj]
        simp (disch := omega) only [br_pos, br_neg, br_bne_pos, br_bne_neg, br_beq_pos, br_beq_neg, br_not, br_tt, br_ff, i64w, toNat_cast]
        rfl
      · simp only [br_neg hj])
    simp only [List.drop_zero] at this
    refine this.trans ?_
    by_cases hab : a = b
    · rw [if_pos hab, decide_eq_true hab]
    · rw [if_neg hab, decide_eq_false hab]
  · rw [br_bne_pos (by omega), decide_eq_false (fun e => hl (by rw [e]))]

theorem R01_SameNums (a b : List Int) (h : a.length ≤ 140737488355328) {ρ : Type} (k : Bool → Option ρ) : P.R01_SameNums a b k = k (decide (a = b)) := by
  rw [P.R01_SameNums_eq]
  unfold P.R01_SameNums_raw
  by_cases hl : a.length = b.length
  · rw [br_bne_neg (by omega), P.R01_SameNums_l4_eq]
    unfold P.R01_SameNums_L4
    have := same_loop hl h (fun _ _ _ => k true) k a.length 0 (by omega) (stp := (fun x next ex => P.R01_SameNums_r4 x.1 x.2.1 x.2.2 (fun v0 v1 v5 => next (v0, v1, v5)) (fun v0 v1 v5 => ex (.inl (v0, v1, v5))) (fun v4 => ex (.inr v4)))) (K := Sum.elim (fun _ => k true) k) (by
      intro j next
      simp only [P.R01_SameNums_r4, Sum.elim_inl, Sum.elim_inr]
      by_cases hj : (j : Int) < (a.length : Int)
      · simp only [br_pos hj]
        simp (disch := omega) only [br_pos, br_neg, br_bne_pos, br_bne_neg, br_beq_pos, br_beq_neg, br_not, br_tt, br_ff, i64w, toNat_cast]
        rfl
      · simp only [br_neg hj])
    simp only [List.drop_zero] at this
    refine this.trans ?_
    by_cases hab : a = b
    · rw [if_pos hab, decide_eq_true hab]
    · rw [if_neg hab, decide_eq_false hab]
  · rw [br_bne_pos (by omega), decide_eq_false (fun e => hl (by rw [e]))]

/-- two texts xored -/
def xorS (a b : List Int) : List Int := (List.range (min a.length b.length)).map fun i => bits .xor .u8 (a.getD i 0) (b.getD i 0)

theorem R01_Xor (a b : List Int) (h : a.length ≤ 140737488355327) (h2 : b.length ≤ 140737488355327) {ρ : Type} (k : List Int → Option ρ) : P.R01_Xor a b k = k (xorS a b) := by
  rw [P.R01_Xor_eq]
  unfold P.R01_Xor_raw
  rw [P.R01_Xor_l3_eq]
  unfold P.R01_Xor_L3
  refine lp_up (fun i => (a, b, (i : Int), (List.range i).map fun i => bits .xor .u8 (a.getD i 0) (b.getD i 0))) (min a.length b.length) (fun i hi next hn => ?_) (fun next => ?_) (Nat.zero_le _) (by omega)
  · simp only [P.R01_Xor_r3, List.length_map, List.length_range, toNat_cast]
    simp (disch := omega) only [br_pos, br_neg, br_bne_pos, br_bne_neg, br_beq_pos, br_beq_neg, br_not, br_tt, br_ff, i64w]
    rw [range_map_step (fun i => bits .xor .u8 (a.getD i 0) (b.getD i 0))]
    exact hn
  · simp only [P.R01_Xor_r3, List.length_map, List.length_range, toNat_cast]
    by_cases hm : a.length ≤ b.length
    · rw [br_neg (by omega)]; rfl
    · rw [br_pos (by omega), br_neg (by omega)]; rfl

theorem bits_Xor (a b : List Int) (h : a.length ≤ 140737488355327) (h2 : b.length ≤ 140737488355327) {ρ : Type} (k : List Int → Option ρ) : P.bits_Xor a b k = k (xorS a b) := by
  rw [P.bits_Xor_eq]
  unfold P.bits_Xor_raw
  have e : (bif decide ((↑b.length : Int) < (↑a.length : Int)) then (↑b.length : Int) else (↑a.length : Int)) = ((min a.length b.length : Nat) : Int) := by
    by_cases hl : (b.length : Int) < (a.length : Int)
    · rw [decide_eq_true hl]; simp only [cond_true]; omega
    · rw [decide_eq_false hl]; simp only [cond_false]; omega
  rw [e, br_pos (by omega), br_pos (by omega), toNat_cast]
  unfold P.slices_Clone_byte
  simp only [List.drop_zero, List.length_take]
  rw [br_pos (by omega), P.bits_Xor_l3_eq]
  unfold P.bits_Xor_L3
  have hl0 : (a.take (min a.length b.length)).length = min a.length b.length := by simp
  have key : ∀ i, (fun i : Nat => (b, ((min a.length b.length : Nat) : Int), (i : Int), ((List.range i).map fun i => bits .xor .u8 (a.getD i 0) (b.getD i 0)) ++ (a.take (min a.length b.length)).drop i)) i = (b, ((min a.length b.length : Nat) : Int), (i : Int), ((List.range i).map fun i => bits .xor .u8 (a.getD i 0) (b.getD i 0)) ++ (a.take (min a.length b.length)).drop i) := fun _ => rfl
  have hrun := lp_up (ρ := ρ) (stp := (fun (x : (List Int) × Int × Int × (List Int)) (next : ((List Int) × Int × Int × (List Int)) → Option ρ) (ex : (((List Int) × Int × Int × (List Int))) → Option ρ) => P.bits_Xor_r3 x.1 x.2.1 x.2.2.1 x.2.2.2 (fun v1 v16 v17 h0 => next (v1, v16, v17, h0)) (fun v1 v16 v17 h0 => ex ((v1, v16, v17, h0))))) (K := fun x => k x.2.2.2) (r := k (xorS a b))
    (fun i : Nat => (b, ((min a.length b.length : Nat) : Int), (i : Int), ((List.range i).map fun i => bits .xor .u8 (a.getD i 0) (b.getD i 0)) ++ (a.take (min a.length b.length)).drop i)) (min a.length b.length) (fun i hi next hn => ?_) (fun next => ?_) (i := 0) (Nat.zero_le _) (by omega)
  · simp only [List.range_zero, List.map_nil, List.nil_append, List.drop_zero] at hrun
    rw [show min (min a.length b.length) a.length = min a.length b.length by omega]
    exact hrun
  · have hlen : (((List.range i).map fun i => bits .xor .u8 (a.getD i 0) (b.getD i 0)) ++ (a.take (min a.length b.length)).drop i).length = min a.length b.length := by
      simp; omega
    have hget : (((List.range i).map fun i => bits .xor .u8 (a.getD i 0) (b.getD i 0)) ++ (a.take (min a.length b.length)).drop i).getD i 0 = a.getD i 0 := by
      rw [List.getD_eq_getElem?_getD, List.getElem?_append_right (by simp)]
      simp only [List.length_map, List.length_range, Nat.sub_self, List.getElem?_drop, Nat.add_zero]
      rw [List.getElem?_take_of_lt hi, ← List.getD_eq_getElem?_getD]
    simp only [P.bits_Xor_r3, hlen, toNat_cast]
    simp (disch := omega) only [br_pos, br_neg, br_bne_pos, br_bne_neg, br_beq_pos, br_beq_neg, br_not, br_tt, br_ff, i64w, hget]
    rw [List.set_append_right _ _ (by simp)]
    simp only [List.length_map, List.length_range, Nat.sub_self]
    rw [List.drop_eq_getElem_cons (by rw [hl0]; exact hi), List.set_cons_zero]
    have e2 := range_map_step (fun i => bits .xor .u8 (a.getD i 0) (b.getD i 0)) i

    rw [← e2, List.append_assoc, List.singleton_append] at hn
    exact hn
  · simp only [P.bits_Xor_r3]
    rw [br_neg (by omega), List.drop_eq_nil_of_le (by rw [hl0]; exact Nat.le_refl _), List.append_nil]
    rfl
end Q
end

section
/- bits: the law's own test. -/
namespace Q
open Go Go.Abs
set_option linter.unusedVariables false
set_option linter.unusedSimpArgs false

theorem FU_ge (n : Nat) (h : n ≤ 18446744073709551616) : ∃ m, FU = m + n := ⟨18446744073709551616 - n, by rw [FU_eq]; omega⟩

theorem L01_awake {ρ : Type} (k : Bool → Option ρ) : P.L01_awake k = k true := by
  obtain ⟨m, hm⟩ := FU_ge 20 (by omega)
  simp only [P.L01_awake_eq, P.L01_awake_raw, P.bits_Digits_eq, P.bits_Digits_raw, P.bits_Digits_l6_eq, P.bits_Digits_L6, P.bits_Digits_r6, P.bits_Digits_l8_eq, P.bits_Digits_L8, P.bits_Digits_r8,
    P.bits_Be_eq, P.bits_Be_raw, P.bits_Be_l1_1_eq, P.bits_Be_L1_1, P.bits_Be_r1_1, P.bits_Le_eq, P.bits_Le_raw, P.bits_Le_l5_eq, P.bits_Le_L5, P.bits_Le_r5,
    P.bits_Pack_eq, P.bits_Pack_raw, P.bits_Pack_l6_eq, P.bits_Pack_L6, P.bits_Pack_r6, P.bits_Pack_l10_eq, P.bits_Pack_L10, P.bits_Pack_r10, P.bits_such_eq, P.bits_such_raw,
    P.R01_Same_eq, P.R01_Same_raw, P.R01_Same_l4_eq, P.R01_Same_L4, P.R01_Same_r4, lp, hm]
  kernel_rfl

end Q
end

section
/- The bit operations as numbers. -/
namespace Q
open Go Go.Abs
set_option linter.unusedVariables false

theorem or_u8 (x y : Nat) (hx : x < 256) (hy : y < 256) : bits .or .u8 (x : Int) (y : Int) = ((x ||| y : Nat) : Int) := by
  have h1 : x ||| y < 256 := Nat.or_lt_two_pow (n := 8) hx hy
  have e : bits .or .u8 (x : Int) (y : Int) = IntKind.u8.wrap ((BitVec.ofInt 8 (x : Int) ||| BitVec.ofInt 8 (y : Int)).toNat : Int) := rfl
  have e2 : (BitVec.ofInt 8 (x : Int) ||| BitVec.ofInt 8 (y : Int)).toNat = x ||| y := by
    rw [BitVec.toNat_or, BitVec.toNat_ofInt, BitVec.toNat_ofInt]; congr 1 <;> omega
  rw [e, e2]; exact IntWalk.u8_in _ ⟨by omega, by omega⟩
theorem xor_u8 (x y : Nat) (hx : x < 256) (hy : y < 256) : bits .xor .u8 (x : Int) (y : Int) = ((x ^^^ y : Nat) : Int) := by
  have h1 : x ^^^ y < 256 := Nat.xor_lt_two_pow (n := 8) hx hy
  have e : bits .xor .u8 (x : Int) (y : Int) = IntKind.u8.wrap ((BitVec.ofInt 8 (x : Int) ^^^ BitVec.ofInt 8 (y : Int)).toNat : Int) := rfl
  have e2 : (BitVec.ofInt 8 (x : Int) ^^^ BitVec.ofInt 8 (y : Int)).toNat = x ^^^ y := by
    rw [BitVec.toNat_xor, BitVec.toNat_ofInt, BitVec.toNat_ofInt]; congr 1 <;> omega
  rw [e, e2]; exact IntWalk.u8_in _ ⟨by omega, by omega⟩
theorem and_u8 (x y : Nat) (hx : x < 256) (hy : y < 256) : bits .and .u8 (x : Int) (y : Int) = ((x &&& y : Nat) : Int) := by
  have h1 : x &&& y < 256 := Nat.and_lt_two_pow (n := 8) x hy
  have e : bits .and .u8 (x : Int) (y : Int) = IntKind.u8.wrap ((BitVec.ofInt 8 (x : Int) &&& BitVec.ofInt 8 (y : Int)).toNat : Int) := rfl
  have e2 : (BitVec.ofInt 8 (x : Int) &&& BitVec.ofInt 8 (y : Int)).toNat = x &&& y := by
    rw [BitVec.toNat_and, BitVec.toNat_ofInt, BitVec.toNat_ofInt]; congr 1 <;> omega
  rw [e, e2]; exact IntWalk.u8_in _ ⟨by omega, by omega⟩
theorem or_u64 (x y : Nat) (hx : x < 18446744073709551616) (hy : y < 18446744073709551616) : bits .or .u64 (x : Int) (y : Int) = ((x ||| y : Nat) : Int) := by
  have h1 : x ||| y < 18446744073709551616 := Nat.or_lt_two_pow (n := 64) hx hy
  have e : bits .or .u64 (x : Int) (y : Int) = IntKind.u64.wrap ((BitVec.ofInt 64 (x : Int) ||| BitVec.ofInt 64 (y : Int)).toNat : Int) := rfl
  have e2 : (BitVec.ofInt 64 (x : Int) ||| BitVec.ofInt 64 (y : Int)).toNat = x ||| y := by
    rw [BitVec.toNat_or, BitVec.toNat_ofInt, BitVec.toNat_ofInt]; congr 1 <;> omega
  rw [e, e2]; exact IntWalk.u64_in _ ⟨by omega, by omega⟩
theorem and_u64 (x y : Nat) (hx : x < 18446744073709551616) (hy : y < 18446744073709551616) : bits .and .u64 (x : Int) (y : Int) = ((x &&& y : Nat) : Int) := by
  have h1 : x &&& y < 18446744073709551616 := Nat.and_lt_two_pow (n := 64) x hy
  have e : bits .and .u64 (x : Int) (y : Int) = IntKind.u64.wrap ((BitVec.ofInt 64 (x : Int) &&& BitVec.ofInt 64 (y : Int)).toNat : Int) := rfl
  have e2 : (BitVec.ofInt 64 (x : Int) &&& BitVec.ofInt 64 (y : Int)).toNat = x &&& y := by
    rw [BitVec.toNat_and, BitVec.toNat_ofInt, BitVec.toNat_ofInt]; congr 1 <;> omega
  rw [e, e2]; exact IntWalk.u64_in _ ⟨by omega, by omega⟩
theorem and_u32 (x y : Nat) (hx : x < 4294967296) (hy : y < 4294967296) : bits .and .u32 (x : Int) (y : Int) = ((x &&& y : Nat) : Int) := by
  have h1 : x &&& y < 4294967296 := Nat.and_lt_two_pow (n := 32) x hy
  have e : bits .and .u32 (x : Int) (y : Int) = IntKind.u32.wrap ((BitVec.ofInt 32 (x : Int) &&& BitVec.ofInt 32 (y : Int)).toNat : Int) := rfl
  have e2 : (BitVec.ofInt 32 (x : Int) &&& BitVec.ofInt 32 (y : Int)).toNat = x &&& y := by
    rw [BitVec.toNat_and, BitVec.toNat_ofInt, BitVec.toNat_ofInt]; congr 1 <;> omega
  rw [e, e2]; exact IntWalk.u32_in _ ⟨by omega, by omega⟩
theorem or_u32 (x y : Nat) (hx : x < 4294967296) (hy : y < 4294967296) : bits .or .u32 (x : Int) (y : Int) = ((x ||| y : Nat) : Int) := by
  have h1 : x ||| y < 4294967296 := Nat.or_lt_two_pow (n := 32) hx hy
  have e : bits .or .u32 (x : Int) (y : Int) = IntKind.u32.wrap ((BitVec.ofInt 32 (x : Int) ||| BitVec.ofInt 32 (y : Int)).toNat : Int) := rfl
  have e2 : (BitVec.ofInt 32 (x : Int) ||| BitVec.ofInt 32 (y : Int)).toNat = x ||| y := by
    rw [BitVec.toNat_or, BitVec.toNat_ofInt, BitVec.toNat_ofInt]; congr 1 <;> omega
  rw [e, e2]; exact IntWalk.u32_in _ ⟨by omega, by omega⟩

theorem u8m (n : Int) : IntKind.u8.wrap n = n % 256 := by simp [IntKind.wrap, IntKind.bits, IntKind.signed]
theorem u32m (n : Int) : IntKind.u32.wrap n = n % 4294967296 := by simp [IntKind.wrap, IntKind.bits, IntKind.signed]
theorem u64m (n : Int) : IntKind.u64.wrap n = n % 18446744073709551616 := by simp [IntKind.wrap, IntKind.bits, IntKind.signed]

theorem xor_zero {x y : Nat} : x ^^^ y = 0 ↔ x = y := by
  constructor
  · intro h
    have : (x ^^^ y) ^^^ y = x := by rw [Nat.xor_assoc, Nat.xor_self, Nat.xor_zero]
    rw [h, Nat.zero_xor] at this
    exact this.symm
  · rintro rfl; exact Nat.xor_self _
theorem or_shift (a x i : Nat) (hx : x < 2 ^ i) : (a * 2 ^ i) ||| x = a * 2 ^ i + x := by
  rw [← Nat.shiftLeft_eq, Nat.shiftLeft_add_eq_or_of_lt hx]
end Q
end

section
/- bits: Same, Join. -/
namespace Q
open Go Go.Abs
set_option linter.unusedVariables false
set_option linter.unusedSimpArgs false

/-- the differences, gathered -/
def diff (a b : List Int) (i : Nat) : Int := (List.range i).foldl (fun acc j => bits .or .u8 acc (bits .xor .u8 (a.getD j 0) (b.getD j 0))) 0
theorem diff_succ (a b : List Int) (i : Nat) : diff a b (i + 1) = bits .or .u8 (diff a b i) (bits .xor .u8 (a.getD i 0) (b.getD i 0)) := by
  simp [diff, List.range_succ]
theorem diff_fact (a b : List Int) (ha : In 256 a) (hb : In 256 b) : ∀ i, (0 ≤ diff a b i ∧ diff a b i < 256) ∧ (diff a b i = 0 ↔ ∀ j, j < i → a.getD j 0 = b.getD j 0)
  | 0 => ⟨⟨by simp [diff], by simp [diff]⟩, by simp [diff]⟩
  | i + 1 => by
    obtain ⟨h1, h2⟩ := diff_fact a b ha hb i
    rw [diff_succ]
    have hx := ha.getD i (by omega)
    have hy := hb.getD i (by omega)
    obtain ⟨d, hd⟩ := Int.eq_ofNat_of_zero_le h1.1
    obtain ⟨x, hx'⟩ := Int.eq_ofNat_of_zero_le hx.1
    obtain ⟨y, hy'⟩ := Int.eq_ofNat_of_zero_le hy.1
    rw [hd, hx', hy', xor_u8 x y (by omega) (by omega), or_u8 d _ (by omega) (Nat.xor_lt_two_pow (n := 8) (show x < 2 ^ 8 by omega) (show y < 2 ^ 8 by omega))]
    have hb : d ||| (x ^^^ y) < 256 := Nat.or_lt_two_pow (n := 8) (show d < 2 ^ 8 by omega) (Nat.xor_lt_two_pow (n := 8) (show x < 2 ^ 8 by omega) (show y < 2 ^ 8 by omega))
    refine ⟨⟨by omega, by omega⟩, ?_⟩
    rw [show (((d ||| (x ^^^ y) : Nat) : Int) = 0 ↔ (d ||| (x ^^^ y)) = 0) by omega, Nat.or_eq_zero_iff, xor_zero]
    constructor
    · rintro ⟨h0, hxy⟩ j hj
      by_cases hji : j = i
      · subst hji; rw [hx', hy', hxy]
      · exact h2.1 (by omega) j (by omega)
    · intro h
      refine ⟨?_, ?_⟩
      · have := h2.2 (fun j hj => h j (by omega)); omega
      · have := h i (by omega); rw [hx', hy'] at this; omega

theorem bits_Same (a b : List Int) (ha : In 256 a) (hb : In 256 b) (h : a.length ≤ 140737488355328) {ρ : Type} (k : Bool → Option ρ) : P.bits_Same a b k = k (decide (a = b)) := by
  rw [P.bits_Same_eq]
  unfold P.bits_Same_raw
  by_cases hl : a.length = b.length
  · rw [br_bne_neg (by omega), P.bits_Same_l5_eq]
    unfold P.bits_Same_L5
    refine lp_up (fun i => (a, b, diff a b i, (a.length : Int), (i : Int))) a.length (fun i hi next hn => ?_) (fun next => ?_) (Nat.zero_le _) (by omega)
    · simp only [P.bits_Same_r5, toNat_cast]
      simp (disch := omega) only [br_pos, br_neg, br_bne_pos, br_bne_neg, br_beq_pos, br_beq_neg, br_not, br_tt, br_ff, i64w]
      rw [← diff_succ]
      exact hn
    · simp only [P.bits_Same_r5]
      rw [br_neg (by omega)]
      congr 1
      have := (diff_fact a b ha hb a.length).2
      by_cases hab : a = b
      · rw [decide_eq_true hab, beq_iff_eq, this]
        subst hab; exact fun _ _ => rfl
      · rw [decide_eq_false hab, beq_eq_false_iff_ne]
        intro h0
        refine hab (List.ext_getElem hl (fun i h1 h2 => ?_))
        have := this.1 h0 i h1
        rw [getD_lt h1, getD_lt h2] at this
        exact this
  · rw [br_bne_pos (by omega), decide_eq_false (fun e => hl (by rw [e]))]

/-- rows one behind the other -/
def joined (l : List (List Int)) (i : Nat) : List Int := (l.take i).flatten
theorem joined_succ (l : List (List Int)) (i : Nat) (h : i < l.length) : joined l (i + 1) = joined l i ++ l.getD i [] := by
  unfold joined
  rw [← take_step l [] i h, List.flatten_append]; simp
theorem joined_all (l : List (List Int)) : joined l l.length = l.flatten := by unfold joined; rw [List.take_length]
theorem joined_le (l : List (List Int)) (i : Nat) : (joined l i).length ≤ l.flatten.length := by
  unfold joined
  have : l.flatten = (l.take i).flatten ++ (l.drop i).flatten := by rw [← List.flatten_append, List.take_append_drop]
  rw [this, List.length_append]; omega

theorem R01_Join (l : List (List Int)) (h : l.length ≤ 140737488355328) (h2 : l.flatten.length ≤ 140737488355328) {ρ : Type} (k : List Int → Option ρ) : P.R01_Join l k = k l.flatten := by
  rw [P.R01_Join_eq]
  unfold P.R01_Join_raw
  rw [P.R01_Join_l3_eq]
  unfold P.R01_Join_L3
  refine lp_up (fun i => (l, (i : Int), joined l i)) l.length (fun i hi next hn => ?_) (fun next => ?_) (Nat.zero_le _) (by omega)
  · have e := joined_succ l i hi
    have h3 := joined_le l (i + 1)
    rw [e, List.length_append] at h3
    simp only [P.R01_Join_r3, toNat_cast]
    simp (disch := omega) only [br_pos, br_neg, br_bne_pos, br_bne_neg, br_beq_pos, br_beq_neg, br_not, br_tt, br_ff, i64w]
    rw [← e]
    exact hn
  · simp only [P.R01_Join_r3]
    rw [br_neg (by omega), joined_all]

theorem slices_Grow_byte (n : Nat) (h : n ≤ 140737488355328) {ρ : Type} (k : List Int → Option ρ) : P.slices_Grow_byte (n : Int) k = k [] := by
  rw [P.slices_Grow_byte_eq]
  unfold P.slices_Grow_byte_raw
  rw [br_neg (by omega), show IntKind.i64.wrap ((0 : Int) - (0 : Int)) = 0 by decide]
  rw [i64w (by omega) (by omega)]
  by_cases h0 : n = 0
  · subst h0; rw [br_neg (by omega)]
  · rw [br_pos (by omega), br_pos (by omega), br_pos (by omega)]; rfl

theorem slices_Concat_byte (l : List (List Int)) (h : l.length ≤ 140737488355328) (h2 : l.flatten.length ≤ 140737488355328) {ρ : Type} (k : List Int → Option ρ) : P.slices_Concat_byte l k = k l.flatten := by
  rw [P.slices_Concat_byte_eq]
  unfold P.slices_Concat_byte_raw
  rw [P.slices_Concat_byte_l3_eq]
  unfold P.slices_Concat_byte_L3
  refine lp_up (fun i => (l, ((joined l i).length : Int), l, (l.length : Int), (i : Int))) l.length (fun i hi next hn => ?_) (fun next => ?_) (Nat.zero_le _) (by omega)
  · have e := joined_succ l i hi
    have h3 := joined_le l (i + 1)
    have e2 : ((joined l i).length : Int) + ((l.getD i []).length : Int) = ((joined l (i + 1)).length : Int) := by rw [e, List.length_append]; omega
    simp only [P.slices_Concat_byte_r3, toNat_cast, e2]
    simp (disch := omega) only [br_pos, br_neg, br_bne_pos, br_bne_neg, br_beq_pos, br_beq_neg, br_not, br_tt, br_ff, i64w]
    exact hn
  · simp only [P.slices_Concat_byte_r3]
    rw [br_neg (by omega), joined_all, slices_Grow_byte _ h2, P.slices_Concat_byte_l11_eq]
    unfold P.slices_Concat_byte_L11
    refine lp_up (fun i => (l, (l.length : Int), (i : Int), joined l i)) l.length (fun i hi next hn => ?_) (fun next => ?_) (Nat.zero_le _) (by omega)
    · have e := joined_succ l i hi
      have h3 := joined_le l (i + 1)
      rw [e, List.length_append] at h3
      simp only [P.slices_Concat_byte_r11, toNat_cast]
      simp (disch := omega) only [br_pos, br_neg, br_bne_pos, br_bne_neg, br_beq_pos, br_beq_neg, br_not, br_tt, br_ff, i64w]
      rw [← e]
      exact hn
    · simp only [P.slices_Concat_byte_r11]
      rw [br_neg (by omega), joined_all]

theorem bits_Join (l : List (List Int)) (h : l.length ≤ 140737488355328) (h2 : l.flatten.length ≤ 140737488355328) {ρ : Type} (k : List Int → Option ρ) : P.bits_Join l k = k l.flatten := by
  rw [P.bits_Join_eq]
  unfold P.bits_Join_raw
  exact slices_Concat_byte l h h2 k
end Q
end

section
/- The plain law of BitsTexts. -/
namespace Q
open Go Go.Abs
set_option linter.unusedVariables false
set_option linter.unusedSimpArgs false

theorem BitsTexts (x0 : List Int) (x1 : List Int) (x2 : List (List Int)) (nx0 : x0.length ≤ 140737488355328) (wx0 : ∀ x, x ∈ x0 → wfI .u8 x) (nx1 : x1.length ≤ 140737488355328) (wx1 : ∀ x, x ∈ x1 → wfI .u8 x) (nx2 : x2.length ≤ 140737488355328) (wx2 : ∀ y, y ∈ x2 → y.length ≤ 140737488355328 ∧ ∀ x, x ∈ y → wfI .u8 x) {ρ : Type} (k : Bool → Option ρ) : P.L01_BitsTexts x0 x1 x2 k = k true := by
  rw [P.L01_BitsTexts_eq]
  unfold P.L01_BitsTexts_raw
  rw [i64w (by omega) (by omega)]
  by_cases g1 : (x0.length : Int) + x1.length > 2000
  · rw [br_pos g1, L01_awake]
  rw [br_neg g1]
  by_cases g2 : (x2.length : Int) > 20
  · rw [br_pos g2, L01_awake]
  rw [br_neg g2, P.L01_BitsTexts_l5_eq]
  unfold P.L01_BitsTexts_L5
  refine lp_eq (P := fun x => ∃ j : Nat, x = (x0, x1, x2, 2000 - ((joined x2 j).length : Int), x2, (x2.length : Int), (j : Int)) ∧ j ≤ x2.length ∧ (joined x2 j).length ≤ 2000) (μ := fun x => ((x2.length : Int) - x.2.2.2.2.2.2).toNat) ?_ ⟨0, by simp [joined], by omega, by simp [joined]⟩ (by simp only; omega)
  rintro _ ⟨j, rfl, hj, hle⟩ next hn
  simp only [P.L01_BitsTexts_r5, toNat_cast, Sum.elim_inl, Sum.elim_inr]
  by_cases hji : j < x2.length
  · have e := joined_succ x2 j hji
    have h3 := congrArg List.length e
    rw [List.length_append] at h3
    rw [br_pos (by omega), br_pos (by omega), br_pos (by omega)]
    by_cases hbig : (2001 : Int) < ((x2.getD j []).length : Int)
    · simp only [decide_eq_true hbig, cond_true]
      simp (disch := omega) only [br_pos, br_neg, br_bne_pos, br_bne_neg, br_beq_pos, br_beq_neg, br_not, br_tt, br_ff, i64w]
      exact L01_awake k
    · simp only [decide_eq_false hbig, cond_false]
      by_cases hneg : 2000 - ((joined x2 j).length : Int) - ((x2.getD j []).length : Int) < 0
      · simp (disch := omega) only [br_pos, br_neg, br_bne_pos, br_bne_neg, br_beq_pos, br_beq_neg, br_not, br_tt, br_ff, i64w]
        exact L01_awake k
      · simp (disch := omega) only [br_pos, br_neg, br_bne_pos, br_bne_neg, br_beq_pos, br_beq_neg, br_not, br_tt, br_ff, i64w]
        exact hn _ ⟨j + 1, by rw [h3]; simp only [Prod.mk.injEq, true_and]; omega, by omega, by omega⟩ (by simp only; omega)
  · obtain rfl : j = x2.length := by omega
    rw [joined_all] at hle
    rw [br_neg (by omega), bits_Xor _ _ (by omega) (by omega), R01_Xor _ _ (by omega) (by omega), R01_Same _ _ (by simp [xorS]; omega), decide_eq_true rfl, br_tt,
      bits_Same _ _ (in_u8 wx0) (in_u8 wx1) nx0, R01_Same _ _ nx0, beq_self_eq_true, br_tt, bits_Same _ _ (in_u8 wx0) (in_u8 wx0) nx0, decide_eq_true rfl, br_tt,
      bits_Join _ nx2 (by omega), R01_Join _ nx2 (by omega), R01_Same _ _ (by omega), decide_eq_true rfl, br_tt, L01_awake]
end Q
end
