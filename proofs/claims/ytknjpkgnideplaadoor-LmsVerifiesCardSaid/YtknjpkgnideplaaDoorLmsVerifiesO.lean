/-
  LmsVerifies, part O: an interpreter of my own over abstract values, the pure functions, the walks and the plain law.
-/

import Derived.Test.YtknjpkgnideplaaDoorLmsVerifiesN
import Derived.Laws.Bits64
import Derived.Test.YtknjpkgnideplaaDoorLmsVerifiesF
import Derived.Test.YtknjpkgnideplaaDoorLmsVerifiesH
import Derived.Test.YtknjpkgnideplaaDoorLmsVerifiesG

section
/- Small laws for the plain proofs. -/
namespace Q
open Go Go.Abs
set_option linter.unusedVariables false
def In (m : Int) (l : List Int) : Prop := ∀ x, x ∈ l → 0 ≤ x ∧ x < m
theorem wf_u8 {n : Int} (h : wfI .u8 n) : 0 ≤ n ∧ n < 256 := by
 simp [wfI, Lit.wf, IntKind.min, IntKind.max, IntKind.signed, IntKind.bits] at h; omega
theorem in_u8 {l : List Int} (h : ∀ x, x ∈ l → wfI .u8 x) : In 256 l := fun x hx => wf_u8 (h x hx)
theorem In.tail {m x : Int} {l : List Int} (h : In m (x :: l)) : In m l := fun y hy => h y (List.mem_cons_of_mem _ hy)
theorem In.app {m : Int} {l r : List Int} (h1 : In m l) (h2 : In m r) : In m (l ++ r) := fun y hy => (List.mem_append.1 hy).elim (h1 y) (h2 y)
theorem In.left {m : Int} {l r : List Int} (h : In m (l ++ r)) : In m l := fun y hy => h y (List.mem_append_left _ hy)
theorem In.right {m : Int} {l r : List Int} (h : In m (l ++ r)) : In m r := fun y hy => h y (List.mem_append_right _ hy)
theorem In.take {m : Int} {l : List Int} (h : In m l) (n : Nat) : In m (l.take n) := fun y hy => h y (List.mem_of_mem_take hy)
theorem In.drop {m : Int} {l : List Int} (h : In m l) (n : Nat) : In m (l.drop n) := fun y hy => h y (List.mem_of_mem_drop hy)
theorem In.nil {m : Int} : In m [] := fun y hy => by simp at hy
theorem In.rev {m : Int} {l : List Int} (h : In m l) : In m l.reverse := fun y hy => h y (by simpa using hy)
theorem In.getD {m : Int} {l : List Int} (h : In m l) (i : Nat) (hm : 0 < m) : 0 ≤ l.getD i 0 ∧ l.getD i 0 < m := by
 rw [List.getD_eq_getElem?_getD]
 by_cases hi : i < l.length
 ·rw [List.getElem?_eq_getElem hi]; exact h _ (List.getElem_mem hi)
 ·rw [List.getElem?_eq_none (by omega)]; exact ⟨Int.le_refl 0, hm⟩
theorem In.map {m : Int} {α : Type} {l : List α} {f : α → Int} (h : ∀ a, a ∈ l → 0 ≤ f a ∧ f a < m) : In m (l.map f) := fun y hy => by
 obtain ⟨a, ha, rfl⟩ := List.mem_map.1 hy
 exact h a ha
theorem br_bne_pos {α : Type} {a b : Int} (h : ¬ a = b) (x y : α) : br (a != b) x y = x := by rw [bne_iff_ne.2 h]; exact br_tt x y
theorem br_bne_neg {α : Type} {a b : Int} (h : a = b) (x y : α) : br (a != b) x y = y := by rw [bne_eq_false_iff_eq.2 h]; exact br_ff x y
theorem br_beq_pos {α : Type} {a b : Int} (h : a = b) (x y : α) : br (a == b) x y = x := by rw [beq_iff_eq.2 h]; exact br_tt x y
theorem br_beq_neg {α : Type} {a b : Int} (h : ¬ a = b) (x y : α) : br (a == b) x y = y := by rw [beq_eq_false_iff_ne.2 h]; exact br_ff x y
theorem br_not {α : Type} (b : Bool) (x y : α) : br (!b) x y = br b y x := by cases b <;> simp
theorem lp_up {X Y ρ : Type} {stp : X → (X → Option ρ) → (Y → Option ρ) → Option ρ} {K : Y → Option ρ} {r : Option ρ} (S : Nat → X) (n : Nat)
    (hstep : ∀ i, i < n → ∀ next, next (S (i + 1)) = r → stp (S i) next K = r) (hend : ∀ next, stp (S n) next K = r) {i : Nat} (hi : i ≤ n) (hn : n ≤ 18446744073709551616) : lp stp (S i) K = r := by
 have key : ∀ m i, m + i = n → lpN stp K m (S i) = r ∧ ∀ q, m ≤ q → lpN stp K q (S i) = r := by
  intro m
  induction m with
  | zero =>
   intro i hi
   have : i = n := by omega
   subst this
   refine ⟨hend _, fun q _ => ?_⟩
   cases q with
   | zero => exact hend _
   | succ q => exact hend _
  | succ m ih =>
   intro i hi
   refine ⟨hstep i (by omega) _ (ih (i + 1) (by omega)).1, fun q hq => ?_⟩
   cases q with
   | zero => omega
   | succ q => exact hstep i (by omega) _ ((ih (i + 1) (by omega)).2 q (by omega))
 exact (key (n - i) i (by omega)).2 FU (by rw [FU_eq]; omega)
theorem getD_lt {α : Type} {l : List α} {d : α} {i : Nat} (h : i < l.length) : l.getD i d = l[i] := by
 rw [List.getD_eq_getElem?_getD, List.getElem?_eq_getElem h]; rfl
theorem getD_ge {α : Type} {l : List α} {d : α} {i : Nat} (h : l.length ≤ i) : l.getD i d = d := by
 rw [List.getD_eq_getElem?_getD, List.getElem?_eq_none h]; rfl
theorem toNat_cast (n : Nat) : ((n : Int)).toNat = n := Int.toNat_natCast n
theorem fill_step (f : Nat → Int) (i n : Nat) (h : i < n) (d : Int) : ((List.range i).map f ++ List.replicate (n - i) d).set i (f i) = (List.range (i + 1)).map f ++ List.replicate (n - (i + 1)) d := by
 rw [List.set_append_right _ _ (by simp), show n - i = (n - (i + 1)) + 1 by omega, List.replicate_succ]
 simp [List.range_succ]
theorem range_map_step {α : Type} (f : Nat → α) (i : Nat) : (List.range i).map f ++ [f i] = (List.range (i + 1)).map f := by simp [List.range_succ]
theorem take_step {α : Type} (l : List α) (d : α) (i : Nat) (h : i < l.length) : l.take i ++ [l.getD i d] = l.take (i + 1) := by
 rw [getD_lt h, List.take_add_one, List.getElem?_eq_getElem h]; rfl
theorem drop_step {α : Type} (l : List α) (d : α) (i : Nat) (h : i < l.length) : l.drop i = l.getD i d :: l.drop (i + 1) := by
 rw [getD_lt h]; exact List.drop_eq_getElem_cons h
end Q
end

section
/- The bit operations as numbers. -/
namespace Q
open Go Go.Abs
set_option linter.unusedVariables false
theorem or_u8 (x y : Nat) (hx : x < 256) (hy : y < 256) : bits .or .u8 (x : Int) (y : Int) = ((x ||| y : Nat) : Int) := by
 have h1 : x ||| y < 256 := Nat.or_lt_two_pow (n := 8) hx hy
 have e : bits .or .u8 (x : Int) (y : Int) = IntKind.u8.wrap ((BitVec.ofInt 8 (x : Int) ||| BitVec.ofInt 8 (y : Int)).toNat : Int) := rfl
 have e2 : (BitVec.ofInt 8 (x : Int) ||| BitVec.ofInt 8 (y : Int)).toNat = x ||| y := by
  rw [BitVec.toNat_or, BitVec.toNat_ofInt, BitVec.toNat_ofInt]; congr 1 <;> omega
 rw [e, e2]; exact IntWalk.u8_in _ ⟨by omega, by omega⟩
theorem xor_u8 (x y : Nat) (hx : x < 256) (hy : y < 256) : bits .xor .u8 (x : Int) (y : Int) = ((x ^^^ y : Nat) : Int) := by
 have h1 : x ^^^ y < 256 := Nat.xor_lt_two_pow (n := 8) hx hy
 have e : bits .xor .u8 (x : Int) (y : Int) = IntKind.u8.wrap ((BitVec.ofInt 8 (x : Int) ^^^ BitVec.ofInt 8 (y : Int)).toNat : Int) := rfl
 have e2 : (BitVec.ofInt 8 (x : Int) ^^^ BitVec.ofInt 8 (y : Int)).toNat = x ^^^ y := by
  rw [BitVec.toNat_xor, BitVec.toNat_ofInt, BitVec.toNat_ofInt]; congr 1 <;> omega
 rw [e, e2]; exact IntWalk.u8_in _ ⟨by omega, by omega⟩
theorem and_u8 (x y : Nat) (hx : x < 256) (hy : y < 256) : bits .and .u8 (x : Int) (y : Int) = ((x &&& y : Nat) : Int) := by
 have h1 : x &&& y < 256 := Nat.and_lt_two_pow (n := 8) x hy
 have e : bits .and .u8 (x : Int) (y : Int) = IntKind.u8.wrap ((BitVec.ofInt 8 (x : Int) &&& BitVec.ofInt 8 (y : Int)).toNat : Int) := rfl
 have e2 : (BitVec.ofInt 8 (x : Int) &&& BitVec.ofInt 8 (y : Int)).toNat = x &&& y := by
  rw [BitVec.toNat_and, BitVec.toNat_ofInt, BitVec.toNat_ofInt]; congr 1 <;> omega
 rw [e, e2]; exact IntWalk.u8_in _ ⟨by omega, by omega⟩
theorem or_u64 (x y : Nat) (hx : x < 18446744073709551616) (hy : y < 18446744073709551616) : bits .or .u64 (x : Int) (y : Int) = ((x ||| y : Nat) : Int) := by
 have h1 : x ||| y < 18446744073709551616 := Nat.or_lt_two_pow (n := 64) hx hy
 have e : bits .or .u64 (x : Int) (y : Int) = IntKind.u64.wrap ((BitVec.ofInt 64 (x : Int) ||| BitVec.ofInt 64 (y : Int)).toNat : Int) := rfl
 have e2 : (BitVec.ofInt 64 (x : Int) ||| BitVec.ofInt 64 (y : Int)).toNat = x ||| y := by
  rw [BitVec.toNat_or, BitVec.toNat_ofInt, BitVec.toNat_ofInt]; congr 1 <;> omega
 rw [e, e2]; exact IntWalk.u64_in _ ⟨by omega, by omega⟩
theorem and_u64 (x y : Nat) (hx : x < 18446744073709551616) (hy : y < 18446744073709551616) : bits .and .u64 (x : Int) (y : Int) = ((x &&& y : Nat) : Int) := by
 have h1 : x &&& y < 18446744073709551616 := Nat.and_lt_two_pow (n := 64) x hy
 have e : bits .and .u64 (x : Int) (y : Int) = IntKind.u64.wrap ((BitVec.ofInt 64 (x : Int) &&& BitVec.ofInt 64 (y : Int)).toNat : Int) := rfl
 have e2 : (BitVec.ofInt 64 (x : Int) &&& BitVec.ofInt 64 (y : Int)).toNat = x &&& y := by
  rw [BitVec.toNat_and, BitVec.toNat_ofInt, BitVec.toNat_ofInt]; congr 1 <;> omega
 rw [e, e2]; exact IntWalk.u64_in _ ⟨by omega, by omega⟩
theorem u8m (n : Int) : IntKind.u8.wrap n = n % 256 := by simp [IntKind.wrap, IntKind.bits, IntKind.signed]
theorem u32m (n : Int) : IntKind.u32.wrap n = n % 4294967296 := by simp [IntKind.wrap, IntKind.bits, IntKind.signed]
theorem u64m (n : Int) : IntKind.u64.wrap n = n % 18446744073709551616 := by simp [IntKind.wrap, IntKind.bits, IntKind.signed]
theorem xor_zero {x y : Nat} : x ^^^ y = 0 ↔ x = y := by
 constructor
 ·intro h
  have : (x ^^^ y) ^^^ y = x := by rw [Nat.xor_assoc, Nat.xor_self, Nat.xor_zero]
  rw [h, Nat.zero_xor] at this
  exact this.symm
 ·rintro rfl; exact Nat.xor_self _
theorem or_shift (a x i : Nat) (hx : x < 2 ^ i) : (a * 2 ^ i) ||| x = a * 2 ^ i + x := by
 rw [← Nat.shiftLeft_eq, Nat.shiftLeft_add_eq_or_of_lt hx]
end Q
end

section
/- Numbers and their digits, the lowest first. -/
namespace Q
open Go Go.Abs
set_option linter.unusedVariables false
def T (w : Nat) : List Int → Nat
 | [] => 0
 | x :: l => x.toNat % 2 ^ w + 2 ^ w * T w l
theorem p2 (n : Nat) : 0 < 2 ^ n := Nat.pow_pos (by omega)
theorem T_lt (w : Nat) : ∀ l : List Int, T w l < 2 ^ (w * l.length)
 | [] => by simp [T]
 | x :: l => by
  have ih := T_lt w l
  have h1 := Nat.mod_lt x.toNat (p2 w)
  rw [List.length_cons, Nat.mul_succ, Nat.add_comm, Nat.pow_add]
  simp only [T]
  have : 2 ^ w * (T w l + 1) ≤ 2 ^ w * 2 ^ (w * l.length) := Nat.mul_le_mul (Nat.le_refl _) ih
  rw [Nat.mul_add] at this
  omega
theorem T_append (w : Nat) : ∀ a b : List Int, T w (a ++ b) = T w a + 2 ^ (w * a.length) * T w b
 | [], b => by simp [T]
 | x :: a, b => by
  rw [List.cons_append, T, T, T_append w a b, List.length_cons, Nat.mul_succ, Nat.add_comm (w * a.length) w, Nat.pow_add, Nat.mul_add, Nat.mul_assoc]
  omega
theorem T_take (w : Nat) (l : List Int) (k : Nat) (h : k ≤ l.length) : T w l = T w (l.take k) + 2 ^ (w * k) * T w (l.drop k) := by
 have := T_append w (l.take k) (l.drop k)
 rw [List.take_append_drop, List.length_take, Nat.min_eq_left h] at this
 exact this
theorem T_drop_div (w : Nat) (l : List Int) (k : Nat) (h : k ≤ l.length) : T w (l.drop k) = T w l / 2 ^ (w * k) := by
 have := T_lt w (l.take k)
 rw [List.length_take, Nat.min_eq_left h] at this
 rw [T_take w l k h, Nat.add_mul_div_left _ _ (p2 _), Nat.div_eq_of_lt this, Nat.zero_add]
theorem T_getD (w : Nat) (l : List Int) (k : Nat) : T w l / 2 ^ (w * k) % 2 ^ w = (l.getD k 0).toNat % 2 ^ w := by
 by_cases h : k < l.length
 ·rw [← T_drop_div w l k (by omega), drop_step l 0 k h, T, Nat.add_mul_mod_self_left, Nat.mod_mod]
 ·rw [getD_ge (by omega), Nat.div_eq_of_lt]
  ·rfl
  ·exact Nat.lt_of_lt_of_le (T_lt w l) (Nat.pow_le_pow_right (by omega) (Nat.mul_le_mul (Nat.le_refl _) (by omega)))
theorem lp_go {X Y ρ : Type} {stp : X → (X → Option ρ) → (Y → Option ρ) → Option ρ} {K : Y → Option ρ} {r : Option ρ} (S : Nat → X) (n : Nat) {x : X} (hx : x = S 0)
    (hstep : ∀ i, i < n → ∀ next, next (S (i + 1)) = r → stp (S i) next K = r) (hend : ∀ next, stp (S n) next K = r) (hn : n ≤ 18446744073709551616) : lp stp x K = r := by
 rw [hx]; exact lp_up S n hstep hend (Nat.zero_le _) hn
def bsw (w n X : Nat) : List Int := (List.range n).map fun i => ((X / 2 ^ (w * i) % 2 ^ w : Nat) : Int)
@[simp] theorem bsw_length (w n X : Nat) : (bsw w n X).length = n := by simp [bsw]
theorem bsw_getD (w n X i : Nat) (h : i < n) : (bsw w n X).getD i 0 = ((X / 2 ^ (w * i) % 2 ^ w : Nat) : Int) := by
 rw [getD_lt (by simpa using h)]; simp [bsw]
theorem bsw_succ (w n X : Nat) : bsw w (n + 1) X = bsw w n X ++ [((X / 2 ^ (w * n) % 2 ^ w : Nat) : Int)] := by simp [bsw, List.range_succ]
theorem bsw_in (w n X : Nat) : In (2 ^ w) (bsw w n X) := by
 refine In.map (fun i _ => ⟨Int.natCast_nonneg _, ?_⟩)
 have := Nat.mod_lt (X / 2 ^ (w * i)) (p2 w)
 have e : ((2 : Int) ^ w) = ((2 ^ w : Nat) : Int) := by simp
 rw [e]; omega
theorem piece_mod (X h w m : Nat) (hm : h + w ≤ m) : X % 2 ^ m / 2 ^ h % 2 ^ w = X / 2 ^ h % 2 ^ w := by
 have e : (2 : Nat) ^ m = 2 ^ h * (2 ^ w * 2 ^ (m - (h + w))) := by rw [← Nat.pow_add, ← Nat.pow_add]; congr 1; omega
 rw [e, Nat.mod_mul_right_div_self, Nat.mod_mul_right_mod]
theorem piece_piece (X h w a b : Nat) (hb : a + b ≤ w) : X / 2 ^ h % 2 ^ w / 2 ^ a % 2 ^ b = X / 2 ^ (h + a) % 2 ^ b := by
 rw [piece_mod _ _ _ _ hb, Nat.div_div_eq_div_mul, ← Nat.pow_add]
theorem piece_up (X h w a : Nat) : X / 2 ^ h % 2 ^ w + 2 ^ w * (X / 2 ^ (h + w) % 2 ^ a) = X / 2 ^ h % 2 ^ (w + a) := by
 rw [Nat.pow_add 2 w a, Nat.mod_mul, Nat.pow_add, Nat.div_div_eq_div_mul]
end Q
end

section
open Go Go.Abs
set_option linter.unusedVariables false
namespace P
end P
end

section
open Go Go.Abs
set_option linter.unusedVariables false
namespace P
end P
end

section
/- bits: Unpack. -/
namespace Q
open Go Go.Abs
set_option linter.unusedVariables false
set_option linter.unusedSimpArgs false
def Such (n : Nat) (w c : Int) : Prop := 1 ≤ w ∧ w ≤ 24 ∧ 0 ≤ c ∧ c * w ≤ n * 8
instance (n : Nat) (w c : Int) : Decidable (Such n w c) := inferInstanceAs (Decidable (_ ∧ _))
theorem such_eq (n : Nat) (w c : Int) (hn : n ≤ 1000000) {ρ : Type} (k : Bool → Option ρ) :
    br (decide (w ≥ (1 : Int))) (br (decide (w ≤ (24 : Int))) (br (decide (c ≥ (0 : Int))) (br (decide (w = (0 : Int))) none
     (k (decide (c ≤ IntKind.i64.wrap ((IntKind.i64.wrap ((↑n : Int) * (8 : Int))).tdiv w))))) (k false)) (k false)) (k false) = k (decide (Such n w c)) := by
 by_cases h1 : w ≥ 1
 ·by_cases h2 : w ≤ 24
  ·by_cases h3 : c ≥ 0
   ·rw [br_pos h1, br_pos h2, br_pos h3, br_neg (by omega)]
    congr 1
    have e0 : ((n : Int) * 8).tdiv w = (n : Int) * 8 / w := Int.tdiv_eq_ediv_of_nonneg (by omega)
    have e1 : (n : Int) * 8 / w ≤ n * 8 := Int.ediv_le_self _ (by omega)
    have e2 : 0 ≤ (n : Int) * 8 / w := Int.ediv_nonneg (by omega) (by omega)
    rw [i64w (x := (n : Int) * 8) (by omega) (by omega), e0, i64w (by omega) (by omega)]
    apply decide_eq_decide.2
    rw [Int.le_ediv_iff_mul_le (by omega)]
    unfold Such
    omega
   ·rw [br_pos h1, br_pos h2, br_neg h3, decide_eq_false (fun h => h3 h.2.2.1)]
  ·rw [br_pos h1, br_neg h2, decide_eq_false (fun h => h2 h.2.1)]
 ·rw [br_neg h1, decide_eq_false (fun h => h1 h.1)]
theorem bits_such (b : List Int) (w c : Int) (hn : b.length ≤ 1000000) {ρ : Type} (k : Bool → Option ρ) : P.bits_such b w c k = k (decide (Such b.length w c)) := by
 rw [P.bits_such_eq]; exact such_eq b.length w c hn k
theorem R01_such (b : List Int) (w c : Int) (hn : b.length ≤ 1000000) {ρ : Type} (k : Bool → Option ρ) : P.R01_such b w c k = k (decide (Such b.length w c)) := by
 rw [P.R01_such_eq]; exact such_eq b.length w c hn k
theorem fdiv_pow (a n m : Nat) (h : n ≤ m) : (a : Int).fdiv ((2 : Int) ^ min n m) = ((a / 2 ^ n : Nat) : Int) := by
 rw [Nat.min_eq_left h, show ((2 : Int) ^ n) = ((2 ^ n : Nat) : Int) by simp, ← Int.ofNat_fdiv]
theorem mul_pow (a n m : Nat) (h : n ≤ m) : (a : Int) * ((2 : Int) ^ min n m) = ((a * 2 ^ n : Nat) : Int) := by
 rw [Nat.min_eq_left h, show ((2 : Int) ^ n) = ((2 ^ n : Nat) : Int) by simp, ← Int.natCast_mul]
theorem u64n (a : Nat) (h : a < 18446744073709551616) : IntKind.u64.wrap (a : Int) = (a : Int) := by rw [u64m]; omega
theorem u32n (a : Nat) (h : a < 4294967296) : IntKind.u32.wrap (a : Int) = (a : Int) := by rw [u32m]; omega
theorem u8n (a : Nat) (h : a < 256) : IntKind.u8.wrap (a : Int) = (a : Int) := by rw [u8m]; omega
theorem p2_le {a b : Nat} (h : a ≤ b) : 2 ^ a ≤ 2 ^ b := Nat.pow_le_pow_right (by omega) h
theorem mask64 (w : Nat) (h : w ≤ 24) : IntKind.u64.wrap (IntKind.u64.wrap ((1 : Int) * (2 : Int) ^ min w 64) - (1 : Int)) = ((2 ^ w - 1 : Nat) : Int) := by
 have h1 := p2 w
 have h2 : 2 ^ w ≤ 2 ^ 24 := p2_le h
 rw [show (1 : Int) = ((1 : Nat) : Int) from rfl, mul_pow 1 w 64 (by omega), u64n _ (by omega), show ((1 * 2 ^ w : Nat) : Int) - ((1 : Nat) : Int) = ((2 ^ w - 1 : Nat) : Int) by omega, u64n _ (by omega)]
theorem and_mask64 (x w : Nat) (hx : x < 18446744073709551616) (h : w ≤ 24) : bits .and .u64 (x : Int) (IntKind.u64.wrap (IntKind.u64.wrap ((1 : Int) * (2 : Int) ^ min w 64) - (1 : Int))) = ((x % 2 ^ w : Nat) : Int) := by
 have h2 : 2 ^ w ≤ 2 ^ 24 := p2_le h
 rw [mask64 w h, and_u64 _ _ hx (by omega), Nat.and_two_pow_sub_one_eq_mod]
def ceil8 (n : Nat) : Nat := (n + 7) / 8
theorem ceil8_le (n : Nat) : n ≤ 8 * ceil8 n := by unfold ceil8; omega
theorem ceil8_lt (n : Nat) : 8 * ceil8 n < n + 8 := by unfold ceil8; omega
theorem byte_at {b : List Int} (hb : In 256 b) (t : Nat) : ∃ x : Nat, b.getD t 0 = (x : Int) ∧ x < 256 ∧ x = (b.getD t 0).toNat % 2 ^ 8 := by
 have := hb.getD t (by omega)
 exact ⟨(b.getD t 0).toNat, by omega, by omega, by omega⟩
end Q
end

section
/- Words of 32 and of 64 bits. -/
namespace Q
open Go Go.Abs
set_option linter.unusedVariables false
set_option linter.unusedSimpArgs false
theorem ofI {w : Nat} (x : BitVec w) : BitVec.ofInt w (x.toNat : Int) = x := by simp
theorem lt32 (x : BitVec 32) : x.toNat < 4294967296 := x.isLt
theorem lt64 (x : BitVec 64) : x.toNat < 18446744073709551616 := x.isLt
theorem xor32 (x y : BitVec 32) : bits .xor .u32 (x.toNat : Int) (y.toNat : Int) = ((x ^^^ y).toNat : Int) := by
 have e : bits .xor .u32 (x.toNat : Int) (y.toNat : Int) = IntKind.u32.wrap ((BitVec.ofInt 32 (x.toNat : Int) ^^^ BitVec.ofInt 32 (y.toNat : Int)).toNat : Int) := rfl
 rw [e, ofI, ofI, u32n _ (lt32 _)]
theorem and32 (x y : BitVec 32) : bits .and .u32 (x.toNat : Int) (y.toNat : Int) = ((x &&& y).toNat : Int) := by
 have e : bits .and .u32 (x.toNat : Int) (y.toNat : Int) = IntKind.u32.wrap ((BitVec.ofInt 32 (x.toNat : Int) &&& BitVec.ofInt 32 (y.toNat : Int)).toNat : Int) := rfl
 rw [e, ofI, ofI, u32n _ (lt32 _)]
theorem or32 (x y : BitVec 32) : bits .or .u32 (x.toNat : Int) (y.toNat : Int) = ((x ||| y).toNat : Int) := by
 have e : bits .or .u32 (x.toNat : Int) (y.toNat : Int) = IntKind.u32.wrap ((BitVec.ofInt 32 (x.toNat : Int) ||| BitVec.ofInt 32 (y.toNat : Int)).toNat : Int) := rfl
 rw [e, ofI, ofI, u32n _ (lt32 _)]
theorem add32 (x y : BitVec 32) : IntKind.u32.wrap ((x.toNat : Int) + (y.toNat : Int)) = ((x + y).toNat : Int) := by
 rw [u32m, BitVec.toNat_add]; omega
theorem xor64 (x y : BitVec 64) : bits .xor .u64 (x.toNat : Int) (y.toNat : Int) = ((x ^^^ y).toNat : Int) := by
 have e : bits .xor .u64 (x.toNat : Int) (y.toNat : Int) = IntKind.u64.wrap ((BitVec.ofInt 64 (x.toNat : Int) ^^^ BitVec.ofInt 64 (y.toNat : Int)).toNat : Int) := rfl
 rw [e, ofI, ofI, u64n _ (lt64 _)]
theorem and64 (x y : BitVec 64) : bits .and .u64 (x.toNat : Int) (y.toNat : Int) = ((x &&& y).toNat : Int) := by
 have e : bits .and .u64 (x.toNat : Int) (y.toNat : Int) = IntKind.u64.wrap ((BitVec.ofInt 64 (x.toNat : Int) &&& BitVec.ofInt 64 (y.toNat : Int)).toNat : Int) := rfl
 rw [e, ofI, ofI, u64n _ (lt64 _)]
theorem or64 (x y : BitVec 64) : bits .or .u64 (x.toNat : Int) (y.toNat : Int) = ((x ||| y).toNat : Int) := by
 have e : bits .or .u64 (x.toNat : Int) (y.toNat : Int) = IntKind.u64.wrap ((BitVec.ofInt 64 (x.toNat : Int) ||| BitVec.ofInt 64 (y.toNat : Int)).toNat : Int) := rfl
 rw [e, ofI, ofI, u64n _ (lt64 _)]
theorem add64 (x y : BitVec 64) : IntKind.u64.wrap ((x.toNat : Int) + (y.toNat : Int)) = ((x + y).toNat : Int) := by
 rw [u64m, BitVec.toNat_add]; omega
theorem xor_u64 (x y : Nat) (hx : x < 18446744073709551616) (hy : y < 18446744073709551616) : bits .xor .u64 (x : Int) (y : Int) = ((x ^^^ y : Nat) : Int) := by
 have := xor64 (BitVec.ofNat 64 x) (BitVec.ofNat 64 y)
 rw [BitVec.toNat_xor, BitVec.toNat_ofNat, BitVec.toNat_ofNat, Nat.mod_eq_of_lt (by omega), Nat.mod_eq_of_lt (by omega)] at this
 exact this
/- words of 32 bits as numbers of 64 -/
theorem nlt (x : BitVec 32) : x.toNat < 18446744073709551616 := by have := lt32 x; omega
theorem nxor (x y : BitVec 32) : bits .xor .u64 (x.toNat : Int) (y.toNat : Int) = ((x ^^^ y).toNat : Int) := by rw [xor_u64 _ _ (nlt x) (nlt y), BitVec.toNat_xor]
theorem nand (x y : BitVec 32) : bits .and .u64 (x.toNat : Int) (y.toNat : Int) = ((x &&& y).toNat : Int) := by rw [and_u64 _ _ (nlt x) (nlt y), BitVec.toNat_and]
theorem nor (x y : BitVec 32) : bits .or .u64 (x.toNat : Int) (y.toNat : Int) = ((x ||| y).toNat : Int) := by rw [or_u64 _ _ (nlt x) (nlt y), BitVec.toNat_or]
theorem nmask (n : Nat) (h : n < 18446744073709551616) : bits .and .u64 (n : Int) 4294967295 = ((n % 4294967296 : Nat) : Int) := by
 rw [show (4294967295 : Int) = ((2 ^ 32 - 1 : Nat) : Int) from rfl, and_u64 _ _ h (by omega), Nat.and_two_pow_sub_one_eq_mod]
theorem wmask (n : Nat) (h : n < 18446744073709551616) : bits .and .u64 (n : Int) 18446744073709551615 = (n : Int) := by
 rw [show (18446744073709551615 : Int) = ((2 ^ 64 - 1 : Nat) : Int) from rfl, and_u64 _ _ h (by omega), Nat.and_two_pow_sub_one_eq_mod, Nat.mod_eq_of_lt (by omega)]
def rr {w : Nat} (x : BitVec w) (n : Nat) : BitVec w := (x >>> n) ||| (x <<< (w - n))
theorem shr_toNat {w : Nat} (x : BitVec w) (n : Nat) : (x >>> n).toNat = x.toNat / 2 ^ n := by rw [BitVec.toNat_ushiftRight, Nat.shiftRight_eq_div_pow]
theorem shl_toNat {w : Nat} (x : BitVec w) (n : Nat) : (x <<< n).toNat = x.toNat * 2 ^ n % 2 ^ w := by rw [BitVec.toNat_shiftLeft, Nat.shiftLeft_eq]
theorem shr32 (x : BitVec 32) (n : Nat) (h : n ≤ 32) : (x.toNat : Int).fdiv ((2 : Int) ^ min n 32) = ((x >>> n).toNat : Int) := by rw [fdiv_pow _ _ _ h, shr_toNat]
theorem shl32 (x : BitVec 32) (n : Nat) (h : n ≤ 32) : IntKind.u32.wrap ((x.toNat : Int) * (2 : Int) ^ min n 32) = ((x <<< n).toNat : Int) := by
 rw [mul_pow _ _ _ h, u32m, shl_toNat]; omega
theorem shr64 (x : BitVec 64) (n : Nat) (h : n ≤ 64) : (x.toNat : Int).fdiv ((2 : Int) ^ min n 64) = ((x >>> n).toNat : Int) := by rw [fdiv_pow _ _ _ h, shr_toNat]
theorem shl64 (x : BitVec 64) (n : Nat) (h : n ≤ 64) : IntKind.u64.wrap ((x.toNat : Int) * (2 : Int) ^ min n 64) = ((x <<< n).toNat : Int) := by
 rw [mul_pow _ _ _ h, u64m, shl_toNat]; omega
theorem nshr (x : BitVec 32) (n : Nat) (h : n ≤ 64) : (x.toNat : Int).fdiv ((2 : Int) ^ min n 64) = ((x >>> n).toNat : Int) := by rw [fdiv_pow _ _ _ h, shr_toNat]
theorem nshl (x : BitVec 32) (n : Nat) (h : n ≤ 32) : bits .and .u64 (IntKind.u64.wrap ((x.toNat : Int) * (2 : Int) ^ min n 64)) 4294967295 = ((x <<< n).toNat : Int) := by
 have h1 := lt32 x
 have h2 : 2 ^ n ≤ 2 ^ 32 := p2_le h
 have h3 : x.toNat * 2 ^ n ≤ 4294967295 * 2 ^ 32 := Nat.mul_le_mul (by omega) h2
 rw [mul_pow _ _ _ (by omega), u64n _ (by omega), nmask _ (by omega), shl_toNat]
theorem ch_eq {w : Nat} (e f g : BitVec w) : (e &&& f) ^^^ ((BitVec.allOnes w ^^^ e) &&& g) = g ^^^ (e &&& (f ^^^ g)) := by
 ext i hi
 simp
 cases e[i] <;> cases f[i] <;> cases g[i] <;> rfl
theorem maj_eq {w : Nat} (a b c : BitVec w) : ((a &&& b) ^^^ (a &&& c)) ^^^ (b &&& c) = (a &&& b) ||| (c &&& (a ||| b)) := by
 ext i hi
 simp
 cases a[i] <;> cases b[i] <;> cases c[i] <;> rfl
end Q
end

section
/- SHA-2: what a block does. -/
namespace Q
open Go Go.Abs
set_option linter.unusedVariables false
set_option linter.unusedSimpArgs false
structure Par (w : Nat) where
 rounds : Nat
 a : Nat × Nat × Nat
 b : Nat × Nat × Nat
 c : Nat × Nat × Nat
 d : Nat × Nat × Nat
 K : Nat → BitVec w
section
variable {w : Nat}
def hi (t : Nat × Nat × Nat) (x : BitVec w) : BitVec w := rr x t.1 ^^^ rr x t.2.1 ^^^ rr x t.2.2
def lo (t : Nat × Nat × Nat) (x : BitVec w) : BitVec w := rr x t.1 ^^^ rr x t.2.1 ^^^ (x >>> t.2.2)
def cv (l : List (BitVec w)) : List Int := l.map fun x => (x.toNat : Int)
@[simp] theorem cv_length (l : List (BitVec w)) : (cv l).length = l.length := by simp [cv]
theorem cv_getD (l : List (BitVec w)) (i : Nat) : (cv l).getD i 0 = ((l.getD i 0).toNat : Int) := by
 unfold cv
 rw [List.getD_eq_getElem?_getD, List.getD_eq_getElem?_getD, List.getElem?_map]
 cases l[i]? <;> simp
theorem cv_set (l : List (BitVec w)) (i : Nat) (x : BitVec w) : (cv l).set i (x.toNat : Int) = cv (l.set i x) := by simp [cv, List.map_set]
theorem cv_append (l r : List (BitVec w)) : cv l ++ cv r = cv (l ++ r) := by simp [cv]
def rnd1 (p : Par w) (t : Nat) (wt : BitVec w) (v : List (BitVec w)) : BitVec w :=
 v.getD 7 0 + hi p.d (v.getD 4 0) + (v.getD 6 0 ^^^ (v.getD 4 0 &&& (v.getD 5 0 ^^^ v.getD 6 0))) + p.K t + wt
def rnd2 (p : Par w) (v : List (BitVec w)) : BitVec w := hi p.c (v.getD 0 0) + ((v.getD 0 0 &&& v.getD 1 0) ||| (v.getD 2 0 &&& (v.getD 0 0 ||| v.getD 1 0)))
def rnd (p : Par w) (t : Nat) (wt : BitVec w) (v : List (BitVec w)) : List (BitVec w) :=
 [rnd1 p t wt v + rnd2 p v, v.getD 0 0, v.getD 1 0, v.getD 2 0, v.getD 3 0 + rnd1 p t wt v, v.getD 4 0, v.getD 5 0, v.getD 6 0]
def nextW (p : Par w) (l : List (BitVec w)) : BitVec w := lo p.b (l.getD (l.length - 2) 0) + l.getD (l.length - 7) 0 + lo p.a (l.getD (l.length - 15) 0) + l.getD (l.length - 16) 0
def sched (p : Par w) (l : List (BitVec w)) : Nat → List (BitVec w)
 | 0 => l
 | n + 1 => sched p l n ++ [nextW p (sched p l n)]
theorem sched_len (p : Par w) (l : List (BitVec w)) : ∀ n, (sched p l n).length = l.length + n
 | 0 => rfl
 | n + 1 => by simp only [sched, List.length_append, sched_len p l n, List.length_singleton]; omega
theorem sched_up (p : Par w) (l : List (BitVec w)) (n i : Nat) (hi : i < l.length + n) : ∀ m, (sched p l (n + m)).getD i 0 = (sched p l n).getD i 0
 | 0 => rfl
 | m + 1 => by
  rw [← Nat.add_assoc]
  simp only [sched]
  rw [List.getD_eq_getElem?_getD, List.getElem?_append_left (by rw [sched_len]; omega), ← List.getD_eq_getElem?_getD, sched_up p l n i hi m]
def W (p : Par w) (l : List (BitVec w)) (t : Nat) : BitVec w := (sched p l t).getD t 0
theorem W_eq (p : Par w) (l : List (BitVec w)) (hl : 0 < l.length) (n t : Nat) (h : t < l.length + n) : (sched p l n).getD t 0 = W p l t := by
 unfold W
 by_cases hn : n ≤ t
 ·have := sched_up p l n t h (t - n)
  rw [show n + (t - n) = t by omega] at this
  exact this.symm
 ·have := sched_up p l t t (by omega) (n - t)
  rw [show t + (n - t) = n by omega] at this
  exact this
theorem W_next (p : Par w) (l : List (BitVec w)) (hl : l.length = 16) (t : Nat) : W p l (t + 16) = W p l t + lo p.a (W p l (t + 1)) + W p l (t + 9) + lo p.b (W p l (t + 14)) := by
 have e := W_eq p l (by omega) (t + 1) (t + 16) (by omega)
 rw [← e]
 simp only [sched]
 have hlen := sched_len p l t
 rw [List.getD_eq_getElem?_getD, List.getElem?_append_right (by rw [hlen]; omega), hlen, show t + 16 - (l.length + t) = 0 by omega]
 simp only [List.getElem?_cons_zero, Option.getD_some]
 unfold nextW
 rw [hlen, show l.length + t - 2 = t + 14 by omega, show l.length + t - 7 = t + 9 by omega, show l.length + t - 15 = t + 1 by omega, show l.length + t - 16 = t by omega,
  W_eq p l (by omega) t _ (by omega), W_eq p l (by omega) t _ (by omega), W_eq p l (by omega) t _ (by omega), W_eq p l (by omega) t _ (by omega)]
 ac_rfl
def runs (p : Par w) (l : List (BitVec w)) (v : List (BitVec w)) : Nat → List (BitVec w)
 | 0 => v
 | t + 1 => rnd p t (W p l t) (runs p l v t)
theorem runs_len (p : Par w) (l v : List (BitVec w)) (hv : v.length = 8) : ∀ t, (runs p l v t).length = 8
 | 0 => hv
 | t + 1 => rfl
def blockW (p : Par w) (l v : List (BitVec w)) : List (BitVec w) := (List.range 8).map fun i => (runs p l v p.rounds).getD i 0 + v.getD i 0
def wordsB (w : Nat) (b : List Int) (n : Nat) : List (BitVec w) := (List.range n).map fun t => BitVec.ofNat w (T 8 ((b.take ((t + 1) * (w / 8))).drop (t * (w / 8))).reverse)
def blockB (p : Par w) (v : List (BitVec w)) (b : List Int) : List (BitVec w) := blockW p (wordsB w b 16) v
theorem blockB_len (p : Par w) (v : List (BitVec w)) (b : List Int) : (blockB p v b).length = 8 := by simp [blockB, blockW]
theorem wordsB_succ (b : List Int) (n : Nat) : wordsB w b (n + 1) = wordsB w b n ++ [BitVec.ofNat w (T 8 ((b.take ((n + 1) * (w / 8))).drop (n * (w / 8))).reverse)] := by simp [wordsB, List.range_succ]
theorem wordsB_len (b : List Int) (n : Nat) : (wordsB w b n).length = n := by simp [wordsB]
def win (p : Par w) (l : List (BitVec w)) (t : Nat) : List (BitVec w) := (List.range 16).map fun j => W p l (t + (j + 16 - t % 16) % 16)
theorem win_at (p : Par w) (l : List (BitVec w)) (t i : Nat) (hi : i < 16) : (win p l t).getD ((t + i) % 16) 0 = W p l (t + i) := by
 unfold win
 rw [getD_lt (by simp; omega)]
 simp only [List.getElem_map, List.getElem_range]
 congr 1
 omega
theorem win_next (p : Par w) (l : List (BitVec w)) (t : Nat) : (win p l t).set (t % 16) (W p l (t + 16)) = win p l (t + 1) := by
 unfold win
 refine List.ext_getElem (by simp) (fun j h1 h2 => ?_)
 simp only [List.length_map, List.length_range] at h2
 rw [List.getElem_set]
 by_cases h : t % 16 = j
 ·rw [if_pos h]
  simp only [List.getElem_map, List.getElem_range]
  congr 1
  omega
 ·rw [if_neg h]
  simp only [List.getElem_map, List.getElem_range]
  congr 1
  omega
theorem win_zero (p : Par w) (b : List Int) : win p (wordsB w b 16) 0 = wordsB w b 16 := by
 unfold win
 refine List.ext_getElem (by simp [wordsB]) (fun j h1 h2 => ?_)
 rw [wordsB_len] at h2
 simp only [List.getElem_map, List.getElem_range]
 rw [show 0 + (j + 16 - 0 % 16) % 16 = j by omega, ← W_eq p _ (by rw [wordsB_len]; omega) 0 j (by rw [wordsB_len]; omega)]
 exact getD_lt (by rw [show sched p (wordsB w b 16) 0 = wordsB w b 16 from rfl, wordsB_len]; exact h2)
end
theorem roots256_in : ∀ x, x ∈ P.roots256 → 0 ≤ x ∧ x < 4294967296 := by decide +kernel
theorem roots512_in : ∀ x, x ∈ P.roots512 → 0 ≤ x ∧ x < 18446744073709551616 := by decide +kernel
def p32 : Par 32 := ⟨64, (7, 18, 3), (17, 19, 10), (2, 13, 22), (6, 11, 25), fun t => BitVec.ofInt 32 (P.roots256.getD t 0)⟩
def p64 : Par 64 := ⟨80, (1, 8, 7), (19, 61, 6), (28, 34, 39), (14, 18, 41), fun t => BitVec.ofInt 64 (P.roots512.getD t 0)⟩
theorem K32 (t : Nat) : P.roots256.getD t 0 = ((p32.K t).toNat : Int) := by
 have := In.getD (m := 4294967296) roots256_in t (by omega)
 simp only [p32, BitVec.toNat_ofInt]
 omega
theorem K64 (t : Nat) : P.roots512.getD t 0 = ((p64.K t).toNat : Int) := by
 have := In.getD (m := 18446744073709551616) roots512_in t (by omega)
 simp only [p64, BitVec.toNat_ofInt]
 omega
end Q
end

section
/- bits: Unpack, as the document has it. -/
namespace Q
open Go Go.Abs
set_option linter.unusedVariables false
set_option linter.unusedSimpArgs false
theorem td8 (p : Nat) : (p : Int).tdiv 8 = ((p / 8 : Nat) : Int) := by rw [Int.tdiv_eq_ediv_of_nonneg (by omega)]; omega
theorem tm8 (p : Nat) : (p : Int).tmod 8 = ((p % 8 : Nat) : Int) := by rw [Int.tmod_eq_emod_of_nonneg (by omega)]; omega
theorem wmul (i w : Nat) (h : w * i ≤ 9223372036854775807) : IntKind.i64.wrap ((i : Int) * (w : Int)) = ((w * i : Nat) : Int) := by
 rw [← Int.natCast_mul, Nat.mul_comm, i64w (by omega) (by omega)]
theorem bit_u8 (x s : Nat) (hx : x < 256) (hs : s ≤ 8) : bits .and .u8 ((x : Int).fdiv ((2 : Int) ^ min s 8)) 1 = ((x / 2 ^ s % 2 : Nat) : Int) := by
 have := Nat.div_le_self x (2 ^ s)
 rw [fdiv_pow x s 8 hs, show (1 : Int) = ((1 : Nat) : Int) from rfl, and_u8 _ _ (by omega) (by omega), Nat.and_one_is_mod]
theorem bit_add (v x : Nat) (hv : v < 16777216) (hx : x < 2) : IntKind.u32.wrap (IntKind.u32.wrap ((v : Int) * 2) + IntKind.u32.wrap (x : Int)) = ((x + 2 * v : Nat) : Int) := by
 rw [u32n x (by omega), show (v : Int) * 2 = ((v * 2 : Nat) : Int) by omega, u32n _ (by omega), ← Int.natCast_add, u32n _ (by omega)]; omega
theorem bit_up (V h j : Nat) : V / 2 ^ h % 2 + 2 * (V / 2 ^ (h + 1) % 2 ^ j) = V / 2 ^ h % 2 ^ (j + 1) := by
 have := piece_up V h 1 j
 rw [Nat.add_comm j 1]; exact this
end Q
end

section
/- bits: Digits. -/
namespace Q
open Go Go.Abs
set_option linter.unusedVariables false
set_option linter.unusedSimpArgs false
def dg (w L N : Nat) (i : Nat) : Int := ((N / 2 ^ (8 * L - w * (i + 1)) % 2 ^ w : Nat) : Int)
def digitsS (b : List Int) (w c : Int) : List Int := if Such b.length w c then (List.range c.toNat).map (dg w.toNat b.length (T 8 b.reverse)) else []
theorem rev_take (b : List Int) (t : Nat) (h : t ≤ b.length) : T 8 (b.take t).reverse = T 8 b.reverse / 2 ^ (8 * (b.length - t)) := by
 rw [List.reverse_take, T_drop_div 8 _ _ (by simp)]
theorem rev_step (b : List Int) (t : Nat) (h : t < b.length) : T 8 (b.take (t + 1)).reverse = (b.getD t 0).toNat % 2 ^ 8 + 256 * T 8 (b.take t).reverse := by
 rw [← take_step b 0 t h, List.reverse_append, List.reverse_singleton, List.singleton_append, T]
theorem rev_getD (b : List Int) (q : Nat) (h : q < b.length) : (b.getD q 0).toNat % 2 ^ 8 = T 8 b.reverse / 2 ^ (8 * (b.length - 1 - q)) % 2 ^ 8 := by
 rw [T_getD]
 congr 2
 rw [getD_lt h, getD_lt (by simp; omega), List.getElem_reverse]
 congr 1; omega
theorem bits_Digits (b : List Int) (w c : Int) (hb : In 256 b) (hn : b.length ≤ 1000000) {ρ : Type} (k : List Int → Option ρ) : P.bits_Digits b w c k = k (digitsS b w c) := by
 rw [P.bits_Digits_eq]
 unfold P.bits_Digits_raw
 rw [bits_such b w c hn, br_not]
 unfold digitsS
 by_cases hs : Such b.length w c
 rotate_left
 ·rw [decide_eq_false hs, br_ff, if_neg hs]
 rw [decide_eq_true hs, br_tt, if_pos hs]
 obtain ⟨h1, h2, h3, h4⟩ := hs
 obtain ⟨w, rfl⟩ := Int.eq_ofNat_of_zero_le (show 0 ≤ w by omega)
 obtain ⟨c, rfl⟩ := Int.eq_ofNat_of_zero_le h3
 have h4 : c * w ≤ b.length * 8 := by exact_mod_cast h4
 have hc : c ≤ c * w := Nat.le_mul_of_pos_right c (by omega)
 simp only [toNat_cast, List.length_replicate]
 simp (disch := omega) only [br_pos, br_neg, br_bne_pos, br_bne_neg, br_beq_pos, br_beq_neg, br_not, br_tt, br_ff, i64w]
 rw [P.bits_Digits_l6_eq]
 unfold P.bits_Digits_L6
 refine lp_go (fun i => (b.drop (ceil8 (w * i)), (w : Int), ((T 8 (b.take (ceil8 (w * i))).reverse % 2 ^ 64 : Nat) : Int), ((8 * ceil8 (w * i) - w * i : Nat) : Int), (c : Int), (i : Int), ((List.range i).map (dg w b.length (T 8 b.reverse))) ++ List.replicate (c - i) 0)) c (by simp [ceil8, T, bsw]) (fun i hi next hn' => ?_) (fun next => ?_) (by omega)
 ·have hwi : w * (i + 1) = w * i + w := Nat.mul_succ w i
  have hwc : w * (i + 1) ≤ b.length * 8 := Nat.le_trans (Nat.mul_le_mul (Nat.le_refl w) hi) (by rw [Nat.mul_comm]; exact h4)
  have c1 := ceil8_le (w * i)
  have c2 := ceil8_lt (w * i)
  have c3 := ceil8_le (w * (i + 1))
  have c4 := ceil8_lt (w * (i + 1))
  have c5 : ceil8 (w * i) ≤ ceil8 (w * (i + 1)) := by unfold ceil8; omega
  simp only [P.bits_Digits_r6]
  rw [br_pos (by omega), P.bits_Digits_l8_eq]
  unfold P.bits_Digits_L8
  refine lp_go (fun j => (b.drop (ceil8 (w * i) + j), (w : Int), ((T 8 (b.take (ceil8 (w * i) + j)).reverse % 2 ^ 64 : Nat) : Int), ((8 * (ceil8 (w * i) + j) - w * i : Nat) : Int), (i : Int), (c : Int), (i : Int), ((List.range i).map (dg w b.length (T 8 b.reverse))) ++ List.replicate (c - i) 0)) (ceil8 (w * (i + 1)) - ceil8 (w * i)) rfl (fun j hj next2 hn2 => ?_) (fun next2 => ?_) (by omega)
  ·have ht : ceil8 (w * i) + j < b.length := by omega
   obtain ⟨x, hx, hx2, hx3⟩ := byte_at hb (ceil8 (w * i) + j)
   have est := rev_step b (ceil8 (w * i) + j) ht
   rw [← hx3] at est
   simp only [P.bits_Digits_r8, List.length_drop, toNat_cast]
   rw [List.take_of_length_le (l := b.drop (ceil8 (w * i) + j)) (by simp), List.drop_drop]
   have e0 : (b.drop (ceil8 (w * i) + j)).getD 0 0 = (x : Int) := by
    rw [← hx, drop_step b 0 _ ht]; rfl
   have e1 : IntKind.u64.wrap (((T 8 (b.take (ceil8 (w * i) + j)).reverse % 2 ^ 64 : Nat) : Int) * 2 ^ 8) = ((T 8 (b.take (ceil8 (w * i) + j)).reverse % 2 ^ 56 * 2 ^ 8 : Nat) : Int) := by
    rw [u64m]; omega
   rw [e0, e1, u64n x (by omega), or_u64 _ _ (by omega) (by omega), or_shift _ _ _ (by omega)]
   simp (disch := omega) only [br_pos, br_neg, br_bne_pos, br_bne_neg, br_beq_pos, br_beq_neg, br_not, br_tt, br_ff, i64w]
   rw [Nat.add_assoc, show ((8 * (ceil8 (w * i) + j) - w * i : Nat) : Int) + 8 = ((8 * (ceil8 (w * i) + (j + 1)) - w * i : Nat) : Int) by omega,
    show T 8 (b.take (ceil8 (w * i) + j)).reverse % 2 ^ 56 * 2 ^ 8 + x = T 8 (b.take (ceil8 (w * i) + (j + 1))).reverse % 2 ^ 64 by rw [← Nat.add_assoc, est]; omega]
   exact hn2
  ·have et : ceil8 (w * i) + (ceil8 (w * (i + 1)) - ceil8 (w * i)) = ceil8 (w * (i + 1)) := by omega
   simp only [P.bits_Digits_r8, toNat_cast]
   rw [et, br_neg (by omega), show ((8 * ceil8 (w * (i + 1)) - w * i : Nat) : Int) - (w : Int) = ((8 * ceil8 (w * (i + 1)) - w * (i + 1) : Nat) : Int) by omega,
    i64w (x := ((8 * ceil8 (w * (i + 1)) - w * (i + 1) : Nat) : Int)) (by omega) (by omega)]
   simp only [toNat_cast]
   have hq : T 8 (b.take (ceil8 (w * (i + 1)))).reverse % 2 ^ 64 / 2 ^ (8 * ceil8 (w * (i + 1)) - w * (i + 1)) < 18446744073709551616 := by
    have := Nat.div_le_self (T 8 (b.take (ceil8 (w * (i + 1)))).reverse % 2 ^ 64) (2 ^ (8 * ceil8 (w * (i + 1)) - w * (i + 1)))
    omega
   rw [fdiv_pow _ _ 64 (by omega), and_mask64 _ w hq (by omega), piece_mod _ _ _ _ (by omega)]
   have hw2 : 2 ^ w ≤ 2 ^ 24 := p2_le (by omega)
   have hmod := Nat.mod_lt (T 8 (b.take (ceil8 (w * (i + 1)))).reverse / 2 ^ (8 * ceil8 (w * (i + 1)) - w * (i + 1))) (p2 w)
   rw [u32n _ (by omega)]
   have ed : ((T 8 (b.take (ceil8 (w * (i + 1)))).reverse / 2 ^ (8 * ceil8 (w * (i + 1)) - w * (i + 1)) % 2 ^ w : Nat) : Int) = dg w b.length (T 8 b.reverse) i := by
    unfold dg
    rw [rev_take b _ (by omega), Nat.div_div_eq_div_mul, ← Nat.pow_add]
    congr 4; omega
   rw [ed]
   simp only [List.length_append, List.length_map, List.length_range, List.length_replicate]
   simp (disch := omega) only [br_pos, br_neg, br_bne_pos, br_bne_neg, br_beq_pos, br_beq_neg, br_not, br_tt, br_ff, i64w]
   rw [fill_step _ _ _ hi]
   exact hn'
 ·simp only [P.bits_Digits_r6]
  rw [br_neg (by omega), Nat.sub_self]
  simp
theorem R01_Digits (b : List Int) (w c : Int) (hb : In 256 b) (hn : b.length ≤ 1000000) {ρ : Type} (k : List Int → Option ρ) : P.R01_Digits b w c k = k (digitsS b w c) := by
 rw [P.R01_Digits_eq]
 unfold P.R01_Digits_raw
 rw [R01_such b w c hn, br_not]
 unfold digitsS
 by_cases hs : Such b.length w c
 rotate_left
 ·rw [decide_eq_false hs, br_ff, if_neg hs]
 rw [decide_eq_true hs, br_tt, if_pos hs]
 obtain ⟨h1, h2, h3, h4⟩ := hs
 obtain ⟨w, rfl⟩ := Int.eq_ofNat_of_zero_le (show 0 ≤ w by omega)
 obtain ⟨c, rfl⟩ := Int.eq_ofNat_of_zero_le h3
 have h4 : c * w ≤ b.length * 8 := by exact_mod_cast h4
 have hc : c ≤ c * w := Nat.le_mul_of_pos_right c (by omega)
 simp only [toNat_cast]
 rw [P.R01_Digits_l5_eq]
 unfold P.R01_Digits_L5
 refine lp_go (fun i => (b, (w : Int), (c : Int), (i : Int), (List.range i).map (dg w b.length (T 8 b.reverse)))) c (by simp) (fun i hi next hn' => ?_) (fun next => ?_) (by omega)
 ·have hwi : w * (i + 1) = w * i + w := Nat.mul_succ w i
  have hwc : w * (i + 1) ≤ b.length * 8 := Nat.le_trans (Nat.mul_le_mul (Nat.le_refl w) hi) (by rw [Nat.mul_comm]; exact h4)
  simp only [P.R01_Digits_r5]
  rw [br_pos (by omega), P.R01_Digits_l9_eq]
  unfold P.R01_Digits_L9
  refine lp_go (fun j => (b, (w : Int), (c : Int), (i : Int), ((T 8 b.reverse / 2 ^ (8 * b.length - (w * i + j)) % 2 ^ j : Nat) : Int), (j : Int), (List.range i).map (dg w b.length (T 8 b.reverse)))) w (by simp [Nat.mod_one]) (fun j hj next2 hn2 => ?_) (fun next2 => ?_) (by omega)
  ·obtain ⟨x, hx, hx2, hx3⟩ := byte_at hb ((w * i + j) / 8)
   simp only [P.R01_Digits_r9]
   rw [wmul i w (by omega), ← Int.natCast_add, i64w (x := ((w * i + j : Nat) : Int)) (by omega) (by omega), td8, tm8, i64w (x := (((w * i + j) / 8 : Nat) : Int)) (by omega) (by omega),
    show (7 : Int) - (((w * i + j) % 8 : Nat) : Int) = ((7 - (w * i + j) % 8 : Nat) : Int) by omega, i64w (x := ((7 - (w * i + j) % 8 : Nat) : Int)) (by omega) (by omega)]
   simp only [toNat_cast]
   have hv := Nat.mod_lt (T 8 b.reverse / 2 ^ (8 * b.length - (w * i + j))) (p2 j)
   have hv2 : 2 ^ j ≤ 2 ^ 24 := p2_le (by omega)
   rw [hx, bit_u8 x _ hx2 (by omega), bit_add _ _ (by omega) (by omega), hx3, rev_getD b _ (by omega)]
   have e := piece_piece (T 8 b.reverse) (8 * (b.length - 1 - (w * i + j) / 8)) 8 (7 - (w * i + j) % 8) 1 (by omega)
   rw [Nat.pow_one, show 8 * (b.length - 1 - (w * i + j) / 8) + (7 - (w * i + j) % 8) = 8 * b.length - (w * i + (j + 1)) by omega] at e
   rw [e, show 8 * b.length - (w * i + j) = 8 * b.length - (w * i + (j + 1)) + 1 by omega, bit_up]
   simp (disch := omega) only [br_pos, br_neg, br_bne_pos, br_bne_neg, br_beq_pos, br_beq_neg, br_not, br_tt, br_ff, i64w]
   exact hn2
  ·simp only [P.R01_Digits_r9, List.length_map, List.length_range]
   simp (disch := omega) only [br_pos, br_neg, br_bne_pos, br_bne_neg, br_beq_pos, br_beq_neg, br_not, br_tt, br_ff, i64w]
   have ed : ((T 8 b.reverse / 2 ^ (8 * b.length - (w * i + w)) % 2 ^ w : Nat) : Int) = dg w b.length (T 8 b.reverse) i := by unfold dg; rw [hwi]
   rw [ed, range_map_step]
   exact hn'
 ·simp only [P.R01_Digits_r5]
  rw [br_neg (by omega)]
end Q
end

section
open Go Go.Abs
set_option linter.unusedVariables false
namespace P
end P
end

section
/- bits: numbers as bytes and back. -/
namespace Q
open Go Go.Abs
set_option linter.unusedVariables false
set_option linter.unusedSimpArgs false
theorem bsw_more (w n m X : Nat) (hm : m ≤ n) (hX : X < 2 ^ (w * m)) : bsw w m X ++ List.replicate (n - m) 0 = bsw w n X := by
 refine List.ext_getElem (by simp; omega) (fun i h1 h2 => ?_)
 have hi : i < n := by simpa using h2
 rw [← getD_lt (d := 0) h2, bsw_getD _ _ _ _ hi]
 by_cases him : i < m
 ·rw [List.getElem_append_left (by simpa using him), ← getD_lt (d := 0), bsw_getD _ _ _ _ him]
 ·rw [List.getElem_append_right (by simp; omega), List.getElem_replicate, Nat.div_eq_of_lt]
  ·rfl
  ·exact Nat.lt_of_lt_of_le hX (p2_le (Nat.mul_le_mul (Nat.le_refl _) (by omega)))
theorem bits_Le (N s : Nat) (hN : N < 18446744073709551616) (hs : s ≤ 65536) {ρ : Type} (k : List Int → Option ρ) : P.bits_Le (N : Int) (s : Int) k = k (bsw 8 s N) := by
 rw [P.bits_Le_eq]
 unfold P.bits_Le_raw
 have em : (bif decide ((8 : Int) < (s : Int)) then (8 : Int) else (s : Int)) = ((min s 8 : Nat) : Int) := by
  by_cases h : (8 : Int) < (s : Int)
  ·rw [decide_eq_true h]; simp only [cond_true]; omega
  ·rw [decide_eq_false h]; simp only [cond_false]; omega
 simp only [toNat_cast]
 rw [em]
 simp (disch := omega) only [br_pos, br_neg, br_bne_pos, br_bne_neg, br_beq_pos, br_beq_neg, br_not, br_tt, br_ff, i64w]
 rw [P.bits_Le_l5_eq]
 unfold P.bits_Le_L5
 refine lp_go (fun i => ((N : Int), ((min s 8 : Nat) : Int), (i : Int), bsw 8 i N ++ List.replicate (s - i) 0)) (min s 8) (by simp [bsw]) (fun i hi next hn' => ?_) (fun next => ?_) (by omega)
 ·simp only [P.bits_Le_r5, List.length_append, bsw_length, List.length_replicate, toNat_cast]
  rw [show (8 : Int) * (i : Int) = ((8 * i : Nat) : Int) by omega, i64w (x := ((8 * i : Nat) : Int)) (by omega) (by omega)]
  simp only [toNat_cast]
  rw [fdiv_pow N _ 64 (by omega), u8m]
  simp (disch := omega) only [br_pos, br_neg, br_bne_pos, br_bne_neg, br_beq_pos, br_beq_neg, br_not, br_tt, br_ff, i64w]
  rw [List.set_append_right _ _ (by simp), bsw_length, Nat.sub_self, show s - i = (s - (i + 1)) + 1 by omega, List.replicate_succ, List.set_cons_zero]
  rw [bsw_succ, List.append_assoc, List.singleton_append] at hn'
  exact hn'
 ·simp only [P.bits_Le_r5]
  rw [br_neg (by omega)]
  by_cases h : s ≤ 8
  ·rw [Nat.min_eq_left h, Nat.sub_self]; simp
  ·rw [Nat.min_eq_right (by omega), bsw_more 8 s 8 N (by omega) (by omega)]
theorem set_map {f : Nat → Int} (n q : Nat) (v : Int) : ((List.range n).map f).set q v = (List.range n).map (fun j => if j = q then v else f j) := by
 refine List.ext_getElem (by simp) (fun i h1 h2 => ?_)
 simp only [List.getElem_set, List.getElem_map, List.getElem_range]
 by_cases h : q = i
 ·rw [if_pos h, if_pos h.symm]
 ·rw [if_neg h, if_neg (fun e => h e.symm)]
theorem map_getD {f : Nat → Int} (n q : Nat) (h : q < n) : ((List.range n).map f).getD q 0 = f q := by
 rw [getD_lt (by simpa using h)]; simp
theorem list_map (l : List Int) : l = (List.range l.length).map (fun j => l.getD j 0) := by
 refine List.ext_getElem (by simp) (fun i h1 h2 => ?_)
 simp only [List.getElem_map, List.getElem_range]
 rw [getD_lt h1]
theorem bits_Be (N s : Nat) (hN : N < 18446744073709551616) (hs : s ≤ 65536) {ρ : Type} (k : List Int → Option ρ) : P.bits_Be (N : Int) (s : Int) k = k (bsw 8 s N).reverse := by
 rw [P.bits_Be_eq]
 unfold P.bits_Be_raw
 rw [bits_Le N s hN hs, P.bits_Be_l1_1_eq]
 unfold P.bits_Be_L1_1
 simp only [bsw_length]
 rw [i64w (by omega) (by omega)]
 have hfin : (bsw 8 s N).reverse = (List.range s).map (fun q => (bsw 8 s N).getD (s - 1 - q) 0) := by
  refine List.ext_getElem (by simp) (fun i h1 h2 => ?_)
  have hi : i < s := by simpa using h2
  rw [List.getElem_reverse, List.getElem_map, List.getElem_range, getD_lt (by simp; omega)]
  congr 1; simp
 have h0 : bsw 8 s N = (List.range s).map (fun q => if q < 0 ∨ s - 0 ≤ q then (bsw 8 s N).getD (s - 1 - q) 0 else (bsw 8 s N).getD q 0) := by
  have e := list_map (bsw 8 s N)
  rw [bsw_length] at e
  refine e.trans (List.map_congr_left (fun q hq => ?_))
  have := List.mem_range.1 hq
  rw [if_neg (by omega)]
 generalize bsw 8 s N = l at h0 hfin
 refine lp_go (fun i => ((i : Int), (s : Int) - 1 - (i : Int), (List.range s).map (fun q => if q < i ∨ s - i ≤ q then l.getD (s - 1 - q) 0 else l.getD q 0))) (s / 2) (by rw [← h0]; simp) (fun i hi next hn' => ?_) (fun next => ?_) (by omega)
 ·simp only [P.bits_Be_r1_1, List.length_map, List.length_range, List.length_set]
  rw [show (s : Int) - 1 - (i : Int) = ((s - 1 - i : Nat) : Int) by omega]
  simp only [toNat_cast]
  rw [map_getD _ _ (by omega), map_getD _ _ (by omega), if_neg (by omega), if_neg (by omega), set_map, set_map]
  have e : (List.range s).map (fun q => if q < i + 1 ∨ s - (i + 1) ≤ q then l.getD (s - 1 - q) 0 else l.getD q 0) = (List.range s).map (fun j => if j = s - 1 - i then l.getD i 0 else if j = i then l.getD (s - 1 - i) 0 else if j < i ∨ s - i ≤ j then l.getD (s - 1 - j) 0 else l.getD j 0) := by
   refine List.map_congr_left (fun q hq => ?_)
   have := List.mem_range.1 hq
   by_cases a1 : q = s - 1 - i
   ·subst a1; rw [if_pos (by omega), if_pos rfl]; congr 1; omega
   ·rw [if_neg a1]
    by_cases a2 : q = i
    ·subst a2; rw [if_pos (by omega), if_pos rfl]
    ·rw [if_neg a2]
     by_cases a3 : q < i ∨ s - i ≤ q
     ·rw [if_pos (by omega), if_pos a3]
     ·rw [if_neg (by omega), if_neg a3]
  rw [e] at hn'
  simp (disch := omega) only [br_pos, br_neg, br_bne_pos, br_bne_neg, br_beq_pos, br_beq_neg, br_not, br_tt, br_ff, i64w]
  rw [show ((s - 1 - i : Nat) : Int) - 1 = (s : Int) - 1 - ((i + 1 : Nat) : Int) by omega]
  exact hn'
 ·simp only [P.bits_Be_r1_1]
  rw [br_neg (by omega), hfin]
  congr 1
  refine List.map_congr_left (fun q hq => ?_)
  have := List.mem_range.1 hq
  by_cases a3 : q < s / 2 ∨ s - s / 2 ≤ q
  ·rw [if_pos a3]
  ·rw [if_neg a3]; congr 1; omega
theorem bits_Num (b : List Int) (hb : In 256 b) (hn : b.length ≤ 1000000) {ρ : Type} (k : Int → Option ρ) : P.bits_Num b k = k ((T 8 b.reverse % 2 ^ 64 : Nat) : Int) := by
 rw [P.bits_Num_eq]
 unfold P.bits_Num_raw
 rw [P.bits_Num_l3_eq]
 unfold P.bits_Num_L3
 refine lp_go (fun i => (((T 8 (b.take i).reverse % 2 ^ 64 : Nat) : Int), b, (b.length : Int), (i : Int))) b.length (by simp [T]) (fun i hi next hn' => ?_) (fun next => ?_) (by omega)
 ·obtain ⟨x, hx, hx2, hx3⟩ := byte_at hb i
  have est := rev_step b i hi
  rw [← hx3] at est
  simp only [P.bits_Num_r3, toNat_cast]
  have e1 : IntKind.u64.wrap (((T 8 (b.take i).reverse % 2 ^ 64 : Nat) : Int) * 2 ^ 8) = ((T 8 (b.take i).reverse % 2 ^ 56 * 2 ^ 8 : Nat) : Int) := by
   rw [u64m]; omega
  rw [hx, e1, u64n x (by omega), or_u64 _ _ (by omega) (by omega), or_shift _ _ _ (by omega),
   show T 8 (b.take i).reverse % 2 ^ 56 * 2 ^ 8 + x = T 8 (b.take (i + 1)).reverse % 2 ^ 64 by rw [est]; omega]
  simp (disch := omega) only [br_pos, br_neg, br_bne_pos, br_bne_neg, br_beq_pos, br_beq_neg, br_not, br_tt, br_ff, i64w]
  exact hn'
 ·simp only [P.bits_Num_r3]
  rw [br_neg (by omega), List.take_length]
end Q
end

section
/- SHA-2: the program's engine of 32 bits. -/
namespace Q
open Go Go.Abs
set_option linter.unusedVariables false
set_option linter.unusedSimpArgs false
theorem e32_rot (rd : Int) (t0 t1 t2 t3 : List Int) (x : BitVec 32) (m : Int) (n : Nat) (hm : m = (n : Int)) (hn : n ≤ 32) {ρ : Type} (k : Int → Option ρ) :
    P.sha_engine_uint32_rotated 32 rd t0 t1 t2 t3 (x.toNat : Int) m k = k ((rr x n).toNat : Int) := by
 subst hm
 rw [P.sha_engine_uint32_rotated_eq]
 unfold P.sha_engine_uint32_rotated_raw
 rw [br_neg (by omega), i64w (by omega) (by omega), br_neg (by omega), show (32 : Int) - (n : Int) = ((32 - n : Nat) : Int) by omega]
 simp only [toNat_cast]
 rw [shr32 _ _ hn, shl32 _ _ (by omega), or32]
 rfl
theorem e32_high3 (rd : Int) (x : BitVec 32) {ρ : Type} (k : Int → Option ρ) : P.sha_engine_uint32_high 32 rd [7, 18, 3] [17, 19, 10] [2, 13, 22] [6, 11, 25] (x.toNat : Int) 3 k = k ((hi p32.d x).toNat : Int) := by
 rw [P.sha_engine_uint32_high_eq]
 unfold P.sha_engine_uint32_high_raw
 simp only [List.getD_cons_zero, List.getD_cons_succ]
 rw [br_neg (by decide), br_neg (by decide), br_neg (by decide), br_pos (by decide), e32_rot _ _ _ _ _ _ _ 6 (by rfl) (by omega), e32_rot _ _ _ _ _ _ _ 11 (by rfl) (by omega), e32_rot _ _ _ _ _ _ _ 25 (by rfl) (by omega), xor32, xor32]
 rfl
theorem e32_high2 (rd : Int) (x : BitVec 32) {ρ : Type} (k : Int → Option ρ) : P.sha_engine_uint32_high 32 rd [7, 18, 3] [17, 19, 10] [2, 13, 22] [6, 11, 25] (x.toNat : Int) 2 k = k ((hi p32.c x).toNat : Int) := by
 rw [P.sha_engine_uint32_high_eq]
 unfold P.sha_engine_uint32_high_raw
 simp only [List.getD_cons_zero, List.getD_cons_succ]
 rw [br_neg (by decide), br_neg (by decide), br_pos (by decide), e32_rot _ _ _ _ _ _ _ 2 (by rfl) (by omega), e32_rot _ _ _ _ _ _ _ 13 (by rfl) (by omega), e32_rot _ _ _ _ _ _ _ 22 (by rfl) (by omega), xor32, xor32]
 rfl
theorem e32_low0 (rd : Int) (x : BitVec 32) {ρ : Type} (k : Int → Option ρ) : P.sha_engine_uint32_low 32 rd [7, 18, 3] [17, 19, 10] [2, 13, 22] [6, 11, 25] (x.toNat : Int) 0 k = k ((lo p32.a x).toNat : Int) := by
 rw [P.sha_engine_uint32_low_eq]
 unfold P.sha_engine_uint32_low_raw
 simp only [List.getD_cons_zero, List.getD_cons_succ]
 rw [br_pos (by decide), e32_rot _ _ _ _ _ _ _ 7 (by rfl) (by omega), e32_rot _ _ _ _ _ _ _ 18 (by rfl) (by omega), br_neg (by decide), xor32, show (3 : Int).toNat = 3 from rfl, shr32 _ _ (by omega), xor32]
 rfl
theorem e32_low1 (rd : Int) (x : BitVec 32) {ρ : Type} (k : Int → Option ρ) : P.sha_engine_uint32_low 32 rd [7, 18, 3] [17, 19, 10] [2, 13, 22] [6, 11, 25] (x.toNat : Int) 1 k = k ((lo p32.b x).toNat : Int) := by
 rw [P.sha_engine_uint32_low_eq]
 unfold P.sha_engine_uint32_low_raw
 simp only [List.getD_cons_zero, List.getD_cons_succ]
 rw [br_neg (by decide), br_pos (by decide), e32_rot _ _ _ _ _ _ _ 17 (by rfl) (by omega), e32_rot _ _ _ _ _ _ _ 19 (by rfl) (by omega), br_neg (by decide), xor32, show (10 : Int).toNat = 10 from rfl, shr32 _ _ (by omega), xor32]
 rfl
theorem e32_root (t : Nat) (h : t < 64) {ρ : Type} (k : Int → Option ρ) : P.sha_root256 (t : Int) k = k ((p32.K t).toNat : Int) := by
 rw [P.sha_root256_eq]
 unfold P.sha_root256_raw
 rw [br_pos (by omega), br_pos (by omega), toNat_cast, K32]
theorem v8 {w : Nat} (v : List (BitVec w)) (hv : v.length = 8) : v = [v.getD 0 0, v.getD 1 0, v.getD 2 0, v.getD 3 0, v.getD 4 0, v.getD 5 0, v.getD 6 0, v.getD 7 0] := by
 match v, hv with
 | [a, b, c, d, e, f, g, h], _ => rfl
theorem tm16 (t : Nat) : ((t : Nat) : Int).tmod 16 = ((t % 16 : Nat) : Int) := by
 rw [Int.tmod_eq_emod_of_nonneg (by omega)]; rfl
theorem e32_l4 (b : List Int) (hb : In 256 b) (hl : b.length = 16 * 4) (rd : Int) (t0 t1 t2 t3 h1 h2 : List Int) {ρ : Type} (k0 : List Int → Int → Int → Int → Int → List Int → List Int → List Int → List Int → List Int → List Int → List Int → Option ρ) :
    P.sha_engine_uint32_block_l4 b 4 0 32 rd t0 t1 t2 t3 h1 h2 (List.replicate 16 0) k0 = k0 b 4 16 32 rd t0 t1 t2 t3 h1 h2 (cv (wordsB 32 b 16)) := by
 rw [P.sha_engine_uint32_block_l4_eq]
 unfold P.sha_engine_uint32_block_L4
 refine lp_go (fun i => (b, 4, (i : Int), 32, rd, t0, t1, t2, t3, h1, h2, cv (wordsB 32 b i) ++ List.replicate (16 - i) 0)) 16 (by simp [wordsB, cv]) (fun i hi next hn' => ?_) (fun next => ?_) (by omega)
 ·simp only [P.sha_engine_uint32_block_r4, toNat_cast]
  have e1 : IntKind.i64.wrap ((i : Int) * 4) = ((i * 4 : Nat) : Int) := by rw [i64w (by omega) (by omega)]; omega
  have e2 : IntKind.i64.wrap (IntKind.i64.wrap ((i : Int) + 1) * 4) = (((i + 1) * 4 : Nat) : Int) := by rw [i64w (x := (i : Int) + 1) (by omega) (by omega), i64w (by omega) (by omega)]; omega
  rw [e1, e2]
  simp only [toNat_cast]
  have hlen : ((b.take ((i + 1) * 4)).drop (i * 4)).length = 4 := by simp; omega
  rw [br_pos (by omega), br_pos (by omega), br_pos (by omega), br_pos (by omega), bits_Num _ ((hb.take _).drop _) (by omega), br_pos (by omega), br_pos (by omega)]
  have e3 : IntKind.u32.wrap ((T 8 ((b.take ((i + 1) * 4)).drop (i * 4)).reverse % 2 ^ 64 : Nat) : Int) = (((BitVec.ofNat 32 (T 8 ((b.take ((i + 1) * 4)).drop (i * 4)).reverse)).toNat : Nat) : Int) := by
   rw [u32m, BitVec.toNat_ofNat]; omega
  have e4 : IntKind.i64.wrap ((i : Int) + 1) = ((i + 1 : Nat) : Int) := by rw [i64w (by omega) (by omega)]; omega
  rw [e3, e4]
  have e5 : (cv (wordsB 32 b i) ++ List.replicate (16 - i) (0 : Int)).set i (((BitVec.ofNat 32 (T 8 ((b.take ((i + 1) * 4)).drop (i * 4)).reverse)).toNat : Nat) : Int) = cv (wordsB 32 b (i + 1)) ++ List.replicate (16 - (i + 1)) 0 := by
   rw [List.set_append_right _ _ (by simp [wordsB_len]), cv_length, wordsB_len, Nat.sub_self, show 16 - i = (16 - (i + 1)) + 1 by omega, List.replicate_succ, List.set_cons_zero, wordsB_succ, ← cv_append, List.append_assoc]
   rfl
  rw [e5]
  exact hn'
 ·simp only [P.sha_engine_uint32_block_r4]
  rw [br_neg (by omega)]
  simp
theorem e32_l10 (l v : List (BitVec 32)) (hv : v.length = 8) (h2 h1 : List Int) {ρ : Type} (k0 : Int → Int → List Int → List Int → List Int → Int → Int → List Int → List Int → List Int → List Int → List Int → Option ρ) (hl : l.length = 16) :
    P.sha_engine_uint32_block_l10 64 0 (cv (win p32 l 0)) h2 h1 32 64 [7, 18, 3] [17, 19, 10] [2, 13, 22] [6, 11, 25] (cv v) k0 =
     k0 64 64 (cv (win p32 l 64)) h2 h1 32 64 [7, 18, 3] [17, 19, 10] [2, 13, 22] [6, 11, 25] (cv (runs p32 l v 64)) := by
 rw [P.sha_engine_uint32_block_l10_eq]
 unfold P.sha_engine_uint32_block_L10
 refine lp_go (fun t => (64, (t : Int), cv (win p32 l t), h2, h1, 32, 64, [7, 18, 3], [17, 19, 10], [2, 13, 22], [6, 11, 25], cv (runs p32 l v t))) 64 rfl (fun t ht next hn' => ?_) (fun next => ?_) (by omega)
 ·simp only [P.sha_engine_uint32_block_r10]
  have e1 : IntKind.i64.wrap ((t : Int) + 1) = ((t + 1 : Nat) : Int) := by rw [i64w (by omega) (by omega)]; omega
  have e9 : IntKind.i64.wrap ((t : Int) + 9) = ((t + 9 : Nat) : Int) := by rw [i64w (by omega) (by omega)]; omega
  have e14 : IntKind.i64.wrap ((t : Int) + 14) = ((t + 14 : Nat) : Int) := by rw [i64w (by omega) (by omega)]; omega
  simp only [e1, e9, e14, tm16, toNat_cast, cv_getD]
  have g0 := win_at p32 l t 0 (by omega)
  rw [Nat.add_zero] at g0
  rw [g0, win_at p32 l t 1 (by omega), win_at p32 l t 9 (by omega), win_at p32 l t 14 (by omega)]
  have hV := v8 _ (runs_len p32 l v hv t)
  rw [br_pos (by omega), br_pos (by omega), br_pos (by omega), e32_high3, e32_root t ht, e32_high2, br_pos (by omega), br_pos (by omega), e32_low0, br_pos (by omega), br_pos (by omega), br_pos (by omega), br_pos (by omega), e32_low1, br_pos (by omega), br_pos (by omega)]
  simp only [add32, xor32, and32, or32]
  rw [← W_next p32 l hl t, cv_set, win_next]
  have hr : cv (runs p32 l v (t + 1)) = (((List.take 1 (cv (runs p32 l v t))).append (List.take 7 (List.take 7 (List.drop 0 (cv (runs p32 l v t)))) ++ List.drop (1 + min 7 (List.take 7 (List.drop 0 (cv (runs p32 l v t)))).length) (cv (runs p32 l v t)))).set 4
      (((runs p32 l v t).getD 3 0 + rnd1 p32 t (W p32 l t) (runs p32 l v t)).toNat : Int)).set 0 ((rnd1 p32 t (W p32 l t) (runs p32 l v t) + rnd2 p32 (runs p32 l v t)).toNat : Int) := by
   rw [hV]
   rfl
  have h3 : ((List.take 1 (cv (runs p32 l v t))).append (List.take 7 (List.take 7 (List.drop 0 (cv (runs p32 l v t)))) ++ List.drop (1 + min 7 (List.take 7 (List.drop 0 (cv (runs p32 l v t)))).length) (cv (runs p32 l v t)))).getD 4 0 = (((runs p32 l v t).getD 3 0).toNat : Int) := by
   rw [hV]
   rfl
  rw [h3, add32]
  rw [hr] at hn'
  exact hn'
 ·simp only [P.sha_engine_uint32_block_r10]
  rw [br_neg (by omega)]
  rfl
theorem e32_l21 (v u : List (BitVec 32)) (hv : v.length = 8) (hu : u.length = 8) (h2 : List Int) {ρ : Type} (k0 : Int → List Int → List Int → List Int → Option ρ) :
    P.sha_engine_uint32_block_l21 0 (cv v) h2 (cv u) k0 = k0 8 (cv v) h2 (cv ((List.range 8).map fun i => u.getD i 0 + v.getD i 0)) := by
 rw [P.sha_engine_uint32_block_l21_eq]
 unfold P.sha_engine_uint32_block_L21
 have hs : ∀ i, i ≤ 8 → (((List.range i).map fun i => u.getD i 0 + v.getD i 0) ++ u.drop i).length = 8 := fun i hi => by simp; omega
 refine lp_go (fun i => ((i : Int), cv v, h2, cv (((List.range i).map fun i => u.getD i 0 + v.getD i 0) ++ u.drop i))) 8 (by simp) (fun i hi next hn' => ?_) (fun next => ?_) (by omega)
 ·simp only [P.sha_engine_uint32_block_r21, toNat_cast, cv_getD]
  have e1 : IntKind.i64.wrap ((i : Int) + 1) = ((i + 1 : Nat) : Int) := by rw [i64w (by omega) (by omega)]; omega
  have e2 : (((List.range i).map fun i => u.getD i 0 + v.getD i 0) ++ u.drop i).getD i 0 = u.getD i 0 := by
   rw [List.getD_eq_getElem?_getD, List.getElem?_append_right (by simp), List.getElem?_drop, List.length_map, List.length_range, List.getD_eq_getElem?_getD]
   congr 2
   omega
  rw [e1, e2, add32, cv_set]
  have e3 : (((List.range i).map fun i => u.getD i 0 + v.getD i 0) ++ u.drop i).set i (u.getD i 0 + v.getD i 0) = ((List.range (i + 1)).map fun i => u.getD i 0 + v.getD i 0) ++ u.drop (i + 1) := by
   rw [List.set_append_right _ _ (by simp), List.length_map, List.length_range, Nat.sub_self, List.range_succ, List.map_append, List.append_assoc, List.drop_eq_getElem_cons (by omega), List.set_cons_zero]
   rfl
  rw [e3]
  simp (disch := omega) only [br_pos, br_neg, br_bne_pos, br_bne_neg, br_beq_pos, br_beq_neg, br_not, br_tt, br_ff, i64w]
  exact hn'
 ·simp only [P.sha_engine_uint32_block_r21]
  rw [br_neg (by omega), List.drop_eq_nil_of_le (by omega), List.append_nil]
  rfl
theorem e32_block (v : List (BitVec 32)) (hv : v.length = 8) (b : List Int) (hb : In 256 b) (hl : b.length = 16 * 4) {ρ : Type} (k : List Int → Option ρ) :
    P.sha_engine_uint32_block 32 64 [7, 18, 3] [17, 19, 10] [2, 13, 22] [6, 11, 25] (cv v) b k = k (cv (blockB p32 v b)) := by
 rw [P.sha_engine_uint32_block_eq]
 unfold P.sha_engine_uint32_block_raw
 rw [show IntKind.i64.wrap ((32 : Int).tdiv 8) = 4 from rfl]
 have := e32_l4 b hb hl 64 [7, 18, 3] [17, 19, 10] [2, 13, 22] [6, 11, 25] (cv v) (List.replicate 8 0) (fun (q0 : List Int) (q1 q2 q3 q4 : Int) (q5 q6 q7 q8 q9 q10 q11 : List Int) =>
  P.sha_engine_uint32_block_l10 q4 (0 : Int) q11 q10 q9 q3 q4 q5 q6 q7 q8 q9
   fun (q12 q13 : Int) (q14 q15 q16 : List Int) (q17 q18 : Int) (q19 q20 q21 q22 q23 : List Int) =>
   P.sha_engine_uint32_block_l21 (0 : Int) q16 q15 q23 fun (q24 : Int) (q25 q26 q27 : List Int) => k q27)
 refine this.trans ?_
 rw [← win_zero p32, e32_l10 _ v hv _ _ _ (wordsB_len b 16), e32_l21 v _ hv (runs_len _ _ _ hv _)]
 rfl
end Q
end

section
/- SHA-2: the document's block of words of 32 bits. -/
namespace Q
open Go Go.Abs
set_option linter.unusedVariables false
set_option linter.unusedSimpArgs false
theorem R01_Num (b : List Int) (hb : In 256 b) (hn : b.length ≤ 1000000) {ρ : Type} (k : Int → Option ρ) : P.R01_Num b k = k ((T 8 b.reverse % 2 ^ 64 : Nat) : Int) := by
 rw [P.R01_Num_eq]
 unfold P.R01_Num_raw
 rw [P.R01_Num_l3_eq]
 unfold P.R01_Num_L3
 refine lp_go (fun i => (b, ((T 8 (b.take i).reverse % 2 ^ 64 : Nat) : Int), (i : Int))) b.length (by simp [T]) (fun i hi next hn' => ?_) (fun next => ?_) (by omega)
 ·obtain ⟨x, hx, hx2, hx3⟩ := byte_at hb i
  have est := rev_step b i hi
  rw [← hx3] at est
  simp only [P.R01_Num_r3, toNat_cast]
  have e1 : IntKind.u64.wrap (IntKind.u64.wrap (((T 8 (b.take i).reverse % 2 ^ 64 : Nat) : Int) * 256) + IntKind.u64.wrap (x : Int)) = ((T 8 (b.take (i + 1)).reverse % 2 ^ 64 : Nat) : Int) := by
   rw [u64m, u64m, u64m, est]; omega
  rw [hx, e1]
  simp (disch := omega) only [br_pos, br_neg, br_bne_pos, br_bne_neg, br_beq_pos, br_beq_neg, br_not, br_tt, br_ff, i64w]
  exact hn'
 ·simp only [P.R01_Num_r3]
  rw [br_neg (by omega), List.take_length]
theorem right_any (x m : Int) (n : Nat) (hm : m = (n : Int)) (hn : n ≤ 32) : ∃ q, ∀ {ρ : Type} (k : Int → Option ρ), P.R07_right x m false k = k q := by
 subst hm
 refine ⟨bits .or .u64 (x.fdiv ((2 : Int) ^ min ((n : Int)).toNat 64)) (bits .and .u64 (IntKind.u64.wrap (x * (2 : Int) ^ min ((32 : Int) - (n : Int)).toNat 64)) 4294967295), fun k => ?_⟩
 rw [P.R07_right_eq]
 unfold P.R07_right_raw
 rw [br_ff, br_neg (by omega), i64w (by omega) (by omega), br_neg (by omega)]
theorem mix_any (x a b c : Int) (l m n : Nat) (ha : a = (l : Int)) (hb : b = (m : Int)) (hc : c = (n : Int)) (h1 : l ≤ 32) (h2 : m ≤ 32) (h3 : n ≤ 32) : ∃ q, ∀ {ρ : Type} (k : Int → Option ρ), P.R07_mix x a b c false false k = k q := by
 obtain ⟨q1, e1⟩ := right_any x a l ha h1
 obtain ⟨q2, e2⟩ := right_any x b m hb h2
 obtain ⟨q3, e3⟩ := right_any x c n hc h3
 refine ⟨bits .xor .u64 (bits .xor .u64 q1 q2) q3, fun k => ?_⟩
 rw [P.R07_mix_eq]
 unfold P.R07_mix_raw
 rw [br_neg (by omega), br_not, br_ff, e3, e1, e2]
theorem mix_any' (x a b c : Int) (l m n : Nat) (ha : a = (l : Int)) (hb : b = (m : Int)) (hc : c = (n : Int)) (h1 : l ≤ 32) (h2 : m ≤ 32) (h3 : n ≤ 32) : ∃ q, ∀ {ρ : Type} (k : Int → Option ρ), P.R07_mix x a b c true false k = k q := by
 obtain ⟨q1, e1⟩ := right_any x a l ha h1
 obtain ⟨q2, e2⟩ := right_any x b m hb h2
 refine ⟨bits .xor .u64 (bits .xor .u64 q1 q2) (x.fdiv ((2 : Int) ^ min c.toNat 64)), fun k => ?_⟩
 rw [P.R07_mix_eq]
 unfold P.R07_mix_raw
 rw [br_neg (by omega), br_not, br_tt, e1, e2]
theorem r32_right (x : BitVec 32) (m : Int) (n : Nat) (hm : m = (n : Int)) (hn : n ≤ 32) {ρ : Type} (k : Int → Option ρ) : P.R07_right (x.toNat : Int) m false k = k ((rr x n).toNat : Int) := by
 subst hm
 rw [P.R07_right_eq]
 unfold P.R07_right_raw
 rw [br_ff, br_neg (by omega), i64w (by omega) (by omega), br_neg (by omega), show (32 : Int) - (n : Int) = ((32 - n : Nat) : Int) by omega]
 simp only [toNat_cast]
 rw [nshr _ _ (by omega), nshl _ _ (by omega), nor]
 rfl
theorem r32_hi (x : BitVec 32) (t : Nat × Nat × Nat) (a b c : Int) (ha : a = (t.1 : Int)) (hb : b = (t.2.1 : Int)) (hc : c = (t.2.2 : Int)) (h1 : t.1 ≤ 32) (h2 : t.2.1 ≤ 32) (h3 : t.2.2 ≤ 32) {ρ : Type} (k : Int → Option ρ) :
    P.R07_mix (x.toNat : Int) a b c false false k = k ((hi t x).toNat : Int) := by
 rw [P.R07_mix_eq]
 unfold P.R07_mix_raw
 rw [br_neg (by omega), br_not, br_ff, r32_right _ _ _ hc h3, r32_right _ _ _ ha h1, r32_right _ _ _ hb h2, nxor, nxor]
 rfl
theorem r32_lo (x : BitVec 32) (t : Nat × Nat × Nat) (a b c : Int) (ha : a = (t.1 : Int)) (hb : b = (t.2.1 : Int)) (hc : c = (t.2.2 : Int)) (h1 : t.1 ≤ 32) (h2 : t.2.1 ≤ 32) (h3 : t.2.2 ≤ 32) {ρ : Type} (k : Int → Option ρ) :
    P.R07_mix (x.toNat : Int) a b c true false k = k ((lo t x).toNat : Int) := by
 rw [P.R07_mix_eq]
 unfold P.R07_mix_raw
 rw [br_neg (by omega), br_not, br_tt, r32_right _ _ _ ha h1, r32_right _ _ _ hb h2, nxor, hc]
 simp only [toNat_cast]
 rw [nshr _ _ (by omega), nxor]
 rfl
theorem s4_32 (a b c d : BitVec 32) : bits .and .u64 (IntKind.u64.wrap (IntKind.u64.wrap (IntKind.u64.wrap ((a.toNat : Int) + (b.toNat : Int)) + (c.toNat : Int)) + (d.toNat : Int))) 4294967295 = ((a + b + c + d).toNat : Int) := by
 have ha := lt32 a
 have hb := lt32 b
 have hc := lt32 c
 have hd := lt32 d
 rw [← Int.natCast_add, u64n _ (by omega), ← Int.natCast_add, u64n _ (by omega), ← Int.natCast_add, u64n _ (by omega), nmask _ (by omega), BitVec.toNat_add, BitVec.toNat_add, BitVec.toNat_add]
 omega
theorem s2_32 (a b : BitVec 32) : bits .and .u64 (IntKind.u64.wrap ((a.toNat : Int) + (b.toNat : Int))) 4294967295 = ((a + b).toNat : Int) := by
 have ha := lt32 a
 have hb := lt32 b
 rw [← Int.natCast_add, u64n _ (by omega), nmask _ (by omega), BitVec.toNat_add]
theorem s6_32 (d a b c e f : BitVec 32) : bits .and .u64 (IntKind.u64.wrap ((d.toNat : Int) + IntKind.u64.wrap (IntKind.u64.wrap (IntKind.u64.wrap (IntKind.u64.wrap ((a.toNat : Int) + (b.toNat : Int)) + (c.toNat : Int)) + (e.toNat : Int)) + (f.toNat : Int)))) 4294967295 = ((d + (a + b + c + e + f)).toNat : Int) := by
 have hd := lt32 d
 have ha := lt32 a
 have hb := lt32 b
 have hc := lt32 c
 have he := lt32 e
 have hf := lt32 f
 rw [← Int.natCast_add, u64n _ (by omega), ← Int.natCast_add, u64n _ (by omega), ← Int.natCast_add, u64n _ (by omega), ← Int.natCast_add, u64n _ (by omega), ← Int.natCast_add, u64n _ (by omega), nmask _ (by omega), BitVec.toNat_add, BitVec.toNat_add, BitVec.toNat_add, BitVec.toNat_add, BitVec.toNat_add]
 omega
theorem s7_32 (a b c e f g h : BitVec 32) : bits .and .u64 (IntKind.u64.wrap (IntKind.u64.wrap (IntKind.u64.wrap (IntKind.u64.wrap (IntKind.u64.wrap ((a.toNat : Int) + (b.toNat : Int)) + (c.toNat : Int)) + (e.toNat : Int)) + (f.toNat : Int)) + IntKind.u64.wrap ((g.toNat : Int) + (h.toNat : Int)))) 4294967295 = (((a + b + c + e + f) + (g + h)).toNat : Int) := by
 have ha := lt32 a
 have hb := lt32 b
 have hc := lt32 c
 have he := lt32 e
 have hf := lt32 f
 have hg := lt32 g
 have hh := lt32 h
 rw [← Int.natCast_add, u64n _ (by omega), ← Int.natCast_add, u64n _ (by omega), ← Int.natCast_add, u64n _ (by omega), ← Int.natCast_add, u64n _ (by omega), ← Int.natCast_add (g.toNat), u64n _ (by omega), ← Int.natCast_add, u64n _ (by omega), nmask _ (by omega), BitVec.toNat_add, BitVec.toNat_add, BitVec.toNat_add, BitVec.toNat_add, BitVec.toNat_add, BitVec.toNat_add]
 omega
theorem ch_32 (e f g : BitVec 32) : bits .xor .u64 (bits .and .u64 (e.toNat : Int) (f.toNat : Int)) (bits .and .u64 (bits .xor .u64 4294967295 (e.toNat : Int)) (g.toNat : Int)) = ((g ^^^ (e &&& (f ^^^ g))).toNat : Int) := by
 rw [show (4294967295 : Int) = ((BitVec.allOnes 32).toNat : Int) from rfl, nand, nxor, nand, nxor, ch_eq]
theorem maj_32 (a b c : BitVec 32) : bits .xor .u64 (bits .xor .u64 (bits .and .u64 (a.toNat : Int) (b.toNat : Int)) (bits .and .u64 (a.toNat : Int) (c.toNat : Int))) (bits .and .u64 (b.toNat : Int) (c.toNat : Int)) = (((a &&& b) ||| (c &&& (a ||| b))).toNat : Int) := by
 rw [nand, nand, nand, nxor, nxor, maj_eq]
def pre32 (b : List Int) (t : Nat) : List (BitVec 32) := (List.range t).map (W p32 (wordsB 32 b 16))
theorem pre32_succ (b : List Int) (t : Nat) : pre32 b (t + 1) = pre32 b t ++ [W p32 (wordsB 32 b 16) t] := by simp [pre32, List.range_succ]
theorem pre32_len (b : List Int) (t : Nat) : (pre32 b t).length = t := by simp [pre32]
theorem pre32_at (b : List Int) (t i : Nat) (h : i < t) : (pre32 b t).getD i 0 = W p32 (wordsB 32 b 16) i := by
 unfold pre32
 rw [getD_lt (by simpa using h)]; simp
theorem W32_low (b : List Int) (t : Nat) (h : t < 16) : W p32 (wordsB 32 b 16) t = BitVec.ofNat 32 (T 8 ((b.take ((t + 1) * 4)).drop (t * 4)).reverse) := by
 rw [← W_eq p32 _ (by rw [wordsB_len]; omega) 0 t (by rw [wordsB_len]; omega), show sched p32 (wordsB 32 b 16) 0 = wordsB 32 b 16 from rfl, getD_lt (by rw [wordsB_len]; exact h)]
 simp [wordsB]
theorem r32_words (b : List Int) (hb : In 256 b) (hl : b.length = 16 * 4) {ρ : Type} (k : List Int → Option ρ) : P.R07_words b false 64 4294967295 k = k (cv (pre32 b 64)) := by
 rw [P.R07_words_eq]
 unfold P.R07_words_raw
 rw [br_ff, P.R07_words_l6_eq]
 unfold P.R07_words_L6
 refine lp_go (fun t => (b, false, 64, 4294967295, 4, (t : Int), cv (pre32 b t))) 64 rfl (fun t ht next hn' => ?_) (fun next => ?_) (by omega)
 ·simp only [P.R07_words_r6, toNat_cast]
  have e1 : IntKind.i64.wrap ((t : Int) + 1) = ((t + 1 : Nat) : Int) := by rw [i64w (by omega) (by omega)]; omega
  rw [br_pos (by omega)]
  have hlen := pre32_len b t
  by_cases h16 : t < 16
  ·have e2 : IntKind.i64.wrap ((t : Int) * 4) = ((t * 4 : Nat) : Int) := by rw [i64w (by omega) (by omega)]; omega
   have e3 : IntKind.i64.wrap (IntKind.i64.wrap ((t : Int) * 4) + 4) = (((t + 1) * 4 : Nat) : Int) := by rw [e2, i64w (by omega) (by omega)]; omega
   have hl2 : ((b.take ((t + 1) * 4)).drop (t * 4)).length = 4 := by simp; omega
   rw [br_pos (by omega), e3, e2, br_pos (by omega), br_pos (by omega), br_pos (by omega)]
   simp only [toNat_cast]
   have hT := T_lt 8 ((b.take ((t + 1) * 4)).drop (t * 4)).reverse
   rw [List.length_reverse, hl2] at hT
   have e4 : ((T 8 ((b.take ((t + 1) * 4)).drop (t * 4)).reverse % 2 ^ 64 : Nat) : Int) = ((W p32 (wordsB 32 b 16) t).toNat : Int) := by
    rw [W32_low b t h16, BitVec.toNat_ofNat, Nat.mod_eq_of_lt (by omega), Nat.mod_eq_of_lt (by omega)]
   rw [R01_Num _ ((hb.take _).drop _) (by omega), br_pos (by rw [cv_length]; omega), e4, e1, show [((W p32 (wordsB 32 b 16) t).toNat : Int)] = cv [W p32 (wordsB 32 b 16) t] from rfl, cv_append, ← pre32_succ]
   exact hn'
  ·have e15 : IntKind.i64.wrap ((t : Int) - 15) = ((t - 15 : Nat) : Int) := by rw [i64w (by omega) (by omega)]; omega
   have e2 : IntKind.i64.wrap ((t : Int) - 2) = ((t - 2 : Nat) : Int) := by rw [i64w (by omega) (by omega)]; omega
   have e7 : IntKind.i64.wrap ((t : Int) - 7) = ((t - 7 : Nat) : Int) := by rw [i64w (by omega) (by omega)]; omega
   have e16 : IntKind.i64.wrap ((t : Int) - 16) = ((t - 16 : Nat) : Int) := by rw [i64w (by omega) (by omega)]; omega
   simp only [e15, e2, e7, e16, toNat_cast, cv_getD, cv_length, hlen]
   rw [pre32_at b t _ (by omega), pre32_at b t _ (by omega), pre32_at b t _ (by omega), pre32_at b t _ (by omega)]
   rw [br_neg (by omega), br_pos (by omega), br_pos (by omega), r32_lo _ p32.a _ _ _ (by rfl) (by rfl) (by rfl) (by decide) (by decide) (by decide), br_pos (by omega), br_pos (by omega), r32_lo _ p32.b _ _ _ (by rfl) (by rfl) (by rfl) (by decide) (by decide) (by decide), br_ff]
   have hW := W_next p32 (wordsB 32 b 16) (wordsB_len b 16) (t - 16)
   rw [show t - 16 + 16 = t by omega, show t - 16 + 1 = t - 15 by omega, show t - 16 + 9 = t - 7 by omega, show t - 16 + 14 = t - 2 by omega] at hW
   have hW2 : lo p32.b (W p32 (wordsB 32 b 16) (t - 2)) + W p32 (wordsB 32 b 16) (t - 7) + lo p32.a (W p32 (wordsB 32 b 16) (t - 15)) + W p32 (wordsB 32 b 16) (t - 16) = W p32 (wordsB 32 b 16) t := by rw [hW]; ac_rfl
   rw [br_pos (by omega), br_pos (by omega), br_pos (by omega), br_pos (by omega), br_pos (by omega), s4_32, hW2, e1, show [((W p32 (wordsB 32 b 16) t).toNat : Int)] = cv [W p32 (wordsB 32 b 16) t] from rfl, cv_append, ← pre32_succ]
   exact hn'
 ·simp only [P.R07_words_r6]
  rw [br_neg (by omega)]
theorem r32_l11 (b : List Int) (v : List (BitVec 32)) (hv : v.length = 8) (h0 h1 : List Int) {ρ : Type} (k0 : Bool → Int → Int → Int → List Int → List Int → List Int → List Int → List Int → List Int → Option ρ) :
    P.R07_block_l11 false 64 4294967295 0 h0 h1 P.roots256 P.roots512 (cv (pre32 b 64)) (cv v) k0 = k0 false 64 4294967295 64 h0 h1 P.roots256 P.roots512 (cv (pre32 b 64)) (cv (runs p32 (wordsB 32 b 16) v 64)) := by
 rw [P.R07_block_l11_eq]
 unfold P.R07_block_L11
 refine lp_go (fun t => (false, 64, 4294967295, (t : Int), h0, h1, P.roots256, P.roots512, cv (pre32 b 64), cv (runs p32 (wordsB 32 b 16) v t))) 64 rfl (fun t ht next hn' => ?_) (fun next => ?_) (by omega)
 ·simp only [P.R07_block_r11]
  have e1 : IntKind.i64.wrap ((t : Int) + 1) = ((t + 1 : Nat) : Int) := by rw [i64w (by omega) (by omega)]; omega
  have hlen := pre32_len b 64
  simp only [e1, toNat_cast, cv_getD, cv_length, hlen]
  rw [pre32_at b 64 t ht, K32]
  rw [br_pos (by omega), r32_hi _ p32.c _ _ _ (by rfl) (by rfl) (by rfl) (by decide) (by decide) (by decide), r32_hi _ p32.d _ _ _ (by rfl) (by rfl) (by rfl) (by decide) (by decide) (by decide), br_ff]
  rw [br_pos (by omega), br_pos (by omega), br_pos (by omega), br_pos (by omega), ch_32, maj_32, s7_32, s6_32]
  exact hn'
 ·simp only [P.R07_block_r11]
  rw [br_neg (by omega)]
  rfl
theorem r32_l25 (v u : List (BitVec 32)) (hv : v.length = 8) (hu : u.length = 8) (h1 : List Int) {ρ : Type} (k0 : Int → Int → List Int → List Int → List Int → Option ρ) :
    P.R07_block_l25 4294967295 0 (cv v) h1 (cv u) k0 = k0 4294967295 8 (cv v) h1 (cv ((List.range 8).map fun i => u.getD i 0 + v.getD i 0)) := by
 rw [P.R07_block_l25_eq]
 unfold P.R07_block_L25
 refine lp_go (fun i => (4294967295, (i : Int), cv v, h1, cv (((List.range i).map fun i => u.getD i 0 + v.getD i 0) ++ u.drop i))) 8 (by simp) (fun i hi next hn' => ?_) (fun next => ?_) (by omega)
 ·simp only [P.R07_block_r25, toNat_cast, cv_getD]
  have e1 : IntKind.i64.wrap ((i : Int) + 1) = ((i + 1 : Nat) : Int) := by rw [i64w (by omega) (by omega)]; omega
  have e2 : (((List.range i).map fun i => u.getD i 0 + v.getD i 0) ++ u.drop i).getD i 0 = u.getD i 0 := by
   rw [List.getD_eq_getElem?_getD, List.getElem?_append_right (by simp), List.getElem?_drop, List.length_map, List.length_range, List.getD_eq_getElem?_getD]
   congr 2
   omega
  rw [e1, e2, s2_32, cv_set]
  have e3 : (((List.range i).map fun i => u.getD i 0 + v.getD i 0) ++ u.drop i).set i (u.getD i 0 + v.getD i 0) = ((List.range (i + 1)).map fun i => u.getD i 0 + v.getD i 0) ++ u.drop (i + 1) := by
   rw [List.set_append_right _ _ (by simp), List.length_map, List.length_range, Nat.sub_self, List.range_succ, List.map_append, List.append_assoc, List.drop_eq_getElem_cons (by omega), List.set_cons_zero]
   rfl
  rw [e3]
  simp (disch := omega) only [br_pos, br_neg, br_bne_pos, br_bne_neg, br_beq_pos, br_beq_neg, br_not, br_tt, br_ff, i64w]
  exact hn'
 ·simp only [P.R07_block_r25]
  rw [br_neg (by omega), List.drop_eq_nil_of_le (by omega), List.append_nil]
  rfl
theorem r32_block (v : List (BitVec 32)) (hv : v.length = 8) (b : List Int) (hb : In 256 b) (hl : b.length = 16 * 4) {ρ : Type} (k : List Int → Option ρ) : P.R07_block (cv v) b false k = k (cv (blockB p32 v b)) := by
 rw [P.R07_block_eq]
 unfold P.R07_block_raw
 have hr1 : ∀ (k : List Int → Option ρ), P.R07_roots256 k = k P.roots256 := fun k => by rw [P.R07_roots256_eq]; kernel_rfl
 have hr2 : ∀ (k : List Int → Option ρ), P.R07_roots512 k = k P.roots512 := fun k => by rw [P.R07_roots512_eq]; kernel_rfl
 rw [hr1, hr2, br_ff, r32_words b hb hl, r32_l11 b v hv, r32_l25 v _ hv (runs_len _ _ _ hv _)]
 rfl
end Q
end

section
/- SHA-2: the program's engine of 64 bits. -/
namespace Q
open Go Go.Abs
set_option linter.unusedVariables false
set_option linter.unusedSimpArgs false
theorem e64_rot (rd : Int) (t0 t1 t2 t3 : List Int) (x : BitVec 64) (m : Int) (n : Nat) (hm : m = (n : Int)) (hn : n ≤ 64) {ρ : Type} (k : Int → Option ρ) :
    P.sha_engine_uint64_rotated 64 rd t0 t1 t2 t3 (x.toNat : Int) m k = k ((rr x n).toNat : Int) := by
 subst hm
 rw [P.sha_engine_uint64_rotated_eq]
 unfold P.sha_engine_uint64_rotated_raw
 rw [br_neg (by omega), i64w (by omega) (by omega), br_neg (by omega), show (64 : Int) - (n : Int) = ((64 - n : Nat) : Int) by omega]
 simp only [toNat_cast]
 rw [shr64 _ _ hn, shl64 _ _ (by omega), or64]
 rfl
theorem e64_high3 (rd : Int) (x : BitVec 64) {ρ : Type} (k : Int → Option ρ) : P.sha_engine_uint64_high 64 rd [1, 8, 7] [19, 61, 6] [28, 34, 39] [14, 18, 41] (x.toNat : Int) 3 k = k ((hi p64.d x).toNat : Int) := by
 rw [P.sha_engine_uint64_high_eq]
 unfold P.sha_engine_uint64_high_raw
 simp only [List.getD_cons_zero, List.getD_cons_succ]
 rw [br_neg (by decide), br_neg (by decide), br_neg (by decide), br_pos (by decide), e64_rot _ _ _ _ _ _ _ 14 (by rfl) (by omega), e64_rot _ _ _ _ _ _ _ 18 (by rfl) (by omega), e64_rot _ _ _ _ _ _ _ 41 (by rfl) (by omega), xor64, xor64]
 rfl
theorem e64_high2 (rd : Int) (x : BitVec 64) {ρ : Type} (k : Int → Option ρ) : P.sha_engine_uint64_high 64 rd [1, 8, 7] [19, 61, 6] [28, 34, 39] [14, 18, 41] (x.toNat : Int) 2 k = k ((hi p64.c x).toNat : Int) := by
 rw [P.sha_engine_uint64_high_eq]
 unfold P.sha_engine_uint64_high_raw
 simp only [List.getD_cons_zero, List.getD_cons_succ]
 rw [br_neg (by decide), br_neg (by decide), br_pos (by decide), e64_rot _ _ _ _ _ _ _ 28 (by rfl) (by omega), e64_rot _ _ _ _ _ _ _ 34 (by rfl) (by omega), e64_rot _ _ _ _ _ _ _ 39 (by rfl) (by omega), xor64, xor64]
 rfl
theorem e64_low0 (rd : Int) (x : BitVec 64) {ρ : Type} (k : Int → Option ρ) : P.sha_engine_uint64_low 64 rd [1, 8, 7] [19, 61, 6] [28, 34, 39] [14, 18, 41] (x.toNat : Int) 0 k = k ((lo p64.a x).toNat : Int) := by
 rw [P.sha_engine_uint64_low_eq]
 unfold P.sha_engine_uint64_low_raw
 simp only [List.getD_cons_zero, List.getD_cons_succ]
 rw [br_pos (by decide), e64_rot _ _ _ _ _ _ _ 1 (by rfl) (by omega), e64_rot _ _ _ _ _ _ _ 8 (by rfl) (by omega), br_neg (by decide), xor64, show (7 : Int).toNat = 7 from rfl, shr64 _ _ (by omega), xor64]
 rfl
theorem e64_low1 (rd : Int) (x : BitVec 64) {ρ : Type} (k : Int → Option ρ) : P.sha_engine_uint64_low 64 rd [1, 8, 7] [19, 61, 6] [28, 34, 39] [14, 18, 41] (x.toNat : Int) 1 k = k ((lo p64.b x).toNat : Int) := by
 rw [P.sha_engine_uint64_low_eq]
 unfold P.sha_engine_uint64_low_raw
 simp only [List.getD_cons_zero, List.getD_cons_succ]
 rw [br_neg (by decide), br_pos (by decide), e64_rot _ _ _ _ _ _ _ 19 (by rfl) (by omega), e64_rot _ _ _ _ _ _ _ 61 (by rfl) (by omega), br_neg (by decide), xor64, show (6 : Int).toNat = 6 from rfl, shr64 _ _ (by omega), xor64]
 rfl
theorem e64_root (t : Nat) (h : t < 80) {ρ : Type} (k : Int → Option ρ) : P.sha_root512 (t : Int) k = k ((p64.K t).toNat : Int) := by
 rw [P.sha_root512_eq]
 unfold P.sha_root512_raw
 rw [br_pos (by omega), br_pos (by omega), toNat_cast, K64]
theorem e64_l4 (b : List Int) (hb : In 256 b) (hl : b.length = 16 * 8) (rd : Int) (t0 t1 t2 t3 h1 h2 : List Int) {ρ : Type} (k0 : List Int → Int → Int → Int → Int → List Int → List Int → List Int → List Int → List Int → List Int → List Int → Option ρ) :
    P.sha_engine_uint64_block_l4 b 8 0 64 rd t0 t1 t2 t3 h1 h2 (List.replicate 16 0) k0 = k0 b 8 16 64 rd t0 t1 t2 t3 h1 h2 (cv (wordsB 64 b 16)) := by
 rw [P.sha_engine_uint64_block_l4_eq]
 unfold P.sha_engine_uint64_block_L4
 refine lp_go (fun i => (b, 8, (i : Int), 64, rd, t0, t1, t2, t3, h1, h2, cv (wordsB 64 b i) ++ List.replicate (16 - i) 0)) 16 (by simp [wordsB, cv]) (fun i hi next hn' => ?_) (fun next => ?_) (by omega)
 ·simp only [P.sha_engine_uint64_block_r4, toNat_cast]
  have e1 : IntKind.i64.wrap ((i : Int) * 8) = ((i * 8 : Nat) : Int) := by rw [i64w (by omega) (by omega)]; omega
  have e2 : IntKind.i64.wrap (IntKind.i64.wrap ((i : Int) + 1) * 8) = (((i + 1) * 8 : Nat) : Int) := by rw [i64w (x := (i : Int) + 1) (by omega) (by omega), i64w (by omega) (by omega)]; omega
  rw [e1, e2]
  simp only [toNat_cast]
  have hlen : ((b.take ((i + 1) * 8)).drop (i * 8)).length = 8 := by simp; omega
  rw [br_pos (by omega), br_pos (by omega), br_pos (by omega), br_pos (by omega), bits_Num _ ((hb.take _).drop _) (by omega), br_pos (by omega), br_pos (by omega)]
  have e3 : ((T 8 ((b.take ((i + 1) * 8)).drop (i * 8)).reverse % 2 ^ 64 : Nat) : Int) = (((BitVec.ofNat 64 (T 8 ((b.take ((i + 1) * 8)).drop (i * 8)).reverse)).toNat : Nat) : Int) := by
   rw [BitVec.toNat_ofNat]
  have e4 : IntKind.i64.wrap ((i : Int) + 1) = ((i + 1 : Nat) : Int) := by rw [i64w (by omega) (by omega)]; omega
  rw [e3, e4]
  have e5 : (cv (wordsB 64 b i) ++ List.replicate (16 - i) (0 : Int)).set i (((BitVec.ofNat 64 (T 8 ((b.take ((i + 1) * 8)).drop (i * 8)).reverse)).toNat : Nat) : Int) = cv (wordsB 64 b (i + 1)) ++ List.replicate (16 - (i + 1)) 0 := by
   rw [List.set_append_right _ _ (by simp [wordsB_len]), cv_length, wordsB_len, Nat.sub_self, show 16 - i = (16 - (i + 1)) + 1 by omega, List.replicate_succ, List.set_cons_zero, wordsB_succ, ← cv_append, List.append_assoc]
   rfl
  rw [e5]
  exact hn'
 ·simp only [P.sha_engine_uint64_block_r4]
  rw [br_neg (by omega)]
  simp
theorem e64_l10 (l v : List (BitVec 64)) (hv : v.length = 8) (h2 h1 : List Int) {ρ : Type} (k0 : Int → Int → List Int → List Int → List Int → Int → Int → List Int → List Int → List Int → List Int → List Int → Option ρ) (hl : l.length = 16) :
    P.sha_engine_uint64_block_l10 80 0 (cv (win p64 l 0)) h2 h1 64 80 [1, 8, 7] [19, 61, 6] [28, 34, 39] [14, 18, 41] (cv v) k0 =
     k0 80 80 (cv (win p64 l 80)) h2 h1 64 80 [1, 8, 7] [19, 61, 6] [28, 34, 39] [14, 18, 41] (cv (runs p64 l v 80)) := by
 rw [P.sha_engine_uint64_block_l10_eq]
 unfold P.sha_engine_uint64_block_L10
 refine lp_go (fun t => (80, (t : Int), cv (win p64 l t), h2, h1, 64, 80, [1, 8, 7], [19, 61, 6], [28, 34, 39], [14, 18, 41], cv (runs p64 l v t))) 80 rfl (fun t ht next hn' => ?_) (fun next => ?_) (by omega)
 ·simp only [P.sha_engine_uint64_block_r10]
  have e1 : IntKind.i64.wrap ((t : Int) + 1) = ((t + 1 : Nat) : Int) := by rw [i64w (by omega) (by omega)]; omega
  have e9 : IntKind.i64.wrap ((t : Int) + 9) = ((t + 9 : Nat) : Int) := by rw [i64w (by omega) (by omega)]; omega
  have e14 : IntKind.i64.wrap ((t : Int) + 14) = ((t + 14 : Nat) : Int) := by rw [i64w (by omega) (by omega)]; omega
  simp only [e1, e9, e14, tm16, toNat_cast, cv_getD]
  have g0 := win_at p64 l t 0 (by omega)
  rw [Nat.add_zero] at g0
  rw [g0, win_at p64 l t 1 (by omega), win_at p64 l t 9 (by omega), win_at p64 l t 14 (by omega)]
  have hV := v8 _ (runs_len p64 l v hv t)
  rw [br_pos (by omega), br_pos (by omega), br_pos (by omega), e64_high3, e64_root t ht, e64_high2, br_pos (by omega), br_pos (by omega), e64_low0, br_pos (by omega), br_pos (by omega), br_pos (by omega), br_pos (by omega), e64_low1, br_pos (by omega), br_pos (by omega)]
  simp only [add64, xor64, and64, or64]
  rw [← W_next p64 l hl t, cv_set, win_next]
  have hr : cv (runs p64 l v (t + 1)) = (((List.take 1 (cv (runs p64 l v t))).append (List.take 7 (List.take 7 (List.drop 0 (cv (runs p64 l v t)))) ++ List.drop (1 + min 7 (List.take 7 (List.drop 0 (cv (runs p64 l v t)))).length) (cv (runs p64 l v t)))).set 4
      (((runs p64 l v t).getD 3 0 + rnd1 p64 t (W p64 l t) (runs p64 l v t)).toNat : Int)).set 0 ((rnd1 p64 t (W p64 l t) (runs p64 l v t) + rnd2 p64 (runs p64 l v t)).toNat : Int) := by
   rw [hV]
   rfl
  have h3 : ((List.take 1 (cv (runs p64 l v t))).append (List.take 7 (List.take 7 (List.drop 0 (cv (runs p64 l v t)))) ++ List.drop (1 + min 7 (List.take 7 (List.drop 0 (cv (runs p64 l v t)))).length) (cv (runs p64 l v t)))).getD 4 0 = (((runs p64 l v t).getD 3 0).toNat : Int) := by
   rw [hV]
   rfl
  rw [h3, add64]
  rw [hr] at hn'
  exact hn'
 ·simp only [P.sha_engine_uint64_block_r10]
  rw [br_neg (by omega)]
  rfl
theorem e64_l21 (v u : List (BitVec 64)) (hv : v.length = 8) (hu : u.length = 8) (h2 : List Int) {ρ : Type} (k0 : Int → List Int → List Int → List Int → Option ρ) :
    P.sha_engine_uint64_block_l21 0 (cv v) h2 (cv u) k0 = k0 8 (cv v) h2 (cv ((List.range 8).map fun i => u.getD i 0 + v.getD i 0)) := by
 rw [P.sha_engine_uint64_block_l21_eq]
 unfold P.sha_engine_uint64_block_L21
 have hs : ∀ i, i ≤ 8 → (((List.range i).map fun i => u.getD i 0 + v.getD i 0) ++ u.drop i).length = 8 := fun i hi => by simp; omega
 refine lp_go (fun i => ((i : Int), cv v, h2, cv (((List.range i).map fun i => u.getD i 0 + v.getD i 0) ++ u.drop i))) 8 (by simp) (fun i hi next hn' => ?_) (fun next => ?_) (by omega)
 ·simp only [P.sha_engine_uint64_block_r21, toNat_cast, cv_getD]
  have e1 : IntKind.i64.wrap ((i : Int) + 1) = ((i + 1 : Nat) : Int) := by rw [i64w (by omega) (by omega)]; omega
  have e2 : (((List.range i).map fun i => u.getD i 0 + v.getD i 0) ++ u.drop i).getD i 0 = u.getD i 0 := by
   rw [List.getD_eq_getElem?_getD, List.getElem?_append_right (by simp), List.getElem?_drop, List.length_map, List.length_range, List.getD_eq_getElem?_getD]
   congr 2
   omega
  rw [e1, e2, add64, cv_set]
  have e3 : (((List.range i).map fun i => u.getD i 0 + v.getD i 0) ++ u.drop i).set i (u.getD i 0 + v.getD i 0) = ((List.range (i + 1)).map fun i => u.getD i 0 + v.getD i 0) ++ u.drop (i + 1) := by
   rw [List.set_append_right _ _ (by simp), List.length_map, List.length_range, Nat.sub_self, List.range_succ, List.map_append, List.append_assoc, List.drop_eq_getElem_cons (by omega), List.set_cons_zero]
   rfl
  rw [e3]
  simp (disch := omega) only [br_pos, br_neg, br_bne_pos, br_bne_neg, br_beq_pos, br_beq_neg, br_not, br_tt, br_ff, i64w]
  exact hn'
 ·simp only [P.sha_engine_uint64_block_r21]
  rw [br_neg (by omega), List.drop_eq_nil_of_le (by omega), List.append_nil]
  rfl
theorem e64_block (v : List (BitVec 64)) (hv : v.length = 8) (b : List Int) (hb : In 256 b) (hl : b.length = 16 * 8) {ρ : Type} (k : List Int → Option ρ) :
    P.sha_engine_uint64_block 64 80 [1, 8, 7] [19, 61, 6] [28, 34, 39] [14, 18, 41] (cv v) b k = k (cv (blockB p64 v b)) := by
 rw [P.sha_engine_uint64_block_eq]
 unfold P.sha_engine_uint64_block_raw
 rw [show IntKind.i64.wrap ((64 : Int).tdiv 8) = 8 from rfl]
 have := e64_l4 b hb hl 80 [1, 8, 7] [19, 61, 6] [28, 34, 39] [14, 18, 41] (cv v) (List.replicate 8 0) (fun (q0 : List Int) (q1 q2 q3 q4 : Int) (q5 q6 q7 q8 q9 q10 q11 : List Int) =>
  P.sha_engine_uint64_block_l10 q4 (0 : Int) q11 q10 q9 q3 q4 q5 q6 q7 q8 q9
   fun (q12 q13 : Int) (q14 q15 q16 : List Int) (q17 q18 : Int) (q19 q20 q21 q22 q23 : List Int) =>
   P.sha_engine_uint64_block_l21 (0 : Int) q16 q15 q23 fun (q24 : Int) (q25 q26 q27 : List Int) => k q27)
 refine this.trans ?_
 rw [← win_zero p64, e64_l10 _ v hv _ _ _ (wordsB_len b 16), e64_l21 v _ hv (runs_len _ _ _ hv _)]
 rfl
end Q
end

section
/- SHA-2: the document's block of words of 64 bits. -/
namespace Q
open Go Go.Abs
set_option linter.unusedVariables false
set_option linter.unusedSimpArgs false
theorem r64_right (x : BitVec 64) (m : Int) (n : Nat) (hm : m = (n : Int)) (hn : n ≤ 64) {ρ : Type} (k : Int → Option ρ) : P.R07_right (x.toNat : Int) m true k = k ((rr x n).toNat : Int) := by
 subst hm
 rw [P.R07_right_eq]
 unfold P.R07_right_raw
 rw [br_tt, br_neg (by omega), i64w (by omega) (by omega), br_neg (by omega), show (64 : Int) - (n : Int) = ((64 - n : Nat) : Int) by omega]
 simp only [toNat_cast]
 rw [shr64 _ _ hn, shl64 _ _ (by omega), or64]
 rfl
theorem r64_hi (x : BitVec 64) (t : Nat × Nat × Nat) (a b c : Int) (ha : a = (t.1 : Int)) (hb : b = (t.2.1 : Int)) (hc : c = (t.2.2 : Int)) (h1 : t.1 ≤ 64) (h2 : t.2.1 ≤ 64) (h3 : t.2.2 ≤ 64) {ρ : Type} (k : Int → Option ρ) :
    P.R07_mix (x.toNat : Int) a b c false true k = k ((hi t x).toNat : Int) := by
 rw [P.R07_mix_eq]
 unfold P.R07_mix_raw
 rw [br_neg (by omega), br_not, br_ff, r64_right _ _ _ hc h3, r64_right _ _ _ ha h1, r64_right _ _ _ hb h2, xor64, xor64]
 rfl
theorem r64_lo (x : BitVec 64) (t : Nat × Nat × Nat) (a b c : Int) (ha : a = (t.1 : Int)) (hb : b = (t.2.1 : Int)) (hc : c = (t.2.2 : Int)) (h1 : t.1 ≤ 64) (h2 : t.2.1 ≤ 64) (h3 : t.2.2 ≤ 64) {ρ : Type} (k : Int → Option ρ) :
    P.R07_mix (x.toNat : Int) a b c true true k = k ((lo t x).toNat : Int) := by
 rw [P.R07_mix_eq]
 unfold P.R07_mix_raw
 rw [br_neg (by omega), br_not, br_tt, r64_right _ _ _ ha h1, r64_right _ _ _ hb h2, xor64, hc]
 simp only [toNat_cast]
 rw [shr64 _ _ h3, xor64]
 rfl
theorem s4_64 (a b c d : BitVec 64) : bits .and .u64 (IntKind.u64.wrap (IntKind.u64.wrap (IntKind.u64.wrap ((a.toNat : Int) + (b.toNat : Int)) + (c.toNat : Int)) + (d.toNat : Int))) 18446744073709551615 = ((a + b + c + d).toNat : Int) := by
 rw [add64, add64, add64, wmask _ (lt64 _)]
theorem s2_64 (a b : BitVec 64) : bits .and .u64 (IntKind.u64.wrap ((a.toNat : Int) + (b.toNat : Int))) 18446744073709551615 = ((a + b).toNat : Int) := by
 rw [add64, wmask _ (lt64 _)]
theorem s6_64 (d a b c e f : BitVec 64) : bits .and .u64 (IntKind.u64.wrap ((d.toNat : Int) + IntKind.u64.wrap (IntKind.u64.wrap (IntKind.u64.wrap (IntKind.u64.wrap ((a.toNat : Int) + (b.toNat : Int)) + (c.toNat : Int)) + (e.toNat : Int)) + (f.toNat : Int)))) 18446744073709551615 = ((d + (a + b + c + e + f)).toNat : Int) := by
 rw [add64, add64, add64, add64, add64, wmask _ (lt64 _)]
theorem s7_64 (a b c e f g h : BitVec 64) : bits .and .u64 (IntKind.u64.wrap (IntKind.u64.wrap (IntKind.u64.wrap (IntKind.u64.wrap (IntKind.u64.wrap ((a.toNat : Int) + (b.toNat : Int)) + (c.toNat : Int)) + (e.toNat : Int)) + (f.toNat : Int)) + IntKind.u64.wrap ((g.toNat : Int) + (h.toNat : Int)))) 18446744073709551615 = (((a + b + c + e + f) + (g + h)).toNat : Int) := by
 rw [add64, add64, add64, add64, add64, add64, wmask _ (lt64 _)]
theorem ch_64 (e f g : BitVec 64) : bits .xor .u64 (bits .and .u64 (e.toNat : Int) (f.toNat : Int)) (bits .and .u64 (bits .xor .u64 18446744073709551615 (e.toNat : Int)) (g.toNat : Int)) = ((g ^^^ (e &&& (f ^^^ g))).toNat : Int) := by
 rw [show (18446744073709551615 : Int) = ((BitVec.allOnes 64).toNat : Int) from rfl, and64, xor64, and64, xor64, ch_eq]
theorem maj_64 (a b c : BitVec 64) : bits .xor .u64 (bits .xor .u64 (bits .and .u64 (a.toNat : Int) (b.toNat : Int)) (bits .and .u64 (a.toNat : Int) (c.toNat : Int))) (bits .and .u64 (b.toNat : Int) (c.toNat : Int)) = (((a &&& b) ||| (c &&& (a ||| b))).toNat : Int) := by
 rw [and64, and64, and64, xor64, xor64, maj_eq]
def pre64 (b : List Int) (t : Nat) : List (BitVec 64) := (List.range t).map (W p64 (wordsB 64 b 16))
theorem pre64_succ (b : List Int) (t : Nat) : pre64 b (t + 1) = pre64 b t ++ [W p64 (wordsB 64 b 16) t] := by simp [pre64, List.range_succ]
theorem pre64_len (b : List Int) (t : Nat) : (pre64 b t).length = t := by simp [pre64]
theorem pre64_at (b : List Int) (t i : Nat) (h : i < t) : (pre64 b t).getD i 0 = W p64 (wordsB 64 b 16) i := by
 unfold pre64
 rw [getD_lt (by simpa using h)]; simp
theorem W64_low (b : List Int) (t : Nat) (h : t < 16) : W p64 (wordsB 64 b 16) t = BitVec.ofNat 64 (T 8 ((b.take ((t + 1) * 8)).drop (t * 8)).reverse) := by
 rw [← W_eq p64 _ (by rw [wordsB_len]; omega) 0 t (by rw [wordsB_len]; omega), show sched p64 (wordsB 64 b 16) 0 = wordsB 64 b 16 from rfl, getD_lt (by rw [wordsB_len]; exact h)]
 simp [wordsB]
theorem r64_words (b : List Int) (hb : In 256 b) (hl : b.length = 16 * 8) {ρ : Type} (k : List Int → Option ρ) : P.R07_words b true 80 18446744073709551615 k = k (cv (pre64 b 80)) := by
 rw [P.R07_words_eq]
 unfold P.R07_words_raw
 rw [br_tt, P.R07_words_l6_eq]
 unfold P.R07_words_L6
 refine lp_go (fun t => (b, true, 80, 18446744073709551615, 8, (t : Int), cv (pre64 b t))) 80 rfl (fun t ht next hn' => ?_) (fun next => ?_) (by omega)
 ·simp only [P.R07_words_r6, toNat_cast]
  have e1 : IntKind.i64.wrap ((t : Int) + 1) = ((t + 1 : Nat) : Int) := by rw [i64w (by omega) (by omega)]; omega
  rw [br_pos (by omega)]
  have hlen := pre64_len b t
  by_cases h16 : t < 16
  ·have e2 : IntKind.i64.wrap ((t : Int) * 8) = ((t * 8 : Nat) : Int) := by rw [i64w (by omega) (by omega)]; omega
   have e3 : IntKind.i64.wrap (IntKind.i64.wrap ((t : Int) * 8) + 8) = (((t + 1) * 8 : Nat) : Int) := by rw [e2, i64w (by omega) (by omega)]; omega
   have hl2 : ((b.take ((t + 1) * 8)).drop (t * 8)).length = 8 := by simp; omega
   rw [br_pos (by omega), e3, e2, br_pos (by omega), br_pos (by omega), br_pos (by omega)]
   simp only [toNat_cast]
   have hT := T_lt 8 ((b.take ((t + 1) * 8)).drop (t * 8)).reverse
   rw [List.length_reverse, hl2] at hT
   have e4 : ((T 8 ((b.take ((t + 1) * 8)).drop (t * 8)).reverse % 2 ^ 64 : Nat) : Int) = ((W p64 (wordsB 64 b 16) t).toNat : Int) := by
    rw [W64_low b t h16, BitVec.toNat_ofNat]
   rw [R01_Num _ ((hb.take _).drop _) (by omega), br_pos (by rw [cv_length]; omega), e4, e1, show [((W p64 (wordsB 64 b 16) t).toNat : Int)] = cv [W p64 (wordsB 64 b 16) t] from rfl, cv_append, ← pre64_succ]
   exact hn'
  ·have e15 : IntKind.i64.wrap ((t : Int) - 15) = ((t - 15 : Nat) : Int) := by rw [i64w (by omega) (by omega)]; omega
   have e2 : IntKind.i64.wrap ((t : Int) - 2) = ((t - 2 : Nat) : Int) := by rw [i64w (by omega) (by omega)]; omega
   have e7 : IntKind.i64.wrap ((t : Int) - 7) = ((t - 7 : Nat) : Int) := by rw [i64w (by omega) (by omega)]; omega
   have e16 : IntKind.i64.wrap ((t : Int) - 16) = ((t - 16 : Nat) : Int) := by rw [i64w (by omega) (by omega)]; omega
   simp only [e15, e2, e7, e16, toNat_cast, cv_getD, cv_length, hlen]
   rw [pre64_at b t _ (by omega), pre64_at b t _ (by omega), pre64_at b t _ (by omega), pre64_at b t _ (by omega)]
   obtain ⟨q1, m1⟩ := mix_any' ((W p64 (wordsB 64 b 16) (t - 15)).toNat : Int) 7 18 3 7 18 3 rfl rfl rfl (by omega) (by omega) (by omega)
   obtain ⟨q2, m2⟩ := mix_any' ((W p64 (wordsB 64 b 16) (t - 2)).toNat : Int) 17 19 10 17 19 10 rfl rfl rfl (by omega) (by omega) (by omega)
   rw [br_neg (by omega), br_pos (by omega), br_pos (by omega), m1, br_pos (by omega), br_pos (by omega), m2, br_tt, br_pos (by omega), br_pos (by omega), r64_lo _ p64.a _ _ _ (by rfl) (by rfl) (by rfl) (by decide) (by decide) (by decide), br_pos (by omega), br_pos (by omega), r64_lo _ p64.b _ _ _ (by rfl) (by rfl) (by rfl) (by decide) (by decide) (by decide)]
   have hW := W_next p64 (wordsB 64 b 16) (wordsB_len b 16) (t - 16)
   rw [show t - 16 + 16 = t by omega, show t - 16 + 1 = t - 15 by omega, show t - 16 + 9 = t - 7 by omega, show t - 16 + 14 = t - 2 by omega] at hW
   have hW2 : lo p64.b (W p64 (wordsB 64 b 16) (t - 2)) + W p64 (wordsB 64 b 16) (t - 7) + lo p64.a (W p64 (wordsB 64 b 16) (t - 15)) + W p64 (wordsB 64 b 16) (t - 16) = W p64 (wordsB 64 b 16) t := by rw [hW]; ac_rfl
   rw [br_pos (by omega), br_pos (by omega), br_pos (by omega), br_pos (by omega), br_pos (by omega), s4_64, hW2, e1, show [((W p64 (wordsB 64 b 16) t).toNat : Int)] = cv [W p64 (wordsB 64 b 16) t] from rfl, cv_append, ← pre64_succ]
   exact hn'
 ·simp only [P.R07_words_r6]
  rw [br_neg (by omega)]
theorem r64_l11 (b : List Int) (v : List (BitVec 64)) (hv : v.length = 8) (h0 h1 : List Int) {ρ : Type} (k0 : Bool → Int → Int → Int → List Int → List Int → List Int → List Int → List Int → List Int → Option ρ) :
    P.R07_block_l11 true 80 18446744073709551615 0 h0 h1 P.roots256 P.roots512 (cv (pre64 b 80)) (cv v) k0 = k0 true 80 18446744073709551615 80 h0 h1 P.roots256 P.roots512 (cv (pre64 b 80)) (cv (runs p64 (wordsB 64 b 16) v 80)) := by
 rw [P.R07_block_l11_eq]
 unfold P.R07_block_L11
 refine lp_go (fun t => (true, 80, 18446744073709551615, (t : Int), h0, h1, P.roots256, P.roots512, cv (pre64 b 80), cv (runs p64 (wordsB 64 b 16) v t))) 80 rfl (fun t ht next hn' => ?_) (fun next => ?_) (by omega)
 ·simp only [P.R07_block_r11]
  have e1 : IntKind.i64.wrap ((t : Int) + 1) = ((t + 1 : Nat) : Int) := by rw [i64w (by omega) (by omega)]; omega
  have hlen := pre64_len b 80
  simp only [e1, toNat_cast, cv_getD, cv_length, hlen]
  rw [pre64_at b 80 t ht, K64]
  obtain ⟨q1, m1⟩ := mix_any (((runs p64 (wordsB 64 b 16) v t).getD 0 0).toNat : Int) 2 13 22 2 13 22 rfl rfl rfl (by omega) (by omega) (by omega)
  obtain ⟨q2, m2⟩ := mix_any (((runs p64 (wordsB 64 b 16) v t).getD 4 0).toNat : Int) 6 11 25 6 11 25 rfl rfl rfl (by omega) (by omega) (by omega)
  rw [br_pos (by omega), m1, m2, br_tt, r64_hi _ p64.c _ _ _ (by rfl) (by rfl) (by rfl) (by decide) (by decide) (by decide), r64_hi _ p64.d _ _ _ (by rfl) (by rfl) (by rfl) (by decide) (by decide) (by decide)]
  rw [br_pos (by omega), br_pos (by omega), br_pos (by omega), br_pos (by omega), ch_64, maj_64, s7_64, s6_64]
  exact hn'
 ·simp only [P.R07_block_r11]
  rw [br_neg (by omega)]
  rfl
theorem r64_l25 (v u : List (BitVec 64)) (hv : v.length = 8) (hu : u.length = 8) (h1 : List Int) {ρ : Type} (k0 : Int → Int → List Int → List Int → List Int → Option ρ) :
    P.R07_block_l25 18446744073709551615 0 (cv v) h1 (cv u) k0 = k0 18446744073709551615 8 (cv v) h1 (cv ((List.range 8).map fun i => u.getD i 0 + v.getD i 0)) := by
 rw [P.R07_block_l25_eq]
 unfold P.R07_block_L25
 refine lp_go (fun i => (18446744073709551615, (i : Int), cv v, h1, cv (((List.range i).map fun i => u.getD i 0 + v.getD i 0) ++ u.drop i))) 8 (by simp) (fun i hi next hn' => ?_) (fun next => ?_) (by omega)
 ·simp only [P.R07_block_r25, toNat_cast, cv_getD]
  have e1 : IntKind.i64.wrap ((i : Int) + 1) = ((i + 1 : Nat) : Int) := by rw [i64w (by omega) (by omega)]; omega
  have e2 : (((List.range i).map fun i => u.getD i 0 + v.getD i 0) ++ u.drop i).getD i 0 = u.getD i 0 := by
   rw [List.getD_eq_getElem?_getD, List.getElem?_append_right (by simp), List.getElem?_drop, List.length_map, List.length_range, List.getD_eq_getElem?_getD]
   congr 2
   omega
  rw [e1, e2, s2_64, cv_set]
  have e3 : (((List.range i).map fun i => u.getD i 0 + v.getD i 0) ++ u.drop i).set i (u.getD i 0 + v.getD i 0) = ((List.range (i + 1)).map fun i => u.getD i 0 + v.getD i 0) ++ u.drop (i + 1) := by
   rw [List.set_append_right _ _ (by simp), List.length_map, List.length_range, Nat.sub_self, List.range_succ, List.map_append, List.append_assoc, List.drop_eq_getElem_cons (by omega), List.set_cons_zero]
   rfl
  rw [e3]
  simp (disch := omega) only [br_pos, br_neg, br_bne_pos, br_bne_neg, br_beq_pos, br_beq_neg, br_not, br_tt, br_ff, i64w]
  exact hn'
 ·simp only [P.R07_block_r25]
  rw [br_neg (by omega), List.drop_eq_nil_of_le (by omega), List.append_nil]
  rfl
theorem r64_block (v : List (BitVec 64)) (hv : v.length = 8) (b : List Int) (hb : In 256 b) (hl : b.length = 16 * 8) {ρ : Type} (k : List Int → Option ρ) : P.R07_block (cv v) b true k = k (cv (blockB p64 v b)) := by
 rw [P.R07_block_eq]
 unfold P.R07_block_raw
 have hr1 : ∀ (k : List Int → Option ρ), P.R07_roots256 k = k P.roots256 := fun k => by rw [P.R07_roots256_eq]; kernel_rfl
 have hr2 : ∀ (k : List Int → Option ρ), P.R07_roots512 k = k P.roots512 := fun k => by rw [P.R07_roots512_eq]; kernel_rfl
 rw [hr1, hr2, br_tt, r64_words b hb hl, r64_l11 b v hv, r64_l25 v _ hv (runs_len _ _ _ hv _)]
 rfl
end Q
end

section
open Go Go.Abs
set_option linter.unusedVariables false
namespace P
end P
end

section
open Go Go.Abs
set_option linter.unusedVariables false
namespace P
end P
end

section
open Go Go.Abs
set_option linter.unusedVariables false
namespace P
end P
end

section
open Go Go.Abs
set_option linter.unusedVariables false
namespace P
end P
end

section
/- bits, the first part: texts. -/
namespace Q
open Go Go.Abs
set_option linter.unusedVariables false
set_option linter.unusedSimpArgs false
theorem same_loop {a b : List Int} (hl : a.length = b.length) (hs : a.length ≤ 140737488355328) {ρ : Type} (k0 : List Int → List Int → Int → Option ρ) (k1 : Bool → Option ρ) :
    ∀ (m i : Nat), i + m = a.length → ∀ {stp : (List Int × List Int × Int) → ((List Int × List Int × Int) → Option ρ) → ((List Int × List Int × Int) ⊕ Bool → Option ρ) → Option ρ} {K : (List Int × List Int × Int) ⊕ Bool → Option ρ},
     (∀ (j : Nat) next, stp (a, b, (j : Int)) next K = br (decide ((j : Int) < (a.length : Int))) (br (a.getD j 0 != b.getD j 0) (k1 false) (next (a, b, ((j + 1 : Nat) : Int)))) (k0 a b (j : Int))) →
     lp stp (a, b, (i : Int)) K = if a.drop i = b.drop i then k0 a b (a.length : Int) else k1 false := by
 intro m i hm stp K hst
 refine lp_eq (P := fun x => ∃ j : Nat, x = (a, b, (j : Int)) ∧ j ≤ a.length ∧ (if a.drop j = b.drop j then k0 a b (a.length : Int) else k1 false) = (if a.drop i = b.drop i then k0 a b (a.length : Int) else k1 false)) (μ := fun x => ((a.length : Int) - x.2.2).toNat) ?_ ⟨i, rfl, by omega, rfl⟩ (by simp only; omega)
 rintro _ ⟨j, rfl, hj, he⟩ next hn
 rw [hst, ← he]
 by_cases hji : j < a.length
 ·rw [br_pos (by omega), drop_step a 0 j hji, drop_step b 0 j (by omega)]
  by_cases hab : a.getD j 0 = b.getD j 0
  ·rw [br_bne_neg hab, hn _ ⟨j + 1, rfl, by omega, ?_⟩ (by simp only; omega), ← he, drop_step a 0 j hji, drop_step b 0 j (by omega)]
   ·rw [← he, drop_step a 0 j hji, drop_step b 0 j (by omega)]
    simp only [hab, List.cons.injEq, true_and]
  ·rw [br_bne_pos hab, if_neg (by simp only [List.cons.injEq]; exact fun h => hab h.1)]
 ·have : j = a.length := by omega
  subst this
  rw [br_neg (by omega), if_pos (by rw [List.drop_eq_nil_of_le (Nat.le_refl _), List.drop_eq_nil_of_le (by omega)])]
theorem R01_Same (a b : List Int) (h : a.length ≤ 140737488355328) {ρ : Type} (k : Bool → Option ρ) : P.R01_Same a b k = k (decide (a = b)) := by
 rw [P.R01_Same_eq]
 unfold P.R01_Same_raw
 by_cases hl : a.length = b.length
 ·rw [br_bne_neg (by omega), P.R01_Same_l4_eq]
  unfold P.R01_Same_L4
  have := same_loop hl h (fun _ _ _ => k true) k a.length 0 (by omega) (stp := (fun x next ex => P.R01_Same_r4 x.1 x.2.1 x.2.2 (fun v0 v1 v5 => next (v0, v1, v5)) (fun v0 v1 v5 => ex (.inl (v0, v1, v5))) (fun v4 => ex (.inr v4)))) (K := Sum.elim (fun _ => k true) k) (by
   intro j next
   simp only [P.R01_Same_r4, Sum.elim_inl, Sum.elim_inr]
   by_cases hj : (j : Int) < (a.length : Int)
   ·simp only [br_pos hj]
    simp (disch := omega) only [br_pos, br_neg, br_bne_pos, br_bne_neg, br_beq_pos, br_beq_neg, br_not, br_tt, br_ff, i64w, toNat_cast]
    rfl
   ·simp only [br_neg hj])
  simp only [List.drop_zero] at this
  refine this.trans ?_
  by_cases hab : a = b
  ·rw [if_pos hab, decide_eq_true hab]
  ·rw [if_neg hab, decide_eq_false hab]
 ·rw [br_bne_pos (by omega), decide_eq_false (fun e => hl (by rw [e]))]
end Q
end

section
open Go Go.Abs
set_option linter.unusedVariables false
namespace P
end P
end

section
open Go Go.Abs
set_option linter.unusedVariables false
namespace P
end P
end

section
/- bits: the law's own test. -/
namespace Q
open Go Go.Abs
set_option linter.unusedVariables false
set_option linter.unusedSimpArgs false
end Q
end

section
/- bits: Same, Join. -/
namespace Q
open Go Go.Abs
set_option linter.unusedVariables false
set_option linter.unusedSimpArgs false
def diff (a b : List Int) (i : Nat) : Int := (List.range i).foldl (fun acc j => bits .or .u8 acc (bits .xor .u8 (a.getD j 0) (b.getD j 0))) 0
theorem diff_succ (a b : List Int) (i : Nat) : diff a b (i + 1) = bits .or .u8 (diff a b i) (bits .xor .u8 (a.getD i 0) (b.getD i 0)) := by
 simp [diff, List.range_succ]
theorem diff_fact (a b : List Int) (ha : In 256 a) (hb : In 256 b) : ∀ i, (0 ≤ diff a b i ∧ diff a b i < 256) ∧ (diff a b i = 0 ↔ ∀ j, j < i → a.getD j 0 = b.getD j 0)
 | 0 => ⟨⟨by simp [diff], by simp [diff]⟩, by simp [diff]⟩
 | i + 1 => by
  obtain ⟨h1, h2⟩ := diff_fact a b ha hb i
  rw [diff_succ]
  have hx := ha.getD i (by omega)
  have hy := hb.getD i (by omega)
  obtain ⟨d, hd⟩ := Int.eq_ofNat_of_zero_le h1.1
  obtain ⟨x, hx'⟩ := Int.eq_ofNat_of_zero_le hx.1
  obtain ⟨y, hy'⟩ := Int.eq_ofNat_of_zero_le hy.1
  rw [hd, hx', hy', xor_u8 x y (by omega) (by omega), or_u8 d _ (by omega) (Nat.xor_lt_two_pow (n := 8) (show x < 2 ^ 8 by omega) (show y < 2 ^ 8 by omega))]
  have hb : d ||| (x ^^^ y) < 256 := Nat.or_lt_two_pow (n := 8) (show d < 2 ^ 8 by omega) (Nat.xor_lt_two_pow (n := 8) (show x < 2 ^ 8 by omega) (show y < 2 ^ 8 by omega))
  refine ⟨⟨by omega, by omega⟩, ?_⟩
  rw [show (((d ||| (x ^^^ y) : Nat) : Int) = 0 ↔ (d ||| (x ^^^ y)) = 0) by omega, Nat.or_eq_zero_iff, xor_zero]
  constructor
  ·rintro ⟨h0, hxy⟩ j hj
   by_cases hji : j = i
   ·subst hji; rw [hx', hy', hxy]
   ·exact h2.1 (by omega) j (by omega)
  ·intro h
   refine ⟨?_, ?_⟩
   ·have := h2.2 (fun j hj => h j (by omega)); omega
   ·have := h i (by omega); rw [hx', hy'] at this; omega
theorem bits_Same (a b : List Int) (ha : In 256 a) (hb : In 256 b) (h : a.length ≤ 140737488355328) {ρ : Type} (k : Bool → Option ρ) : P.bits_Same a b k = k (decide (a = b)) := by
 rw [P.bits_Same_eq]
 unfold P.bits_Same_raw
 by_cases hl : a.length = b.length
 ·rw [br_bne_neg (by omega), P.bits_Same_l5_eq]
  unfold P.bits_Same_L5
  refine lp_up (fun i => (a, b, diff a b i, (a.length : Int), (i : Int))) a.length (fun i hi next hn => ?_) (fun next => ?_) (Nat.zero_le _) (by omega)
  ·simp only [P.bits_Same_r5, toNat_cast]
   simp (disch := omega) only [br_pos, br_neg, br_bne_pos, br_bne_neg, br_beq_pos, br_beq_neg, br_not, br_tt, br_ff, i64w]
   rw [← diff_succ]
   exact hn
  ·simp only [P.bits_Same_r5]
   rw [br_neg (by omega)]
   congr 1
   have := (diff_fact a b ha hb a.length).2
   by_cases hab : a = b
   ·rw [decide_eq_true hab, beq_iff_eq, this]
    subst hab; exact fun _ _ => rfl
   ·rw [decide_eq_false hab, beq_eq_false_iff_ne]
    intro h0
    refine hab (List.ext_getElem hl (fun i h1 h2 => ?_))
    have := this.1 h0 i h1
    rw [getD_lt h1, getD_lt h2] at this
    exact this
 ·rw [br_bne_pos (by omega), decide_eq_false (fun e => hl (by rw [e]))]
def joined (l : List (List Int)) (i : Nat) : List Int := (l.take i).flatten
theorem joined_succ (l : List (List Int)) (i : Nat) (h : i < l.length) : joined l (i + 1) = joined l i ++ l.getD i [] := by
 unfold joined
 rw [← take_step l [] i h, List.flatten_append]; simp
theorem joined_all (l : List (List Int)) : joined l l.length = l.flatten := by unfold joined; rw [List.take_length]
theorem joined_le (l : List (List Int)) (i : Nat) : (joined l i).length ≤ l.flatten.length := by
 unfold joined
 have : l.flatten = (l.take i).flatten ++ (l.drop i).flatten := by rw [← List.flatten_append, List.take_append_drop]
 rw [this, List.length_append]; omega
theorem R01_Join (l : List (List Int)) (h : l.length ≤ 140737488355328) (h2 : l.flatten.length ≤ 140737488355328) {ρ : Type} (k : List Int → Option ρ) : P.R01_Join l k = k l.flatten := by
 rw [P.R01_Join_eq]
 unfold P.R01_Join_raw
 rw [P.R01_Join_l3_eq]
 unfold P.R01_Join_L3
 refine lp_up (fun i => (l, (i : Int), joined l i)) l.length (fun i hi next hn => ?_) (fun next => ?_) (Nat.zero_le _) (by omega)
 ·have e := joined_succ l i hi
  have h3 := joined_le l (i + 1)
  rw [e, List.length_append] at h3
  simp only [P.R01_Join_r3, toNat_cast]
  simp (disch := omega) only [br_pos, br_neg, br_bne_pos, br_bne_neg, br_beq_pos, br_beq_neg, br_not, br_tt, br_ff, i64w]
  rw [← e]
  exact hn
 ·simp only [P.R01_Join_r3]
  rw [br_neg (by omega), joined_all]
theorem slices_Grow_byte (n : Nat) (h : n ≤ 140737488355328) {ρ : Type} (k : List Int → Option ρ) : P.slices_Grow_byte (n : Int) k = k [] := by
 rw [P.slices_Grow_byte_eq]
 unfold P.slices_Grow_byte_raw
 rw [br_neg (by omega), show IntKind.i64.wrap ((0 : Int) - (0 : Int)) = 0 by decide]
 rw [i64w (by omega) (by omega)]
 by_cases h0 : n = 0
 ·subst h0; rw [br_neg (by omega)]
 ·rw [br_pos (by omega), br_pos (by omega), br_pos (by omega)]; rfl
theorem slices_Concat_byte (l : List (List Int)) (h : l.length ≤ 140737488355328) (h2 : l.flatten.length ≤ 140737488355328) {ρ : Type} (k : List Int → Option ρ) : P.slices_Concat_byte l k = k l.flatten := by
 rw [P.slices_Concat_byte_eq]
 unfold P.slices_Concat_byte_raw
 rw [P.slices_Concat_byte_l3_eq]
 unfold P.slices_Concat_byte_L3
 refine lp_up (fun i => (l, ((joined l i).length : Int), l, (l.length : Int), (i : Int))) l.length (fun i hi next hn => ?_) (fun next => ?_) (Nat.zero_le _) (by omega)
 ·have e := joined_succ l i hi
  have h3 := joined_le l (i + 1)
  have e2 : ((joined l i).length : Int) + ((l.getD i []).length : Int) = ((joined l (i + 1)).length : Int) := by rw [e, List.length_append]; omega
  simp only [P.slices_Concat_byte_r3, toNat_cast, e2]
  simp (disch := omega) only [br_pos, br_neg, br_bne_pos, br_bne_neg, br_beq_pos, br_beq_neg, br_not, br_tt, br_ff, i64w]
  exact hn
 ·simp only [P.slices_Concat_byte_r3]
  rw [br_neg (by omega), joined_all, slices_Grow_byte _ h2, P.slices_Concat_byte_l11_eq]
  unfold P.slices_Concat_byte_L11
  refine lp_up (fun i => (l, (l.length : Int), (i : Int), joined l i)) l.length (fun i hi next hn => ?_) (fun next => ?_) (Nat.zero_le _) (by omega)
  ·have e := joined_succ l i hi
   have h3 := joined_le l (i + 1)
   rw [e, List.length_append] at h3
   simp only [P.slices_Concat_byte_r11, toNat_cast]
   simp (disch := omega) only [br_pos, br_neg, br_bne_pos, br_bne_neg, br_beq_pos, br_beq_neg, br_not, br_tt, br_ff, i64w]
   rw [← e]
   exact hn
  ·simp only [P.slices_Concat_byte_r11]
   rw [br_neg (by omega), joined_all]
theorem bits_Join (l : List (List Int)) (h : l.length ≤ 140737488355328) (h2 : l.flatten.length ≤ 140737488355328) {ρ : Type} (k : List Int → Option ρ) : P.bits_Join l k = k l.flatten := by
 rw [P.bits_Join_eq]
 unfold P.bits_Join_raw
 exact slices_Concat_byte l h h2 k
end Q
end

section
open Go Go.Abs
set_option linter.unusedVariables false
namespace P
end P
end

section
open Go Go.Abs
set_option linter.unusedVariables false
namespace P
end P
end
