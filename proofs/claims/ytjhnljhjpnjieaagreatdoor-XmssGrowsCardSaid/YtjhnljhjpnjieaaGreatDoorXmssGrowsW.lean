/-
  XmssGrows, part 23: an interpreter of my own over abstract values, the pure functions, the walks and the plain law.
-/

import Derived.Test.YtjhnljhjpnjieaaGreatDoorXmssGrowsV
import Derived.Laws.Bits64
import Derived.Test.YtjhnljhjpnjieaaGreatDoorXmssGrowsG
import Derived.Test.YtjhnljhjpnjieaaGreatDoorXmssGrowsI
import Derived.Test.YtjhnljhjpnjieaaGreatDoorXmssGrowsH

section
/- Small laws for the plain proofs. -/
namespace Q
open Go Go.Abs
set_option linter.unusedVariables false
def In (m : Int) (l : List Int) : Prop := ∀ x, x ∈ l → 0 ≤ x ∧ x < m
theorem wf_u8 {n : Int} (h : wfI .u8 n) : 0 ≤ n ∧ n < 256 := by
 simp [wfI, Lit.wf, IntKind.min, IntKind.max, IntKind.signed, IntKind.bits] at h; omega
theorem wf_u64 {n : Int} (h : wfI .u64 n) : 0 ≤ n ∧ n < 18446744073709551616 := by
 simp [wfI, Lit.wf, IntKind.min, IntKind.max, IntKind.signed, IntKind.bits] at h; omega
theorem wf_i64 {n : Int} (h : wfI .i64 n) : -9223372036854775808 ≤ n ∧ n ≤ 9223372036854775807 := by
 simp [wfI, Lit.wf, IntKind.min, IntKind.max, IntKind.signed, IntKind.bits] at h; omega
theorem axw {l : List Int} (h : ∀ x, x ∈ l → wfI .u8 x) : In 256 l := fun x hx => wf_u8 (h x hx)
theorem In.tail {m x : Int} {l : List Int} (h : In m (x :: l)) : In m l := fun y hy => h y (List.mem_cons_of_mem _ hy)
theorem In.app {m : Int} {l r : List Int} (h1 : In m l) (h2 : In m r) : In m (l ++ r) := fun y hy => (List.mem_append.1 hy).elim (h1 y) (h2 y)
theorem In.left {m : Int} {l r : List Int} (h : In m (l ++ r)) : In m l := fun y hy => h y (List.mem_append_left _ hy)
theorem In.right {m : Int} {l r : List Int} (h : In m (l ++ r)) : In m r := fun y hy => h y (List.mem_append_right _ hy)
theorem In.take {m : Int} {l : List Int} (h : In m l) (n : Nat) : In m (l.take n) := fun y hy => h y (List.mem_of_mem_take hy)
theorem In.drop {m : Int} {l : List Int} (h : In m l) (n : Nat) : In m (l.drop n) := fun y hy => h y (List.mem_of_mem_drop hy)
theorem In.nil {m : Int} : In m [] := fun y hy => by simp at hy
theorem In.rev {m : Int} {l : List Int} (h : In m l) : In m l.reverse := fun y hy => h y (by simpa using hy)
theorem In.getD {m : Int} {l : List Int} (h : In m l) (i : Nat) (hm : 0 < m) : 0 ≤ l.getD i 0 ∧ l.getD i 0 < m := by
 rw [List.getD_eq_getElem?_getD]
 by_cases hi : i < l.length
 ·rw [List.getElem?_eq_getElem hi]; exact h _ (List.getElem_mem hi)
 ·rw [List.getElem?_eq_none (by omega)]; exact ⟨Int.le_refl 0, hm⟩
theorem In.map {m : Int} {α : Type} {l : List α} {f : α → Int} (h : ∀ a, a ∈ l → 0 ≤ f a ∧ f a < m) : In m (l.map f) := fun y hy => by
 obtain ⟨a, ha, rfl⟩ := List.mem_map.1 hy
 exact h a ha
theorem gq {α : Type} {a b : Int} (h : ¬ a = b) (x y : α) : br (a != b) x y = x := by rw [bne_iff_ne.2 h]; exact mo x y
theorem cu {α : Type} {a b : Int} (h : a = b) (x y : α) : br (a != b) x y = y := by rw [bne_eq_false_iff_eq.2 h]; exact ru x y
theorem fq {α : Type} {a b : Int} (h : a = b) (x y : α) : br (a == b) x y = x := by rw [beq_iff_eq.2 h]; exact mo x y
theorem fu {α : Type} {a b : Int} (h : ¬ a = b) (x y : α) : br (a == b) x y = y := by rw [beq_eq_false_iff_ne.2 h]; exact ru x y
theorem jf {α : Type} (b : Bool) (x y : α) : br (!b) x y = br b y x := by cases b <;> simp
theorem buc {α : Type} (p : Prop) [Decidable p] (x y : α) : br (decide p) x y = if p then x else y := by
 by_cases h : p
 ·rw [bg h, if_pos h]
 ·rw [dx h, if_neg h]
theorem bov {X Y ρ : Type} {stp : X → (X → Option ρ) → (Y → Option ρ) → Option ρ} {K : Y → Option ρ} {r : Option ρ} (S : Nat → X) (n : Nat)
    (hstep : ∀ i, i < n → ∀ next, next (S (i + 1)) = r → stp (S i) next K = r) (hend : ∀ next, stp (S n) next K = r) {i : Nat} (hi : i ≤ n) (hn : n ≤ 18446744073709551616) : lp stp (S i) K = r := by
 have key : ∀ m i, m + i = n → lpN stp K m (S i) = r ∧ ∀ q, m ≤ q → lpN stp K q (S i) = r := by
  intro m
  induction m with
  | zero =>
   intro i hi
   have : i = n := by omega
   subst this
   refine ⟨hend _, fun q _ => ?_⟩
   cases q with
   | zero => exact hend _
   | succ q => exact hend _
  | succ m ih =>
   intro i hi
   refine ⟨hstep i (by omega) _ (ih (i + 1) (by omega)).1, fun q hq => ?_⟩
   cases q with
   | zero => omega
   | succ q => exact hstep i (by omega) _ ((ih (i + 1) (by omega)).2 q (by omega))
 exact (key (n - i) i (by omega)).2 FU (by rw [bqc]; omega)
theorem getD_lt {α : Type} {l : List α} {d : α} {i : Nat} (h : i < l.length) : l.getD i d = l[i] := by
 rw [List.getD_eq_getElem?_getD, List.getElem?_eq_getElem h]; rfl
theorem bf0 {α : Type} {l : List α} {d : α} {i : Nat} (h : l.length ≤ i) : l.getD i d = d := by
 rw [List.getD_eq_getElem?_getD, List.getElem?_eq_none h]; rfl
theorem toNat_cast (n : Nat) : ((n : Int)).toNat = n := Int.toNat_natCast n
theorem bdo (f : Nat → Int) (i n : Nat) (h : i < n) (d : Int) : ((List.range i).map f ++ List.replicate (n - i) d).set i (f i) = (List.range (i + 1)).map f ++ List.replicate (n - (i + 1)) d := by
 rw [List.set_append_right _ _ (by simp), show n - i = (n - (i + 1)) + 1 by omega, List.replicate_succ]
 simp [List.range_succ]
theorem ze {α : Type} (f : Nat → α) (i : Nat) : (List.range i).map f ++ [f i] = (List.range (i + 1)).map f := by simp [List.range_succ]
theorem amz {α : Type} (l : List α) (d : α) (i : Nat) (h : i < l.length) : l.take i ++ [l.getD i d] = l.take (i + 1) := by
 rw [getD_lt h, List.take_add_one, List.getElem?_eq_getElem h]; rfl
theorem afd {α : Type} (l : List α) (d : α) (i : Nat) (h : i < l.length) : l.drop i = l.getD i d :: l.drop (i + 1) := by
 rw [getD_lt h]; exact List.drop_eq_getElem_cons h
end Q
end

section
/- The bit operations as numbers. -/
namespace Q
open Go Go.Abs
set_option linter.unusedVariables false
theorem bx7 (x y : Nat) (hx : x < 256) (hy : y < 256) : bits .and .u8 (x : Int) (y : Int) = ((x &&& y : Nat) : Int) := by
 have h1 : x &&& y < 256 := Nat.and_lt_two_pow (n := 8) x hy
 have e : bits .and .u8 (x : Int) (y : Int) = IntKind.u8.wrap ((BitVec.ofInt 8 (x : Int) &&& BitVec.ofInt 8 (y : Int)).toNat : Int) := rfl
 have e2 : (BitVec.ofInt 8 (x : Int) &&& BitVec.ofInt 8 (y : Int)).toNat = x &&& y := by
  rw [BitVec.toNat_and, BitVec.toNat_ofInt, BitVec.toNat_ofInt]; congr 1 <;> omega
 rw [e, e2]; exact IntWalk.u8_in _ ⟨by omega, by omega⟩
theorem bml (x y : Nat) (hx : x < 18446744073709551616) (hy : y < 18446744073709551616) : bits .or .u64 (x : Int) (y : Int) = ((x ||| y : Nat) : Int) := by
 have h1 : x ||| y < 18446744073709551616 := Nat.or_lt_two_pow (n := 64) hx hy
 have e : bits .or .u64 (x : Int) (y : Int) = IntKind.u64.wrap ((BitVec.ofInt 64 (x : Int) ||| BitVec.ofInt 64 (y : Int)).toNat : Int) := rfl
 have e2 : (BitVec.ofInt 64 (x : Int) ||| BitVec.ofInt 64 (y : Int)).toNat = x ||| y := by
  rw [BitVec.toNat_or, BitVec.toNat_ofInt, BitVec.toNat_ofInt]; congr 1 <;> omega
 rw [e, e2]; exact IntWalk.u64_in _ ⟨by omega, by omega⟩
theorem asn (x y : Nat) (hx : x < 18446744073709551616) (hy : y < 18446744073709551616) : bits .and .u64 (x : Int) (y : Int) = ((x &&& y : Nat) : Int) := by
 have h1 : x &&& y < 18446744073709551616 := Nat.and_lt_two_pow (n := 64) x hy
 have e : bits .and .u64 (x : Int) (y : Int) = IntKind.u64.wrap ((BitVec.ofInt 64 (x : Int) &&& BitVec.ofInt 64 (y : Int)).toNat : Int) := rfl
 have e2 : (BitVec.ofInt 64 (x : Int) &&& BitVec.ofInt 64 (y : Int)).toNat = x &&& y := by
  rw [BitVec.toNat_and, BitVec.toNat_ofInt, BitVec.toNat_ofInt]; congr 1 <;> omega
 rw [e, e2]; exact IntWalk.u64_in _ ⟨by omega, by omega⟩
theorem bqw (x y : Nat) (hx : x < 4294967296) (hy : y < 4294967296) : bits .and .u32 (x : Int) (y : Int) = ((x &&& y : Nat) : Int) := by
 have h1 : x &&& y < 4294967296 := Nat.and_lt_two_pow (n := 32) x hy
 have e : bits .and .u32 (x : Int) (y : Int) = IntKind.u32.wrap ((BitVec.ofInt 32 (x : Int) &&& BitVec.ofInt 32 (y : Int)).toNat : Int) := rfl
 have e2 : (BitVec.ofInt 32 (x : Int) &&& BitVec.ofInt 32 (y : Int)).toNat = x &&& y := by
  rw [BitVec.toNat_and, BitVec.toNat_ofInt, BitVec.toNat_ofInt]; congr 1 <;> omega
 rw [e, e2]; exact IntWalk.u32_in _ ⟨by omega, by omega⟩
theorem u8m (n : Int) : IntKind.u8.wrap n = n % 256 := by simp [IntKind.wrap, IntKind.bits, IntKind.signed]
theorem btk (n : Int) : IntKind.u32.wrap n = n % 4294967296 := by simp [IntKind.wrap, IntKind.bits, IntKind.signed]
theorem bli (n : Int) : IntKind.u64.wrap n = n % 18446744073709551616 := by simp [IntKind.wrap, IntKind.bits, IntKind.signed]
theorem bhe (a x i : Nat) (hx : x < 2 ^ i) : (a * 2 ^ i) ||| x = a * 2 ^ i + x := by
 rw [← Nat.shiftLeft_eq, Nat.shiftLeft_add_eq_or_of_lt hx]
end Q
end

section
/- Numbers and their digits, the lowest first. -/
namespace Q
open Go Go.Abs
set_option linter.unusedVariables false
def T (w : Nat) : List Int → Nat
 | [] => 0
 | x :: l => x.toNat % 2 ^ w + 2 ^ w * T w l
theorem p2 (n : Nat) : 0 < 2 ^ n := Nat.pow_pos (by omega)
theorem bv0 (w : Nat) : ∀ l : List Int, T w l < 2 ^ (w * l.length)
 | [] => by simp [T]
 | x :: l => by
  have ih := bv0 w l
  have h1 := Nat.mod_lt x.toNat (p2 w)
  rw [List.length_cons, Nat.mul_succ, Nat.add_comm, Nat.pow_add]
  simp only [T]
  have : 2 ^ w * (T w l + 1) ≤ 2 ^ w * 2 ^ (w * l.length) := Nat.mul_le_mul (Nat.le_refl _) ih
  rw [Nat.mul_add] at this
  omega
theorem bcd (w : Nat) : ∀ a b : List Int, T w (a ++ b) = T w a + 2 ^ (w * a.length) * T w b
 | [], b => by simp [T]
 | x :: a, b => by
  rw [List.cons_append, T, T, bcd w a b, List.length_cons, Nat.mul_succ, Nat.add_comm (w * a.length) w, Nat.pow_add, Nat.mul_add, Nat.mul_assoc]
  omega
theorem bs0 (w : Nat) (l : List Int) (k : Nat) (h : k ≤ l.length) : T w l = T w (l.take k) + 2 ^ (w * k) * T w (l.drop k) := by
 have := bcd w (l.take k) (l.drop k)
 rw [List.take_append_drop, List.length_take, Nat.min_eq_left h] at this
 exact this
theorem az8 (w : Nat) (l : List Int) (k : Nat) (h : k ≤ l.length) : T w (l.drop k) = T w l / 2 ^ (w * k) := by
 have := bv0 w (l.take k)
 rw [List.length_take, Nat.min_eq_left h] at this
 rw [bs0 w l k h, Nat.add_mul_div_left _ _ (p2 _), Nat.div_eq_of_lt this, Nat.zero_add]
theorem bvh (w : Nat) (l : List Int) (k : Nat) : T w l / 2 ^ (w * k) % 2 ^ w = (l.getD k 0).toNat % 2 ^ w := by
 by_cases h : k < l.length
 ·rw [← az8 w l k (by omega), afd l 0 k h, T, Nat.add_mul_mod_self_left, Nat.mod_mod]
 ·rw [bf0 (by omega), Nat.div_eq_of_lt]
  ·rfl
  ·exact Nat.lt_of_lt_of_le (bv0 w l) (Nat.pow_le_pow_right (by omega) (Nat.mul_le_mul (Nat.le_refl _) (by omega)))
theorem ug {X Y ρ : Type} {stp : X → (X → Option ρ) → (Y → Option ρ) → Option ρ} {K : Y → Option ρ} {r : Option ρ} (S : Nat → X) (n : Nat) {x : X} (hx : x = S 0)
    (hstep : ∀ i, i < n → ∀ next, next (S (i + 1)) = r → stp (S i) next K = r) (hend : ∀ next, stp (S n) next K = r) (hn : n ≤ 18446744073709551616) : lp stp x K = r := by
 rw [hx]; exact bov S n hstep hend (Nat.zero_le _) hn
def bsw (w n X : Nat) : List Int := (List.range n).map fun i => ((X / 2 ^ (w * i) % 2 ^ w : Nat) : Int)
@[simp] theorem abe (w n X : Nat) : (bsw w n X).length = n := by simp [bsw]
theorem bij (w n X i : Nat) (h : i < n) : (bsw w n X).getD i 0 = ((X / 2 ^ (w * i) % 2 ^ w : Nat) : Int) := by
 rw [getD_lt (by simpa using h)]; simp [bsw]
theorem bch (w n X : Nat) : bsw w (n + 1) X = bsw w n X ++ [((X / 2 ^ (w * n) % 2 ^ w : Nat) : Int)] := by simp [bsw, List.range_succ]
theorem bhr (w n X : Nat) : In (2 ^ w) (bsw w n X) := by
 refine In.map (fun i _ => ⟨Int.natCast_nonneg _, ?_⟩)
 have := Nat.mod_lt (X / 2 ^ (w * i)) (p2 w)
 have e : ((2 : Int) ^ w) = ((2 ^ w : Nat) : Int) := by simp
 rw [e]; omega
theorem bv4 (w X : Nat) : ∀ n, T w (bsw w n X) = X % 2 ^ (w * n)
 | 0 => by simp [bsw, T, Nat.mod_one]
 | n + 1 => by
  rw [bch, bcd, bv4 w X n, abe, Nat.mul_succ, Nat.pow_add, Nat.mod_mul]
  simp only [T, Int.toNat_natCast, Nat.mod_mod, Nat.mul_zero, Nat.add_zero]
theorem bda (X h w m : Nat) (hm : h + w ≤ m) : X % 2 ^ m / 2 ^ h % 2 ^ w = X / 2 ^ h % 2 ^ w := by
 have e : (2 : Nat) ^ m = 2 ^ h * (2 ^ w * 2 ^ (m - (h + w))) := by rw [← Nat.pow_add, ← Nat.pow_add]; congr 1; omega
 rw [e, Nat.mod_mul_right_div_self, Nat.mod_mul_right_mod]
theorem bfj (X h w a b : Nat) (hb : a + b ≤ w) : X / 2 ^ h % 2 ^ w / 2 ^ a % 2 ^ b = X / 2 ^ (h + a) % 2 ^ b := by
 rw [bda _ _ _ _ hb, Nat.div_div_eq_div_mul, ← Nat.pow_add]
theorem bor (X h w a : Nat) : X / 2 ^ h % 2 ^ w + 2 ^ w * (X / 2 ^ (h + w) % 2 ^ a) = X / 2 ^ h % 2 ^ (w + a) := by
 rw [Nat.pow_add 2 w a, Nat.mod_mul, Nat.pow_add, Nat.div_div_eq_div_mul]
end Q
end





section
/- bits: Unpack. -/
namespace Q
open Go Go.Abs
set_option linter.unusedVariables false
set_option linter.unusedSimpArgs false
def Such (n : Nat) (w c : Int) : Prop := 1 ≤ w ∧ w ≤ 24 ∧ 0 ≤ c ∧ c * w ≤ n * 8
instance (n : Nat) (w c : Int) : Decidable (Such n w c) := inferInstanceAs (Decidable (_ ∧ _))
theorem blj (n : Nat) (w c : Int) (hn : n ≤ 1000000) {ρ : Type} (k : Bool → Option ρ) :
    br (decide (w ≥ (1 : Int))) (br (decide (w ≤ (24 : Int))) (br (decide (c ≥ (0 : Int))) (br (decide (w = (0 : Int))) none
     (k (decide (c ≤ IntKind.i64.wrap ((IntKind.i64.wrap ((↑n : Int) * (8 : Int))).tdiv w))))) (k false)) (k false)) (k false) = k (decide (Such n w c)) := by
 by_cases h1 : w ≥ 1
 ·by_cases h2 : w ≤ 24
  ·by_cases h3 : c ≥ 0
   ·rw [bg h1, bg h2, bg h3, dx (by omega)]
    congr 1
    have e0 : ((n : Int) * 8).tdiv w = (n : Int) * 8 / w := Int.tdiv_eq_ediv_of_nonneg (by omega)
    have e1 : (n : Int) * 8 / w ≤ n * 8 := Int.ediv_le_self _ (by omega)
    have e2 : 0 ≤ (n : Int) * 8 / w := Int.ediv_nonneg (by omega) (by omega)
    rw [og (x := (n : Int) * 8) (by omega) (by omega), e0, og (by omega) (by omega)]
    apply decide_eq_decide.2
    rw [Int.le_ediv_iff_mul_le (by omega)]
    unfold Such
    omega
   ·rw [bg h1, bg h2, dx h3, decide_eq_false (fun h => h3 h.2.2.1)]
  ·rw [bg h1, dx h2, decide_eq_false (fun h => h2 h.2.1)]
 ·rw [dx h1, decide_eq_false (fun h => h1 h.1)]
theorem adf (b : List Int) (w c : Int) (hn : b.length ≤ 1000000) {ρ : Type} (k : Bool → Option ρ) : P.adf b w c k = k (decide (Such b.length w c)) := by
 rw [P.au4]; exact blj b.length w c hn k
theorem aez (b : List Int) (w c : Int) (hn : b.length ≤ 1000000) {ρ : Type} (k : Bool → Option ρ) : P.aez b w c k = k (decide (Such b.length w c)) := by
 rw [P.awt]; exact blj b.length w c hn k
theorem fdiv_pow (a n m : Nat) (h : n ≤ m) : (a : Int).fdiv ((2 : Int) ^ min n m) = ((a / 2 ^ n : Nat) : Int) := by
 rw [Nat.min_eq_left h, show ((2 : Int) ^ n) = ((2 ^ n : Nat) : Int) by simp, ← Int.ofNat_fdiv]
theorem mul_pow (a n m : Nat) (h : n ≤ m) : (a : Int) * ((2 : Int) ^ min n m) = ((a * 2 ^ n : Nat) : Int) := by
 rw [Nat.min_eq_left h, show ((2 : Int) ^ n) = ((2 ^ n : Nat) : Int) by simp, ← Int.natCast_mul]
theorem agx (a : Nat) (h : a < 18446744073709551616) : IntKind.u64.wrap (a : Int) = (a : Int) := by rw [bli]; omega
theorem bky (a : Nat) (h : a < 4294967296) : IntKind.u32.wrap (a : Int) = (a : Int) := by rw [btk]; omega
theorem u8n (a : Nat) (h : a < 256) : IntKind.u8.wrap (a : Int) = (a : Int) := by rw [u8m]; omega
theorem bi8 {a b : Nat} (h : a ≤ b) : 2 ^ a ≤ 2 ^ b := Nat.pow_le_pow_right (by omega) h
theorem bu2 (w : Nat) (h : w ≤ 24) : IntKind.u64.wrap (IntKind.u64.wrap ((1 : Int) * (2 : Int) ^ min w 64) - (1 : Int)) = ((2 ^ w - 1 : Nat) : Int) := by
 have h1 := p2 w
 have h2 : 2 ^ w ≤ 2 ^ 24 := bi8 h
 rw [show (1 : Int) = ((1 : Nat) : Int) from rfl, mul_pow 1 w 64 (by omega), agx _ (by omega), show ((1 * 2 ^ w : Nat) : Int) - ((1 : Nat) : Int) = ((2 ^ w - 1 : Nat) : Int) by omega, agx _ (by omega)]
theorem bi6 (x w : Nat) (hx : x < 18446744073709551616) (h : w ≤ 24) : bits .and .u64 (x : Int) (IntKind.u64.wrap (IntKind.u64.wrap ((1 : Int) * (2 : Int) ^ min w 64) - (1 : Int))) = ((x % 2 ^ w : Nat) : Int) := by
 have h2 : 2 ^ w ≤ 2 ^ 24 := bi8 h
 rw [bu2 w h, asn _ _ hx (by omega), Nat.and_two_pow_sub_one_eq_mod]
def aay (n : Nat) : Nat := (n + 7) / 8
theorem bht (n : Nat) : n ≤ 8 * aay n := by unfold aay; omega
theorem bhu (n : Nat) : 8 * aay n < n + 8 := by unfold aay; omega
theorem byte_at {b : List Int} (hb : In 256 b) (t : Nat) : ∃ x : Nat, b.getD t 0 = (x : Int) ∧ x < 256 ∧ x = (b.getD t 0).toNat % 2 ^ 8 := by
 have := hb.getD t (by omega)
 exact ⟨(b.getD t 0).toNat, by omega, by omega, by omega⟩
end Q
end

section
/- Words of 32 and of 64 bits. -/
namespace Q
open Go Go.Abs
set_option linter.unusedVariables false
set_option linter.unusedSimpArgs false
theorem ofI {w : Nat} (x : BitVec w) : BitVec.ofInt w (x.toNat : Int) = x := by simp
theorem avr (x : BitVec 32) : x.toNat < 4294967296 := x.isLt
theorem boi (x : BitVec 64) : x.toNat < 18446744073709551616 := x.isLt
theorem bcp (x y : BitVec 32) : bits .xor .u32 (x.toNat : Int) (y.toNat : Int) = ((x ^^^ y).toNat : Int) := by
 have e : bits .xor .u32 (x.toNat : Int) (y.toNat : Int) = IntKind.u32.wrap ((BitVec.ofInt 32 (x.toNat : Int) ^^^ BitVec.ofInt 32 (y.toNat : Int)).toNat : Int) := rfl
 rw [e, ofI, ofI, bky _ (avr _)]
theorem b29 (x y : BitVec 32) : bits .and .u32 (x.toNat : Int) (y.toNat : Int) = ((x &&& y).toNat : Int) := by
 have e : bits .and .u32 (x.toNat : Int) (y.toNat : Int) = IntKind.u32.wrap ((BitVec.ofInt 32 (x.toNat : Int) &&& BitVec.ofInt 32 (y.toNat : Int)).toNat : Int) := rfl
 rw [e, ofI, ofI, bky _ (avr _)]
theorem b9l (x y : BitVec 32) : bits .or .u32 (x.toNat : Int) (y.toNat : Int) = ((x ||| y).toNat : Int) := by
 have e : bits .or .u32 (x.toNat : Int) (y.toNat : Int) = IntKind.u32.wrap ((BitVec.ofInt 32 (x.toNat : Int) ||| BitVec.ofInt 32 (y.toNat : Int)).toNat : Int) := rfl
 rw [e, ofI, ofI, bky _ (avr _)]
theorem add32 (x y : BitVec 32) : IntKind.u32.wrap ((x.toNat : Int) + (y.toNat : Int)) = ((x + y).toNat : Int) := by
 rw [btk, BitVec.toNat_add]; omega
theorem alh (x y : BitVec 64) : bits .xor .u64 (x.toNat : Int) (y.toNat : Int) = ((x ^^^ y).toNat : Int) := by
 have e : bits .xor .u64 (x.toNat : Int) (y.toNat : Int) = IntKind.u64.wrap ((BitVec.ofInt 64 (x.toNat : Int) ^^^ BitVec.ofInt 64 (y.toNat : Int)).toNat : Int) := rfl
 rw [e, ofI, ofI, agx _ (boi _)]
theorem bgc (x y : BitVec 64) : bits .and .u64 (x.toNat : Int) (y.toNat : Int) = ((x &&& y).toNat : Int) := by
 have e : bits .and .u64 (x.toNat : Int) (y.toNat : Int) = IntKind.u64.wrap ((BitVec.ofInt 64 (x.toNat : Int) &&& BitVec.ofInt 64 (y.toNat : Int)).toNat : Int) := rfl
 rw [e, ofI, ofI, agx _ (boi _)]
theorem byx (x y : BitVec 64) : bits .or .u64 (x.toNat : Int) (y.toNat : Int) = ((x ||| y).toNat : Int) := by
 have e : bits .or .u64 (x.toNat : Int) (y.toNat : Int) = IntKind.u64.wrap ((BitVec.ofInt 64 (x.toNat : Int) ||| BitVec.ofInt 64 (y.toNat : Int)).toNat : Int) := rfl
 rw [e, ofI, ofI, agx _ (boi _)]
theorem amc (x y : BitVec 64) : IntKind.u64.wrap ((x.toNat : Int) + (y.toNat : Int)) = ((x + y).toNat : Int) := by
 rw [bli, BitVec.toNat_add]; omega
theorem bgn (x y : Nat) (hx : x < 18446744073709551616) (hy : y < 18446744073709551616) : bits .xor .u64 (x : Int) (y : Int) = ((x ^^^ y : Nat) : Int) := by
 have := alh (BitVec.ofNat 64 x) (BitVec.ofNat 64 y)
 rw [BitVec.toNat_xor, BitVec.toNat_ofNat, BitVec.toNat_ofNat, Nat.mod_eq_of_lt (by omega), Nat.mod_eq_of_lt (by omega)] at this
 exact this
/- words of 32 bits as numbers of 64 -/
theorem nlt (x : BitVec 32) : x.toNat < 18446744073709551616 := by have := avr x; omega
theorem bpz (x y : BitVec 32) : bits .xor .u64 (x.toNat : Int) (y.toNat : Int) = ((x ^^^ y).toNat : Int) := by rw [bgn _ _ (nlt x) (nlt y), BitVec.toNat_xor]
theorem nand (x y : BitVec 32) : bits .and .u64 (x.toNat : Int) (y.toNat : Int) = ((x &&& y).toNat : Int) := by rw [asn _ _ (nlt x) (nlt y), BitVec.toNat_and]
theorem nor (x y : BitVec 32) : bits .or .u64 (x.toNat : Int) (y.toNat : Int) = ((x ||| y).toNat : Int) := by rw [bml _ _ (nlt x) (nlt y), BitVec.toNat_or]
theorem bmf (n : Nat) (h : n < 18446744073709551616) : bits .and .u64 (n : Int) 4294967295 = ((n % 4294967296 : Nat) : Int) := by
 rw [show (4294967295 : Int) = ((2 ^ 32 - 1 : Nat) : Int) from rfl, asn _ _ h (by omega), Nat.and_two_pow_sub_one_eq_mod]
theorem bpa (n : Nat) (h : n < 18446744073709551616) : bits .and .u64 (n : Int) 18446744073709551615 = (n : Int) := by
 rw [show (18446744073709551615 : Int) = ((2 ^ 64 - 1 : Nat) : Int) from rfl, asn _ _ h (by omega), Nat.and_two_pow_sub_one_eq_mod, Nat.mod_eq_of_lt (by omega)]
def rr {w : Nat} (x : BitVec w) (n : Nat) : BitVec w := (x >>> n) ||| (x <<< (w - n))
theorem avy {w : Nat} (x : BitVec w) (n : Nat) : (x >>> n).toNat = x.toNat / 2 ^ n := by rw [BitVec.toNat_ushiftRight, Nat.shiftRight_eq_div_pow]
theorem axc {w : Nat} (x : BitVec w) (n : Nat) : (x <<< n).toNat = x.toNat * 2 ^ n % 2 ^ w := by rw [BitVec.toNat_shiftLeft, Nat.shiftLeft_eq]
theorem brw (x : BitVec 32) (n : Nat) (h : n ≤ 32) : (x.toNat : Int).fdiv ((2 : Int) ^ min n 32) = ((x >>> n).toNat : Int) := by rw [fdiv_pow _ _ _ h, avy]
theorem b65 (x : BitVec 32) (n : Nat) (h : n ≤ 32) : IntKind.u32.wrap ((x.toNat : Int) * (2 : Int) ^ min n 32) = ((x <<< n).toNat : Int) := by
 rw [mul_pow _ _ _ h, btk, axc]; omega
theorem bjf (x : BitVec 64) (n : Nat) (h : n ≤ 64) : (x.toNat : Int).fdiv ((2 : Int) ^ min n 64) = ((x >>> n).toNat : Int) := by rw [fdiv_pow _ _ _ h, avy]
theorem bqd (x : BitVec 64) (n : Nat) (h : n ≤ 64) : IntKind.u64.wrap ((x.toNat : Int) * (2 : Int) ^ min n 64) = ((x <<< n).toNat : Int) := by
 rw [mul_pow _ _ _ h, bli, axc]; omega
theorem b95 (x : BitVec 32) (n : Nat) (h : n ≤ 64) : (x.toNat : Int).fdiv ((2 : Int) ^ min n 64) = ((x >>> n).toNat : Int) := by rw [fdiv_pow _ _ _ h, avy]
theorem nshl (x : BitVec 32) (n : Nat) (h : n ≤ 32) : bits .and .u64 (IntKind.u64.wrap ((x.toNat : Int) * (2 : Int) ^ min n 64)) 4294967295 = ((x <<< n).toNat : Int) := by
 have h1 := avr x
 have h2 : 2 ^ n ≤ 2 ^ 32 := bi8 h
 have h3 : x.toNat * 2 ^ n ≤ 4294967295 * 2 ^ 32 := Nat.mul_le_mul (by omega) h2
 rw [mul_pow _ _ _ (by omega), agx _ (by omega), bmf _ (by omega), axc]
theorem bub {w : Nat} (e f g : BitVec w) : (e &&& f) ^^^ ((BitVec.allOnes w ^^^ e) &&& g) = g ^^^ (e &&& (f ^^^ g)) := by
 ext i hi
 simp
 cases e[i] <;> cases f[i] <;> cases g[i] <;> rfl
theorem bp0 {w : Nat} (a b c : BitVec w) : ((a &&& b) ^^^ (a &&& c)) ^^^ (b &&& c) = (a &&& b) ||| (c &&& (a ||| b)) := by
 ext i hi
 simp
 cases a[i] <;> cases b[i] <;> cases c[i] <;> rfl
end Q
end

section
/- keccak: 25 words by a function of their number; the program's round and the document's. -/
namespace QK
open Q
open Go Go.Abs
set_option linter.unusedVariables false
set_option linter.unusedSimpArgs false
set_option maxRecDepth 100000
def L25 (f : Nat → Int) : List Int := (List.range 25).map f
def X (a b : Int) : Int := bits .xor .u64 a b
def Rl (a : Int) (n : Nat) : Int := bits .or .u64 (IntKind.u64.wrap (a * 2 ^ min n 64)) (a.fdiv (2 ^ min (64 - n) 64))
def cP (f : Nat → Int) (j : Nat) : Int := X (X (X (X (f j) (f (j + 5))) (f (j + 10))) (f (j + 15))) (f (j + 20))
def thP (f : Nat → Int) (i : Nat) : Int := X (f i) (X (cP f ((i + 4) % 5)) (Rl (cP f ((i + 1) % 5)) 1))
def psT : List Nat := [0, 6, 12, 18, 24, 3, 9, 10, 16, 22, 1, 7, 13, 19, 20, 4, 5, 11, 17, 23, 2, 8, 14, 15, 21]
def rsT : List Nat := [0, 44, 43, 21, 14, 28, 20, 3, 45, 61, 1, 6, 25, 8, 18, 27, 36, 10, 15, 56, 62, 55, 39, 41, 2]
def piP (f : Nat → Int) (i : Nat) : Int := bif Nat.beq i 0 then f 0 else Rl (f (psT.getD i 0)) (rsT.getD i 0)
def chP (f : Nat → Int) (i : Nat) : Int := X (f i) (bits .andNot .u64 (f (i / 5 * 5 + (i + 2) % 5)) (f (i / 5 * 5 + (i + 1) % 5)))
def s0 (x : Int) (f : Nat → Int) (i : Nat) : Int := bif Nat.beq i 0 then x else f i
theorem bef (n : Nat) (h : n ≤ 1000) : ∃ m, FU = m + n := ⟨FU - n, by have := bqc; omega⟩
theorem b46 (f : Nat → Int) (h1 : List Int) {ρ : Type} (k : Int → List Int → List Int → List Int → Option ρ) :
    P.aed 0 h1 (L25 f) [0, 0, 0, 0, 0] k = k 5 h1 (L25 f) [cP f 0, cP f 1, cP f 2, cP f 3, cP f 4] := by
 obtain ⟨m, hm⟩ := bef 6 (by omega)
 rw [P.al8]
 unfold P.aif P.zk8 P.zs8 P.zu8 P.ain lp
 rw [hm]
 kernel_rfl
theorem buu (c : Int) (f : Nat → Int) (h1 h2 : List Int) {ρ : Type} (k : Int → Int → List Int → List Int → List Int → List Int → Option ρ) :
    P.aeh c 0 (L25 f) h1 h2 [cP f 0, cP f 1, cP f 2, cP f 3, cP f 4] k = k c 5 (L25 (thP f)) h1 h2 [cP f 0, cP f 1, cP f 2, cP f 3, cP f 4] := by
 obtain ⟨m, hm⟩ := bef 6 (by omega)
 rw [P.ama]
 unfold P.aio P.bzq P.bxb P.b6r P.ah9
 simp only [P.ab5, P.abt, P.zk9, P.zu9, P.abn, P.rz, P.oq, lp, hm]; (try delta P.zs9); (try simp only [P.ab5, P.abt, P.zk9, P.zu9, P.abn, P.rz, P.oq, lp, hm]); (try delta P.zs9); (try simp only [P.ab5, P.abt, P.zk9, P.zu9, P.abn, P.rz, P.oq, lp, hm])
 kernel_rfl
theorem rhoP (c : Int) (f : Nat → Int) (h1 h2 h3 : List Int) {ρ : Type} (k : Int → Int → List Int → Int → List Int → List Int → List Int → List Int → Option ρ) :
    P.ad1 c ((L25 f).getD 1 0) P.bso 0 h3 h2 h1 (L25 f) k = k c (f 1) P.bso 24 h3 h2 h1 (L25 (piP f)) := by
 obtain ⟨m, hm⟩ := bef 25 (by omega)
 rw [P.alk]
 unfold P.ahe P.bze P.bvg P.b26 P.ahh
 simp only [P.rz, P.oq, lp, hm]
 kernel_rfl
theorem chiP (c : Int) (f : Nat → Int) (h1 h2 h3 : List Int) {ρ : Type} (k : Int → Int → List Int → List Int → List Int → List Int → Option ρ) :
    P.adx c 0 (L25 f) h1 h2 h3 k = k c 25 (L25 (chP f)) h1 h2 h3 := by
 obtain ⟨m, hm⟩ := bef 6 (by omega)
 rw [P.ak4]
 unfold P.ahg P.bzc P.btq P.b0p P.ahc
 simp only [P.abm, P.aa0, P.bsl, P.bvz, P.aa2, lp, hm]; (try delta P.zs12); (try simp only [P.abm, P.aa0, P.bsl, P.bvz, P.aa2, lp, hm]); (try delta P.zs12); (try simp only [P.abm, P.aa0, P.bsl, P.bvz, P.aa2, lp, hm])
 kernel_rfl
theorem set0 (x : Int) (f : Nat → Int) : (L25 f).set 0 x = L25 (s0 x f) := by kernel_rfl
theorem b8h (f : Nat → Int) : (L25 f).getD 0 0 = f 0 := by kernel_rfl
def cR (f : Nat → Int) (j : Nat) : Int := X (X (X (X (X 0 (f j)) (f (j + 5))) (f (j + 10))) (f (j + 15))) (f (j + 20))
def thR (f : Nat → Int) (i : Nat) : Int := X (X (f i) (cR f ((i + 4) % 5))) (Rl (cR f ((i + 1) % 5)) 1)
def chR (f : Nat → Int) (i : Nat) : Int := X (f i) (bits .and .u64 (X (f (i / 5 * 5 + (i + 1) % 5)) 18446744073709551615) (f (i / 5 * 5 + (i + 2) % 5)))
theorem brz (f : Nat → Int) {ρ : Type} (k : List Int → Option ρ) : P.ads (L25 f) k = k (L25 (thR f)) := by
 obtain ⟨m, hm⟩ := bef 26 (by omega)
 rw [P.ar4]
 unfold P.ajh
 simp only [P.ag7, P.aht, P.bsk, P.byd, P.ahl, P.ag6, P.ahs, P.bsx, P.bs2, P.ahr, P.aej, P.abh, lp, hm]; (try delta P.bsr P.bsi); (try simp only [P.ag7, P.aht, P.bsk, P.byd, P.ahl, P.ag6, P.ahs, P.bsx, P.bs2, P.ahr, P.aej, P.abh, lp, hm]); (try delta P.bsr P.bsi); (try simp only [P.ag7, P.aht, P.bsk, P.byd, P.ahl, P.ag6, P.ahs, P.bsx, P.bs2, P.ahr, P.aej, P.abh, lp, hm])
 kernel_rfl
theorem b2k (f : Nat → Int) {ρ : Type} (k : List Int → Option ρ) : P.ahq (L25 f) k = k (L25 (piP f)) := by
 obtain ⟨m, hm⟩ := bef 25 (by omega)
 rw [P.axk]
 unfold P.anm
 simp only [P.ajp, P.akv, P.bsq, P.bvy, P.akt, P.aej, P.abh, lp, hm]; (try delta P.bsu); (try simp only [P.ajp, P.akv, P.bsq, P.bvy, P.akt, P.aej, P.abh, lp, hm]); (try delta P.bsu); (try simp only [P.ajp, P.akv, P.bsq, P.bvy, P.akt, P.aej, P.abh, lp, hm])
 kernel_rfl
theorem chiR (v : Int) (f g : Nat → Int) (h1 h2 : List Int) {ρ : Type} (k : Int → Int → List Int → List Int → List Int → List Int → Option ρ) :
    P.ajo v 0 h2 h1 (L25 g) (L25 f) k = k v 25 h2 h1 (L25 (chR f)) (L25 f) := by
 obtain ⟨m, hm⟩ := bef 26 (by omega)
 rw [P.asu]
 unfold P.ao3 P.by8 P.bxc P.b2o P.aou
 simp only [lp, hm]
 kernel_rfl
theorem bwo {ρ : Type} (k : List Int → Option ρ) : P.yu k = k P.bjs := by
 obtain ⟨m, hm⟩ := bef 169 (by omega)
 rw [P.alo]
 unfold P.afq
 simp only [P.aei, P.ad7, P.bsh, P.bvc, P.ad6, lp, hm]; (try delta P.bsm); (try simp only [P.aei, P.ad7, P.bsh, P.bvc, P.ad6, lp, hm]); (try delta P.bsm); (try simp only [P.aei, P.ad7, P.bsh, P.bvc, P.ad6, lp, hm])
 kernel_rfl
end QK
end

section
/- keccak: the program's rounds are the document's. -/
namespace QK
open Q
open Go Go.Abs
set_option linter.unusedVariables false
set_option linter.unusedSimpArgs false
def U64 (x : Int) : Prop := 0 ≤ x ∧ x < 18446744073709551616
def Ws (f : Nat → Int) : Prop := ∀ i, U64 (f i)
theorem U64.bv {x : Int} (h : U64 x) : ∃ b : BitVec 64, x = (b.toNat : Int) := by
 obtain ⟨n, rfl⟩ := Int.eq_ofNat_of_zero_le h.1
 have h2 := h.2
 refine ⟨BitVec.ofNat 64 n, ?_⟩
 rw [BitVec.toNat_ofNat, Nat.mod_eq_of_lt (by omega)]
theorem bmk (b : BitVec 64) : U64 (b.toNat : Int) := by
 have := boi b
 unfold U64
 omega
theorem bqu (a b : BitVec 64) : X (a.toNat : Int) (b.toNat : Int) = ((a ^^^ b).toNat : Int) := alh a b
theorem X_U {a b : Int} (ha : U64 a) (hb : U64 b) : U64 (X a b) := by
 obtain ⟨x, rfl⟩ := ha.bv
 obtain ⟨y, rfl⟩ := hb.bv
 rw [bqu]
 exact bmk _
theorem bvk {a : Int} (ha : U64 a) : X 0 a = a := by
 obtain ⟨x, rfl⟩ := ha.bv
 have := bqu 0 x
 simpa using this
theorem bqx {a b c : Int} (ha : U64 a) (hb : U64 b) (hc : U64 c) : X (X a b) c = X a (X b c) := by
 obtain ⟨x, rfl⟩ := ha.bv
 obtain ⟨y, rfl⟩ := hb.bv
 obtain ⟨z, rfl⟩ := hc.bv
 rw [bqu, bqu, bqu, bqu, BitVec.xor_assoc]
theorem b5h {a : Int} (ha : U64 a) (n : Nat) (hn : n ≤ 64) : U64 (Rl a n) := by
 obtain ⟨x, rfl⟩ := ha.bv
 unfold Rl
 rw [bqd x n hn, bjf x (64 - n) (by omega), byx]
 exact bmk _
theorem bio (x y : BitVec 64) : bits .andNot .u64 (x.toNat : Int) (y.toNat : Int) = ((x &&& ~~~y).toNat : Int) := by
 have e : bits .andNot .u64 (x.toNat : Int) (y.toNat : Int) = IntKind.u64.wrap ((BitVec.ofInt 64 (x.toNat : Int) &&& ~~~BitVec.ofInt 64 (y.toNat : Int)).toNat : Int) := rfl
 rw [e, ofI, ofI, agx _ (boi _)]
theorem brx {a b : Int} (ha : U64 a) (hb : U64 b) : bits .and .u64 (X a 18446744073709551615) b = bits .andNot .u64 b a := by
 obtain ⟨x, rfl⟩ := ha.bv
 obtain ⟨y, rfl⟩ := hb.bv
 have h1 : (18446744073709551615 : Int) = ((BitVec.allOnes 64).toNat : Int) := by decide
 rw [h1, bqu, bgc, bio, BitVec.xor_allOnes, BitVec.and_comm]
theorem bm1 {a b : Int} (ha : U64 a) (hb : U64 b) : U64 (bits .andNot .u64 a b) := by
 obtain ⟨x, rfl⟩ := ha.bv
 obtain ⟨y, rfl⟩ := hb.bv
 rw [bio]
 exact bmk _
theorem bz7 {f : Nat → Int} (h : Ws f) (j : Nat) : U64 (cP f j) := X_U (X_U (X_U (X_U (h _) (h _)) (h _)) (h _)) (h _)
theorem btw {f : Nat → Int} (h : Ws f) (j : Nat) : cR f j = cP f j := by unfold cR cP; rw [bvk (h j)]
theorem bui {f : Nat → Int} (h : Ws f) : Ws (thP f) := fun i => X_U (h i) (X_U (bz7 h _) (b5h (bz7 h _) 1 (by omega)))
theorem bus {f : Nat → Int} (h : Ws f) : thR f = thP f := by
 funext i
 unfold thR thP
 rw [btw h, btw h, bqx (h i) (bz7 h _) (b5h (bz7 h _) 1 (by omega))]
theorem b34 (i : Nat) : rsT.getD i 0 ≤ 64 := by
 by_cases hi : i < 25
 ·have : ∀ i, i < 25 → rsT.getD i 0 ≤ 64 := by decide
  exact this i hi
 ·rw [bf0 (by simp [rsT]; omega)]; omega
theorem bxm {f : Nat → Int} (h : Ws f) : Ws (piP f) := fun i => by
 unfold piP
 cases Nat.beq i 0 with
 | true => exact h 0
 | false => exact b5h (h _) _ (b34 i)
theorem bw1 {f : Nat → Int} (h : Ws f) : chR f = chP f := by
 funext i
 unfold chR chP
 rw [brx (h _) (h _)]
theorem b47 {f : Nat → Int} (h : Ws f) : Ws (chP f) := fun i => X_U (h i) (bm1 (h _) (h _))
theorem s0_U {f : Nat → Int} {x : Int} (h : Ws f) (hx : U64 x) : Ws (s0 x f) := fun i => by
 unfold s0
 cases Nat.beq i 0 with
 | true => exact hx
 | false => exact h i
def rnd (c : Int) (f : Nat → Int) : Nat → Int := s0 (X (chP (piP (thP f)) 0) c) (chP (piP (thP f)))
theorem b06 {f : Nat → Int} {c : Int} (h : Ws f) (hc : U64 c) : Ws (rnd c f) := by
 have h2 := b47 (bxm (bui h))
 exact s0_U h2 (X_U (h2 0) hc)
def bq5 (f : Nat → Int) : Nat → Nat → Int
 | 0 => f
 | n + 1 => rnd (P.bjs.getD n 0) (bq5 f n)
theorem bs5 (n : Nat) : U64 (P.bjs.getD n 0) := by
 by_cases hn : n < 24
 ·have : ∀ n, n < 24 → (0 ≤ P.bjs.getD n 0 ∧ P.bjs.getD n 0 < 18446744073709551616) := by decide +kernel
  exact this n hn
 ·have hl : P.bjs.length = 24 := by decide +kernel
  rw [bf0 (by omega)]
  exact ⟨by decide, by decide⟩
theorem bj5 {f : Nat → Int} (h : Ws f) : ∀ n, Ws (bq5 f n)
 | 0 => h
 | n + 1 => b06 (bj5 h n) (bs5 n)
theorem jd (f : Nat → Int) {ρ : Type} (k : List Int → Option ρ) : P.jd (L25 f) k = k (L25 (bq5 f 24)) := by
 rw [P.aki]; unfold P.aex
 rw [P.aoc]; unfold P.aj5 P.bza P.bvm P.b60
 refine ug (fun i => (P.bjs, (i : Int), L25 (bq5 f i), [(0 : Int), 0, 0, 0, 0, 0, 0, 0, 0, 0, 0, 0, 0, 0, 0, 0, 0, 0, 0, 0, 0, 0, 0, 0, 0])) 24 rfl (fun i hi next hn => ?_) (fun next => ?_) (by omega)
 ·simp only [P.afm, toNat_cast]
  rw [bg (by omega), bg (by omega), bg (by omega), b46, buu, rhoP, chiP, b8h, set0, og (by omega) (by omega)]
  exact hn
 ·simp only [P.afm]
  rw [dx (by omega)]
theorem oz {f : Nat → Int} (h : Ws f) {ρ : Type} (k : List Int → Option ρ) : P.oz (L25 f) k = k (L25 (bq5 f 24)) := by
 rw [P.aop]; unfold P.aic
 rw [bwo, P.atz]; unfold P.ao2 P.by1 P.bs3 P.b5f
 refine ug (fun i => ((i : Int), L25 (bq5 f i), [(0 : Int), 0, 0, 0, 0, 0, 0, 0, 0, 0, 0, 0, 0, 0, 0, 0, 0, 0, 0, 0, 0, 0, 0, 0, 0], P.bjs)) 24 rfl (fun i hi next hn => ?_) (fun next => ?_) (by omega)
 ·have hU := bj5 h i
  simp only [P.ajv]
  rw [bg (by omega), brz, b2k, chiR, bg (by omega), bg (by omega), b8h, set0, toNat_cast, og (by omega) (by omega), bus hU, bw1 (bxm (bui hU))]
  exact hn
 ·simp only [P.ajv]
  rw [dx (by omega)]
theorem bmb (f : Nat → Int) : (L25 f).length = 25 := by simp [L25]
theorem bpw (l : List Int) (h : l.length = 25) : l = L25 fun i => l.getD i 0 := by
 apply List.ext_getElem
 ·rw [bmb, h]
 ·intro i h1 h2
  simp only [L25, List.getElem_map, List.getElem_range]
  exact (getD_lt h1).symm
end QK
end

section
/- bits: Unpack, as the document has it. -/
namespace Q
open Go Go.Abs
set_option linter.unusedVariables false
set_option linter.unusedSimpArgs false
theorem td8 (p : Nat) : (p : Int).tdiv 8 = ((p / 8 : Nat) : Int) := by rw [Int.tdiv_eq_ediv_of_nonneg (by omega)]; omega
theorem tm8 (p : Nat) : (p : Int).tmod 8 = ((p % 8 : Nat) : Int) := by rw [Int.tmod_eq_emod_of_nonneg (by omega)]; omega
theorem wmul (i w : Nat) (h : w * i ≤ 9223372036854775807) : IntKind.i64.wrap ((i : Int) * (w : Int)) = ((w * i : Nat) : Int) := by
 rw [← Int.natCast_mul, Nat.mul_comm, og (by omega) (by omega)]
theorem bvt (x s : Nat) (hx : x < 256) (hs : s ≤ 8) : bits .and .u8 ((x : Int).fdiv ((2 : Int) ^ min s 8)) 1 = ((x / 2 ^ s % 2 : Nat) : Int) := by
 have := Nat.div_le_self x (2 ^ s)
 rw [fdiv_pow x s 8 hs, show (1 : Int) = ((1 : Nat) : Int) from rfl, bx7 _ _ (by omega) (by omega), Nat.and_one_is_mod]
theorem bsb (v x : Nat) (hv : v < 16777216) (hx : x < 2) : IntKind.u32.wrap (IntKind.u32.wrap ((v : Int) * 2) + IntKind.u32.wrap (x : Int)) = ((x + 2 * v : Nat) : Int) := by
 rw [bky x (by omega), show (v : Int) * 2 = ((v * 2 : Nat) : Int) by omega, bky _ (by omega), ← Int.natCast_add, bky _ (by omega)]; omega
theorem bu4 (V h j : Nat) : V / 2 ^ h % 2 + 2 * (V / 2 ^ (h + 1) % 2 ^ j) = V / 2 ^ h % 2 ^ (j + 1) := by
 have := bor V h 1 j
 rw [Nat.add_comm j 1]; exact this
end Q
end

section
/- bits: Digits. -/
namespace Q
open Go Go.Abs
set_option linter.unusedVariables false
set_option linter.unusedSimpArgs false
def dg (w L N : Nat) (i : Nat) : Int := ((N / 2 ^ (8 * L - w * (i + 1)) % 2 ^ w : Nat) : Int)
def uf (b : List Int) (w c : Int) : List Int := if Such b.length w c then (List.range c.toNat).map (dg w.toNat b.length (T 8 b.reverse)) else []
theorem boc (b : List Int) (t : Nat) (h : t ≤ b.length) : T 8 (b.take t).reverse = T 8 b.reverse / 2 ^ (8 * (b.length - t)) := by
 rw [List.reverse_take, az8 8 _ _ (by simp)]
theorem bcg (b : List Int) (t : Nat) (h : t < b.length) : T 8 (b.take (t + 1)).reverse = (b.getD t 0).toNat % 2 ^ 8 + 256 * T 8 (b.take t).reverse := by
 rw [← amz b 0 t h, List.reverse_append, List.reverse_singleton, List.singleton_append, T]
theorem bn0 (b : List Int) (q : Nat) (h : q < b.length) : (b.getD q 0).toNat % 2 ^ 8 = T 8 b.reverse / 2 ^ (8 * (b.length - 1 - q)) % 2 ^ 8 := by
 rw [bvh]
 congr 2
 rw [getD_lt h, getD_lt (by simp; omega), List.getElem_reverse]
 congr 1; omega
theorem uj (b : List Int) (w c : Int) (hb : In 256 b) (hn : b.length ≤ 1000000) {ρ : Type} (k : List Int → Option ρ) : P.uj b w c k = k (uf b w c) := by
 rw [P.aoq]
 unfold P.aiy
 rw [adf b w c hn, jf]
 unfold uf
 by_cases hs : Such b.length w c
 rotate_left
 ·rw [decide_eq_false hs, ru, if_neg hs]
 rw [decide_eq_true hs, mo, if_pos hs]
 obtain ⟨h1, h2, h3, h4⟩ := hs
 obtain ⟨w, rfl⟩ := Int.eq_ofNat_of_zero_le (show 0 ≤ w by omega)
 obtain ⟨c, rfl⟩ := Int.eq_ofNat_of_zero_le h3
 have h4 : c * w ≤ b.length * 8 := by exact_mod_cast h4
 have hc : c ≤ c * w := Nat.le_mul_of_pos_right c (by omega)
 simp only [toNat_cast, List.length_replicate]
 simp (disch := omega) only [bg, dx, gq, cu, fq, fu, jf, mo, ru, og]
 rw [P.ata]
 unfold P.aoo P.bz4 P.bs9 P.b4f
 refine ug (fun i => (b.drop (aay (w * i)), (w : Int), ((T 8 (b.take (aay (w * i))).reverse % 2 ^ 64 : Nat) : Int), ((8 * aay (w * i) - w * i : Nat) : Int), (c : Int), (i : Int), ((List.range i).map (dg w b.length (T 8 b.reverse))) ++ List.replicate (c - i) 0)) c (by simp [aay, T, bsw]) (fun i hi next hn' => ?_) (fun next => ?_) (by omega)
 ·have hwi : w * (i + 1) = w * i + w := Nat.mul_succ w i
  have hwc : w * (i + 1) ≤ b.length * 8 := Nat.le_trans (Nat.mul_le_mul (Nat.le_refl w) hi) (by rw [Nat.mul_comm]; exact h4)
  have c1 := bht (w * i)
  have c2 := bhu (w * i)
  have c3 := bht (w * (i + 1))
  have c4 := bhu (w * (i + 1))
  have c5 : aay (w * i) ≤ aay (w * (i + 1)) := by unfold aay; omega
  simp only [P.aji]
  rw [bg (by omega), P.atx]
  unfold P.aot P.bzj P.btd P.b4n
  refine ug (fun j => (b.drop (aay (w * i) + j), (w : Int), ((T 8 (b.take (aay (w * i) + j)).reverse % 2 ^ 64 : Nat) : Int), ((8 * (aay (w * i) + j) - w * i : Nat) : Int), (i : Int), (c : Int), (i : Int), ((List.range i).map (dg w b.length (T 8 b.reverse))) ++ List.replicate (c - i) 0)) (aay (w * (i + 1)) - aay (w * i)) rfl (fun j hj next2 hn2 => ?_) (fun next2 => ?_) (by omega)
  ·have ht : aay (w * i) + j < b.length := by omega
   obtain ⟨x, hx, hx2, hx3⟩ := byte_at hb (aay (w * i) + j)
   have est := bcg b (aay (w * i) + j) ht
   rw [← hx3] at est
   simp only [P.ajn, List.length_drop, toNat_cast]
   rw [List.take_of_length_le (l := b.drop (aay (w * i) + j)) (by simp), List.drop_drop]
   have e0 : (b.drop (aay (w * i) + j)).getD 0 0 = (x : Int) := by
    rw [← hx, afd b 0 _ ht]; rfl
   have e1 : IntKind.u64.wrap (((T 8 (b.take (aay (w * i) + j)).reverse % 2 ^ 64 : Nat) : Int) * 2 ^ 8) = ((T 8 (b.take (aay (w * i) + j)).reverse % 2 ^ 56 * 2 ^ 8 : Nat) : Int) := by
    rw [bli]; omega
   rw [e0, e1, agx x (by omega), bml _ _ (by omega) (by omega), bhe _ _ _ (by omega)]
   simp (disch := omega) only [bg, dx, gq, cu, fq, fu, jf, mo, ru, og]
   rw [Nat.add_assoc, show ((8 * (aay (w * i) + j) - w * i : Nat) : Int) + 8 = ((8 * (aay (w * i) + (j + 1)) - w * i : Nat) : Int) by omega,
    show T 8 (b.take (aay (w * i) + j)).reverse % 2 ^ 56 * 2 ^ 8 + x = T 8 (b.take (aay (w * i) + (j + 1))).reverse % 2 ^ 64 by rw [← Nat.add_assoc, est]; omega]
   exact hn2
  ·have et : aay (w * i) + (aay (w * (i + 1)) - aay (w * i)) = aay (w * (i + 1)) := by omega
   simp only [P.ajn, toNat_cast]
   rw [et, dx (by omega), show ((8 * aay (w * (i + 1)) - w * i : Nat) : Int) - (w : Int) = ((8 * aay (w * (i + 1)) - w * (i + 1) : Nat) : Int) by omega,
    og (x := ((8 * aay (w * (i + 1)) - w * (i + 1) : Nat) : Int)) (by omega) (by omega)]
   simp only [toNat_cast]
   have hq : T 8 (b.take (aay (w * (i + 1)))).reverse % 2 ^ 64 / 2 ^ (8 * aay (w * (i + 1)) - w * (i + 1)) < 18446744073709551616 := by
    have := Nat.div_le_self (T 8 (b.take (aay (w * (i + 1)))).reverse % 2 ^ 64) (2 ^ (8 * aay (w * (i + 1)) - w * (i + 1)))
    omega
   rw [fdiv_pow _ _ 64 (by omega), bi6 _ w hq (by omega), bda _ _ _ _ (by omega)]
   have hw2 : 2 ^ w ≤ 2 ^ 24 := bi8 (by omega)
   have hmod := Nat.mod_lt (T 8 (b.take (aay (w * (i + 1)))).reverse / 2 ^ (8 * aay (w * (i + 1)) - w * (i + 1))) (p2 w)
   rw [bky _ (by omega)]
   have ed : ((T 8 (b.take (aay (w * (i + 1)))).reverse / 2 ^ (8 * aay (w * (i + 1)) - w * (i + 1)) % 2 ^ w : Nat) : Int) = dg w b.length (T 8 b.reverse) i := by
    unfold dg
    rw [boc b _ (by omega), Nat.div_div_eq_div_mul, ← Nat.pow_add]
    congr 4; omega
   rw [ed]
   simp only [List.length_append, List.length_map, List.length_range, List.length_replicate]
   simp (disch := omega) only [bg, dx, gq, cu, fq, fu, jf, mo, ru, og]
   rw [bdo _ _ _ hi]
   exact hn'
 ·simp only [P.aji]
  rw [dx (by omega), Nat.sub_self]
  simp
theorem qj (b : List Int) (w c : Int) (hb : In 256 b) (hn : b.length ≤ 1000000) {ρ : Type} (k : List Int → Option ρ) : P.qj b w c k = k (uf b w c) := by
 rw [P.ase]
 unfold P.ajr
 rw [aez b w c hn, jf]
 unfold uf
 by_cases hs : Such b.length w c
 rotate_left
 ·rw [decide_eq_false hs, ru, if_neg hs]
 rw [decide_eq_true hs, mo, if_pos hs]
 obtain ⟨h1, h2, h3, h4⟩ := hs
 obtain ⟨w, rfl⟩ := Int.eq_ofNat_of_zero_le (show 0 ≤ w by omega)
 obtain ⟨c, rfl⟩ := Int.eq_ofNat_of_zero_le h3
 have h4 : c * w ≤ b.length * 8 := by exact_mod_cast h4
 have hc : c ≤ c * w := Nat.le_mul_of_pos_right c (by omega)
 simp only [toNat_cast]
 rw [P.avd]
 unfold P.aq0 P.byu P.bwc P.b4g
 refine ug (fun i => (b, (w : Int), (c : Int), (i : Int), (List.range i).map (dg w b.length (T 8 b.reverse)))) c (by simp) (fun i hi next hn' => ?_) (fun next => ?_) (by omega)
 ·have hwi : w * (i + 1) = w * i + w := Nat.mul_succ w i
  have hwc : w * (i + 1) ≤ b.length * 8 := Nat.le_trans (Nat.mul_le_mul (Nat.le_refl w) hi) (by rw [Nat.mul_comm]; exact h4)
  simp only [P.ak8]
  rw [bg (by omega), P.au9]
  unfold P.ark P.byq P.bt4 P.b5i
  refine ug (fun j => (b, (w : Int), (c : Int), (i : Int), ((T 8 b.reverse / 2 ^ (8 * b.length - (w * i + j)) % 2 ^ j : Nat) : Int), (j : Int), (List.range i).map (dg w b.length (T 8 b.reverse)))) w (by simp [Nat.mod_one]) (fun j hj next2 hn2 => ?_) (fun next2 => ?_) (by omega)
  ·obtain ⟨x, hx, hx2, hx3⟩ := byte_at hb ((w * i + j) / 8)
   simp only [P.ak1]
   rw [wmul i w (by omega), ← Int.natCast_add, og (x := ((w * i + j : Nat) : Int)) (by omega) (by omega), td8, tm8, og (x := (((w * i + j) / 8 : Nat) : Int)) (by omega) (by omega),
    show (7 : Int) - (((w * i + j) % 8 : Nat) : Int) = ((7 - (w * i + j) % 8 : Nat) : Int) by omega, og (x := ((7 - (w * i + j) % 8 : Nat) : Int)) (by omega) (by omega)]
   simp only [toNat_cast]
   have hv := Nat.mod_lt (T 8 b.reverse / 2 ^ (8 * b.length - (w * i + j))) (p2 j)
   have hv2 : 2 ^ j ≤ 2 ^ 24 := bi8 (by omega)
   rw [hx, bvt x _ hx2 (by omega), bsb _ _ (by omega) (by omega), hx3, bn0 b _ (by omega)]
   have e := bfj (T 8 b.reverse) (8 * (b.length - 1 - (w * i + j) / 8)) 8 (7 - (w * i + j) % 8) 1 (by omega)
   rw [Nat.pow_one, show 8 * (b.length - 1 - (w * i + j) / 8) + (7 - (w * i + j) % 8) = 8 * b.length - (w * i + (j + 1)) by omega] at e
   rw [e, show 8 * b.length - (w * i + j) = 8 * b.length - (w * i + (j + 1)) + 1 by omega, bu4]
   simp (disch := omega) only [bg, dx, gq, cu, fq, fu, jf, mo, ru, og]
   exact hn2
  ·simp only [P.ak1, List.length_map, List.length_range]
   simp (disch := omega) only [bg, dx, gq, cu, fq, fu, jf, mo, ru, og]
   have ed : ((T 8 b.reverse / 2 ^ (8 * b.length - (w * i + w)) % 2 ^ w : Nat) : Int) = dg w b.length (T 8 b.reverse) i := by unfold dg; rw [hwi]
   rw [ed, ze]
   exact hn'
 ·simp only [P.ak8]
  rw [dx (by omega)]
end Q
end



section
/- bits: numbers as bytes and back. -/
namespace Q
open Go Go.Abs
set_option linter.unusedVariables false
set_option linter.unusedSimpArgs false
theorem bm4 (w n m X : Nat) (hm : m ≤ n) (hX : X < 2 ^ (w * m)) : bsw w m X ++ List.replicate (n - m) 0 = bsw w n X := by
 refine List.ext_getElem (by simp; omega) (fun i h1 h2 => ?_)
 have hi : i < n := by simpa using h2
 rw [← getD_lt (d := 0) h2, bij _ _ _ _ hi]
 by_cases him : i < m
 ·rw [List.getElem_append_left (by simpa using him), ← getD_lt (d := 0), bij _ _ _ _ him]
 ·rw [List.getElem_append_right (by simp; omega), List.getElem_replicate, Nat.div_eq_of_lt]
  ·rfl
  ·exact Nat.lt_of_lt_of_le hX (bi8 (Nat.mul_le_mul (Nat.le_refl _) (by omega)))
theorem af0 (N s : Nat) (hN : N < 18446744073709551616) (hs : s ≤ 65536) {ρ : Type} (k : List Int → Option ρ) : P.af0 (N : Int) (s : Int) k = k (bsw 8 s N) := by
 rw [P.bat]
 unfold P.ap0
 have em : (bif decide ((8 : Int) < (s : Int)) then (8 : Int) else (s : Int)) = ((min s 8 : Nat) : Int) := by
  by_cases h : (8 : Int) < (s : Int)
  ·rw [decide_eq_true h]; simp only [cond_true]; omega
  ·rw [decide_eq_false h]; simp only [cond_false]; omega
 simp only [toNat_cast]
 rw [em]
 simp (disch := omega) only [bg, dx, gq, cu, fq, fu, jf, mo, ru, og]
 rw [P.bcq]
 unfold P.azm P.zk6 P.zs6 P.zu6
 refine ug (fun i => ((N : Int), ((min s 8 : Nat) : Int), (i : Int), bsw 8 i N ++ List.replicate (s - i) 0)) (min s 8) (by simp [bsw]) (fun i hi next hn' => ?_) (fun next => ?_) (by omega)
 ·simp only [P.atm, List.length_append, abe, List.length_replicate, toNat_cast]
  rw [show (8 : Int) * (i : Int) = ((8 * i : Nat) : Int) by omega, og (x := ((8 * i : Nat) : Int)) (by omega) (by omega)]
  simp only [toNat_cast]
  rw [fdiv_pow N _ 64 (by omega), u8m]
  simp (disch := omega) only [bg, dx, gq, cu, fq, fu, jf, mo, ru, og]
  rw [List.set_append_right _ _ (by simp), abe, Nat.sub_self, show s - i = (s - (i + 1)) + 1 by omega, List.replicate_succ, List.set_cons_zero]
  rw [bch, List.append_assoc, List.singleton_append] at hn'
  exact hn'
 ·simp only [P.atm]
  rw [dx (by omega)]
  by_cases h : s ≤ 8
  ·rw [Nat.min_eq_left h, Nat.sub_self]; simp
  ·rw [Nat.min_eq_right (by omega), bm4 8 s 8 N (by omega) (by omega)]
theorem bj9 {f : Nat → Int} (n q : Nat) (v : Int) : ((List.range n).map f).set q v = (List.range n).map (fun j => if j = q then v else f j) := by
 refine List.ext_getElem (by simp) (fun i h1 h2 => ?_)
 simp only [List.getElem_set, List.getElem_map, List.getElem_range]
 by_cases h : q = i
 ·rw [if_pos h, if_pos h.symm]
 ·rw [if_neg h, if_neg (fun e => h e.symm)]
theorem bil {f : Nat → Int} (n q : Nat) (h : q < n) : ((List.range n).map f).getD q 0 = f q := by
 rw [getD_lt (by simpa using h)]; simp
theorem bnq (l : List Int) : l = (List.range l.length).map (fun j => l.getD j 0) := by
 refine List.ext_getElem (by simp) (fun i h1 h2 => ?_)
 simp only [List.getElem_map, List.getElem_range]
 rw [getD_lt h1]
theorem yc (N s : Nat) (hN : N < 18446744073709551616) (hs : s ≤ 65536) {ρ : Type} (k : List Int → Option ρ) : P.yc (N : Int) (s : Int) k = k (bsw 8 s N).reverse := by
 rw [P.azi]
 unfold P.ao8
 rw [af0 N s hN hs, P.ayh]
 unfold P.aus P.zk7 P.zs7 P.zu7
 simp only [abe]
 rw [og (by omega) (by omega)]
 have hfin : (bsw 8 s N).reverse = (List.range s).map (fun q => (bsw 8 s N).getD (s - 1 - q) 0) := by
  refine List.ext_getElem (by simp) (fun i h1 h2 => ?_)
  have hi : i < s := by simpa using h2
  rw [List.getElem_reverse, List.getElem_map, List.getElem_range, getD_lt (by simp; omega)]
  congr 1; simp
 have h0 : bsw 8 s N = (List.range s).map (fun q => if q < 0 ∨ s - 0 ≤ q then (bsw 8 s N).getD (s - 1 - q) 0 else (bsw 8 s N).getD q 0) := by
  have e := bnq (bsw 8 s N)
  rw [abe] at e
  refine e.trans (List.map_congr_left (fun q hq => ?_))
  have := List.mem_range.1 hq
  rw [if_neg (by omega)]
 generalize bsw 8 s N = l at h0 hfin
 refine ug (fun i => ((i : Int), (s : Int) - 1 - (i : Int), (List.range s).map (fun q => if q < i ∨ s - i ≤ q then l.getD (s - 1 - q) 0 else l.getD q 0))) (s / 2) (by rw [← h0]; simp) (fun i hi next hn' => ?_) (fun next => ?_) (by omega)
 ·simp only [P.amw, List.length_map, List.length_range, List.length_set]
  rw [show (s : Int) - 1 - (i : Int) = ((s - 1 - i : Nat) : Int) by omega]
  simp only [toNat_cast]
  rw [bil _ _ (by omega), bil _ _ (by omega), if_neg (by omega), if_neg (by omega), bj9, bj9]
  have e : (List.range s).map (fun q => if q < i + 1 ∨ s - (i + 1) ≤ q then l.getD (s - 1 - q) 0 else l.getD q 0) = (List.range s).map (fun j => if j = s - 1 - i then l.getD i 0 else if j = i then l.getD (s - 1 - i) 0 else if j < i ∨ s - i ≤ j then l.getD (s - 1 - j) 0 else l.getD j 0) := by
   refine List.map_congr_left (fun q hq => ?_)
   have := List.mem_range.1 hq
   by_cases a1 : q = s - 1 - i
   ·subst a1; rw [if_pos (by omega), if_pos rfl]; congr 1; omega
   ·rw [if_neg a1]
    by_cases a2 : q = i
    ·subst a2; rw [if_pos (by omega), if_pos rfl]
    ·rw [if_neg a2]
     by_cases a3 : q < i ∨ s - i ≤ q
     ·rw [if_pos (by omega), if_pos a3]
     ·rw [if_neg (by omega), if_neg a3]
  rw [e] at hn'
  simp (disch := omega) only [bg, dx, gq, cu, fq, fu, jf, mo, ru, og]
  rw [show ((s - 1 - i : Nat) : Int) - 1 = (s : Int) - 1 - ((i + 1 : Nat) : Int) by omega]
  exact hn'
 ·simp only [P.amw]
  rw [dx (by omega), hfin]
  congr 1
  refine List.map_congr_left (fun q hq => ?_)
  have := List.mem_range.1 hq
  by_cases a3 : q < s / 2 ∨ s - s / 2 ≤ q
  ·rw [if_pos a3]
  ·rw [if_neg a3]; congr 1; omega
theorem yx (b : List Int) (hb : In 256 b) (hn : b.length ≤ 1000000) {ρ : Type} (k : Int → Option ρ) : P.yx b k = k ((T 8 b.reverse % 2 ^ 64 : Nat) : Int) := by
 rw [P.awe]
 unfold P.amh
 rw [P.ay0]
 unfold P.aww P.byo P.bs7 P.b66
 refine ug (fun i => (((T 8 (b.take i).reverse % 2 ^ 64 : Nat) : Int), b, (b.length : Int), (i : Int))) b.length (by simp [T]) (fun i hi next hn' => ?_) (fun next => ?_) (by omega)
 ·obtain ⟨x, hx, hx2, hx3⟩ := byte_at hb i
  have est := bcg b i hi
  rw [← hx3] at est
  simp only [P.ao6, toNat_cast]
  have e1 : IntKind.u64.wrap (((T 8 (b.take i).reverse % 2 ^ 64 : Nat) : Int) * 2 ^ 8) = ((T 8 (b.take i).reverse % 2 ^ 56 * 2 ^ 8 : Nat) : Int) := by
   rw [bli]; omega
  rw [hx, e1, agx x (by omega), bml _ _ (by omega) (by omega), bhe _ _ _ (by omega),
   show T 8 (b.take i).reverse % 2 ^ 56 * 2 ^ 8 + x = T 8 (b.take (i + 1)).reverse % 2 ^ 64 by rw [est]; omega]
  simp (disch := omega) only [bg, dx, gq, cu, fq, fu, jf, mo, ru, og]
  exact hn'
 ·simp only [P.ao6]
  rw [dx (by omega), List.take_length]
end Q
end

section
/- keccak: what is taken up, what is given out. -/
namespace QK
open Q
open Go Go.Abs
set_option linter.unusedVariables false
set_option linter.unusedSimpArgs false
def W25 (w : List Int) : Prop := w.length = 25 ∧ In 18446744073709551616 w
theorem W25.ws {w : List Int} (h : W25 w) : Ws fun i => w.getD i 0 := fun i => h.2.getD i (by omega)
theorem b6a {f : Nat → Int} (h : Ws f) : W25 (L25 f) := ⟨bmb f, fun x hx => by
 simp only [L25, List.mem_map] at hx
 obtain ⟨i, _, rfl⟩ := hx
 exact h i⟩
def perm (w : List Int) : List Int := L25 (bq5 (fun i => w.getD i 0) 24)
theorem bly {w : List Int} (h : W25 w) : W25 (perm w) := b6a (bj5 h.ws 24)
theorem bkd {w : List Int} (h : W25 w) {ρ : Type} (k : List Int → Option ρ) : P.jd w k = k (perm w) := by
 have := jd (fun i => w.getD i 0) k
 rw [← bpw w h.1] at this
 exact this
theorem bjv {w : List Int} (h : W25 w) {ρ : Type} (k : List Int → Option ρ) : P.oz w k = k (perm w) := by
 have := oz h.ws k
 rw [← bpw w h.1] at this
 exact this
def pt (w : List Int) (a : Nat) (c : Int) : List Int := w.set (a / 8) (X (w.getD (a / 8) 0) (IntKind.u64.wrap (IntKind.u64.wrap c * (2 : Int) ^ min (8 * (a % 8)) 64)))
theorem bwy (x : Int) : U64 (IntKind.u64.wrap x) := by
 rw [bli]
 exact ⟨Int.emod_nonneg _ (by omega), Int.emod_lt_of_pos _ (by omega)⟩
theorem bmv {w : List Int} (h : W25 w) (a : Nat) (c : Int) : W25 (pt w a c) := by
 refine ⟨by unfold pt; rw [List.length_set]; exact h.1, fun x hx => ?_⟩
 rcases List.mem_or_eq_of_mem_set hx with hx | rfl
 ·exact h.2 x hx
 ·exact X_U (h.2.getD _ (by omega)) (bwy _)
theorem at8 (a : Nat) (h : a < 1000000) : IntKind.i64.wrap ((a : Int).tdiv 8) = ((a / 8 : Nat) : Int) := by
 rw [Int.tdiv_eq_ediv_of_nonneg (by omega), og (by omega) (by omega)]
 omega
theorem am8 (a : Nat) (h : a < 1000000) : IntKind.i64.wrap ((8 : Int) * (a : Int).tmod 8) = ((8 * (a % 8) : Nat) : Int) := by
 rw [Int.tmod_eq_emod_of_nonneg (by omega), og (by omega) (by omega)]
 omega
theorem aaj (w : List Int) (a : Nat) (c : Int) (h : a < 200) {ρ : Type} (k : List Int → Option ρ) : P.aaj w (a : Int) c k = k (pt w a c) := by
 rw [P.azb]; unfold P.apc
 rw [at8 a (by omega), am8 a (by omega), toNat_cast, toNat_cast]
 simp (disch := omega) only [bg, dx, gq, cu, fq, fu, jf, mo, ru, og]
 rfl
def Rt (kd : Int) (r : Nat) : Prop := (kd = 4 ∧ r = 136) ∨ (kd = 5 ∧ r = 72) ∨ (kd = 6 ∧ r = 168) ∨ (kd = 7 ∧ r = 136)
theorem Rt.le {kd : Int} {r : Nat} (h : Rt kd r) : 72 ≤ r ∧ r ≤ 168 := by
 rcases h with ⟨_, rfl⟩ | ⟨_, rfl⟩ | ⟨_, rfl⟩ | ⟨_, rfl⟩ <;> omega
theorem bde {kd : Int} {r : Nat} (h : Rt kd r) {ρ : Type} (k : Int → Option ρ) : P.l8 kd k = k (r : Int) := by
 rw [P.aol]; unfold P.aiu
 rcases h with ⟨rfl, rfl⟩ | ⟨rfl, rfl⟩ | ⟨rfl, rfl⟩ | ⟨rfl, rfl⟩ <;> simp
theorem blo {kd : Int} {r : Nat} (h : Rt kd r) {ρ : Type} (k : Int → Option ρ) : P.abj kd k = k (r : Int) := by
 rw [P.av7]; unfold P.ank
 rcases h with ⟨rfl, rfl⟩ | ⟨rfl, rfl⟩ | ⟨rfl, rfl⟩ | ⟨rfl, rfl⟩ <;> simp
def ast (r : Nat) (s : List Int × Nat) (c : Int) : List Int × Nat := if s.2 + 1 = r then (perm (pt s.1 s.2 c), 0) else (pt s.1 s.2 c, s.2 + 1)
def asi (r : Nat) (s : List Int × Nat) (l : List Int) : List Int × Nat := l.foldl (ast r) s
def Good (r : Nat) (s : List Int × Nat) : Prop := W25 s.1 ∧ s.2 < r
theorem bos {r : Nat} {s : List Int × Nat} (h : Good r s) (c : Int) : Good r (ast r s c) := by
 unfold ast Good at *
 split
 ·exact ⟨bly (bmv h.1 _ _), by simp only; omega⟩
 ·exact ⟨bmv h.1 _ _, by simp only; omega⟩
theorem aij {r : Nat} : ∀ (l : List Int) {s : List Int × Nat}, Good r s → Good r (asi r s l)
 | [], s, h => h
 | c :: l, s, h => aij l (bos h c)
theorem bd1 (r : Nat) (s : List Int × Nat) (l : List Int) (i : Nat) (hi : i < l.length) : asi r s (l.take (i + 1)) = ast r (asi r s (l.take i)) (l.getD i 0) := by
 rw [← amz l 0 i hi]
 unfold asi
 rw [List.foldl_append]
 rfl
theorem bn1 (r : Nat) (s : List Int × Nat) (l m : List Int) : asi r s (l ++ m) = asi r (asi r s l) m := by
 unfold asi; rw [List.foldl_append]
abbrev Z25 : List Int := [0, 0, 0, 0, 0, 0, 0, 0, 0, 0, 0, 0, 0, 0, 0, 0, 0, 0, 0, 0, 0, 0, 0, 0, 0]
theorem byf : W25 Z25 := ⟨rfl, fun x hx => by
 have : x = 0 := by simpa [Z25] using hx
 subst this
 decide⟩
theorem abb {kd : Int} {r : Nat} (hr : Rt kd r) (w : List Int) (a : Nat) (hg : Good r (w, a)) (b : List Int) (hn : b.length < 9223372036854775807) {ρ : Type} (k : Int → List Int → Int → Bool → Option ρ) :
    P.abb kd w (a : Int) false b k = k kd (asi r (w, a) b).1 ((asi r (w, a) b).2 : Int) false := by
 have hr2 := hr.le
 rw [P.arj]; unfold P.ajq
 rw [ru, P.avh]; unfold P.aqz P.bzg P.bue P.b5n
 refine ug (fun i => (b, (i : Int), kd, (asi r (w, a) (b.take i)).1, ((asi r (w, a) (b.take i)).2 : Int), false, (0 : Int), Z25, (0 : Int), false)) b.length (by simp [asi]) (fun i hi next hnx => ?_) (fun next => ?_) (by omega)
 ·have hg2 := aij (b.take i) hg
  rw [bd1 r (w, a) b i hi] at hnx
  simp only [P.ali, toNat_cast]
  generalize asi r (w, a) (b.take i) = s at hg2 hnx ⊢
  have hlt := hg2.2
  rw [bg (by omega), bg (by omega), bg (by omega), aaj _ _ _ (by omega), blo hr, og (x := (s.2 : Int) + 1) (by omega) (by omega), og (x := (i : Int) + 1) (by omega) (by omega)]
  unfold ast at hnx
  by_cases he : s.2 + 1 = r
  ·rw [if_pos he] at hnx
   rw [fq (by omega), bjv (bmv hg2.1 _ _)]
   exact hnx
  ·rw [if_neg he] at hnx
   rw [fu (by omega)]
   exact hnx
 ·simp only [P.ali]
  rw [dx (by omega), List.take_length]
def sq0 (r : Nat) (s : List Int × Nat) : List Int × Nat := if s.2 = r then (perm s.1, 0) else s
def sqb (s : List Int × Nat) : Int := IntKind.u8.wrap ((s.1.getD (s.2 / 8) 0).fdiv ((2 : Int) ^ min (8 * (s.2 % 8)) 64))
def sqS (r : Nat) (s : List Int × Nat) : Nat → List Int × Nat
 | 0 => s
 | n + 1 => ((sq0 r (sqS r s n)).1, (sq0 r (sqS r s n)).2 + 1)
def sqB (r : Nat) (s : List Int × Nat) (n : Nat) : Int := sqb (sq0 r (sqS r s n))
def sqO (r : Nat) (s : List Int × Nat) (m : Nat) : List Int := (List.range m).map (sqB r s)
def Gd (r : Nat) (s : List Int × Nat) : Prop := W25 s.1 ∧ s.2 ≤ r
theorem bbk {r : Nat} (hr : 1 ≤ r) {s : List Int × Nat} (h : Gd r s) : ∀ n, Gd r (sqS r s n)
 | 0 => h
 | n + 1 => by
  have ih := bbk hr h n
  show Gd r ((sq0 r (sqS r s n)).1, (sq0 r (sqS r s n)).2 + 1)
  revert ih
  generalize sqS r s n = t
  intro ih
  have h2 := ih.2
  unfold sq0
  by_cases he : t.2 = r
  ·rw [if_pos he]; exact ⟨bly ih.1, by simp only; omega⟩
  ·rw [if_neg he]; exact ⟨ih.1, by simp only; omega⟩
theorem bf3 (r : Nat) (s : List Int × Nat) (m : Nat) : (sqO r s m).length = m := by simp [sqO]
theorem bvx (r : Nat) (s : List Int × Nat) (m : Nat) : In 256 (sqO r s m) := fun x hx => by
 simp only [sqO, List.mem_map] at hx
 obtain ⟨i, _, rfl⟩ := hx
 unfold sqB sqb
 rw [u8m]
 exact ⟨Int.emod_nonneg _ (by omega), Int.emod_lt_of_pos _ (by omega)⟩
theorem bno (r : Nat) (s : List Int × Nat) (i : Nat) : sqO r s i ++ [sqB r s i] = sqO r s (i + 1) := ze (sqB r s) i
theorem zd : (0 : Nat) / 8 = 0 := rfl
theorem zm : min (8 * ((0 : Nat) % 8)) 64 = 0 := rfl
theorem b57 {kd : Int} {r : Nat} (hr : Rt kd r) (s : List Int × Nat) (hg : Gd r s) (m : Nat) (hm : m ≤ 100000000) (z : Bool) {ρ : Type} (k : Int → Int → List Int → Int → List Int → Int → Bool → Int → List Int → Int → Bool → Option ρ) :
    P.aaf (m : Int) (r : Int) [] kd s.1 (s.2 : Int) z 0 Z25 0 false k = k (m : Int) (r : Int) (sqO r s m) kd (sqS r s m).1 ((sqS r s m).2 : Int) z 0 Z25 0 false := by
 have hr2 := hr.le
 rw [P.aqr]; unfold P.am7 P.by7 P.bxs P.b6w
 refine ug (fun i => ((m : Int), (r : Int), sqO r s i, kd, (sqS r s i).1, ((sqS r s i).2 : Int), z, (0 : Int), Z25, (0 : Int), false)) m (by simp [sqO, sqS]) (fun i hi next hnx => ?_) (fun next => ?_) (by omega)
 ·have hg2 := bbk (by omega) hg i
  rw [← bno] at hnx
  simp only [P.ah5]
  unfold sqB at hnx
  simp only [sqS] at hnx
  have hl := bf3 r s i
  generalize sqS r s i = t at hg2 hnx ⊢
  generalize sqO r s i = o at hnx hl ⊢
  have hlt := hg2.2
  rw [bg (by omega)]
  unfold sq0 sqb at hnx
  by_cases he : t.2 = r
  ·rw [if_pos he] at hnx
   rw [fq (by omega), bjv hg2.1, bg (by omega), og (by omega) (by omega)]
   simp only [zd, zm] at hnx
   exact hnx
  ·rw [if_neg he] at hnx
   rw [fu (by omega), at8 _ (by omega), am8 _ (by omega), toNat_cast, toNat_cast, og (x := (t.2 : Int) + 1) (by omega) (by omega)]
   simp (disch := omega) only [bg, dx, gq, cu, fq, fu, jf, mo, ru, og]
   exact hnx
 ·simp only [P.ah5, bf3]
  rw [dx (by omega)]
theorem b4b {kd : Int} {r : Nat} (hr : Rt kd r) (s : List Int × Nat) (hg : Gd r s) (m : Nat) (hm : m ≤ 100000000) (z : Bool) {ρ : Type} (k : Int → Int → Int → List Int → Int → Bool → Int → List Int → Int → Bool → List Int → Option ρ) :
    P.adp (m : Int) 0 kd s.1 (s.2 : Int) z 0 Z25 0 false (List.replicate m 0) k = k (m : Int) (m : Int) kd (sqS r s m).1 ((sqS r s m).2 : Int) z 0 Z25 0 false (sqO r s m) := by
 have hr2 := hr.le
 rw [P.aog]; unfold P.aj7 P.by3 P.bv5 P.b2m
 refine ug (fun i => ((m : Int), (i : Int), kd, (sqS r s i).1, ((sqS r s i).2 : Int), z, (0 : Int), Z25, (0 : Int), false, sqO r s i ++ List.replicate (m - i) 0)) m (by simp [sqO, sqS]) (fun i hi next hnx => ?_) (fun next => ?_) (by omega)
 ·have hg2 := bbk (by omega) hg i
  have hO : sqO r s (i + 1) ++ List.replicate (m - (i + 1)) 0 = (sqO r s i ++ List.replicate (m - i) 0).set i (sqB r s i) := (bdo (sqB r s) i m hi 0).symm
  have hl : (sqO r s i ++ List.replicate (m - i) 0).length = m := by simp [sqO]; omega
  rw [hO] at hnx
  unfold sqB at hnx
  simp only [sqS] at hnx
  simp only [P.af4, toNat_cast]
  generalize sqO r s i ++ List.replicate (m - i) 0 = o at hl hnx ⊢
  generalize sqS r s i = t at hg2 hnx ⊢
  have hlt := hg2.2
  rw [bg (by omega), bde hr]
  unfold sq0 sqb at hnx
  by_cases he : t.2 = r
  ·rw [if_pos he] at hnx
   rw [fq (by omega), bkd hg2.1, bg (by omega), bg (by omega), og (x := (i : Int) + 1) (by omega) (by omega), og (x := (0 : Int) + 1) (by omega) (by omega)]
   simp only [zd, zm] at hnx
   exact hnx
  ·rw [if_neg he] at hnx
   rw [fu (by omega), at8 _ (by omega), am8 _ (by omega), toNat_cast, toNat_cast, og (x := (t.2 : Int) + 1) (by omega) (by omega), og (x := (i : Int) + 1) (by omega) (by omega)]
   simp (disch := omega) only [bg, dx, gq, cu, fq, fu, jf, mo, ru, og]
   exact hnx
 ·simp only [P.af4]
  rw [dx (by omega)]
  simp
end QK
end



section
/- keccak: sums. -/
namespace QK
open Q
open Go Go.Abs
set_option linter.unusedVariables false
set_option linter.unusedSimpArgs false
theorem o7 {kd : Int} {r : Nat} (hr : Rt kd r) (w : List Int) (a : Nat) (hg : Good r (w, a)) (b : List Int) (hn : b.length < 9223372036854775807) {ρ : Type} (k : Int → List Int → Int → Bool → Option ρ) :
    P.o7 kd w (a : Int) false b k = k kd (asi r (w, a) b).1 ((asi r (w, a) b).2 : Int) false := by
 have hr2 := hr.le
 rw [P.al2]; unfold P.afn
 rw [ru, bde hr, P.aqb]; unfold P.al4 P.bzm P.bya P.b1j
 refine ug (fun i => (b, (r : Int), (b.length : Int), (i : Int), kd, (asi r (w, a) (b.take i)).1, ((asi r (w, a) (b.take i)).2 : Int), false, (0 : Int), Z25, (0 : Int), false)) b.length (by simp [asi]) (fun i hi next hnx => ?_) (fun next => ?_) (by omega)
 ·have hg2 := aij (b.take i) hg
  rw [bd1 r (w, a) b i hi] at hnx
  simp only [P.ag8, toNat_cast]
  generalize asi r (w, a) (b.take i) = s at hg2 hnx ⊢
  have hlt := hg2.2
  rw [at8 _ (by omega), am8 _ (by omega), toNat_cast, toNat_cast, og (x := (s.2 : Int) + 1) (by omega) (by omega), og (x := (i : Int) + 1) (by omega) (by omega)]
  unfold ast at hnx
  by_cases he : s.2 + 1 = r
  ·rw [if_pos he] at hnx
   simp (disch := omega) only [bg, dx, gq, cu, fq, fu, jf, mo, ru, og]
   exact (bkd (bmv hg2.1 _ _) _).trans hnx
  ·rw [if_neg he] at hnx
   simp (disch := omega) only [bg, dx, gq, cu, fq, fu, jf, mo, ru, og]
   exact hnx
 ·simp only [P.ag8]
  rw [dx (by omega), List.take_length]
def mark (kd : Int) : Int := if kd = 4 ∨ kd = 5 then 6 else 31
def trn (kd : Int) (r : Nat) (s : List Int × Nat) : List Int := perm (pt (pt s.1 s.2 (mark kd)) (r - 1) 128)
theorem bvd {kd : Int} {r : Nat} {s : List Int × Nat} (h : W25 s.1) : W25 (trn kd r s) := bly (bmv (bmv h _ _) _ _)
theorem u7 {kd : Int} {r : Nat} (hr : Rt kd r) (s : List Int × Nat) (hg : Good r s) (z : Bool) {ρ : Type} (k : Int → List Int → Int → Bool → Option ρ) :
    P.u7 kd s.1 (s.2 : Int) z k = k kd (trn kd r s) 0 true := by
 have hr2 := hr.le
 have h2 := hg.2
 have er : (r : Int) - 1 = ((r - 1 : Nat) : Int) := by omega
 rw [P.aly]; unfold P.af2
 rw [at8 _ (by omega), am8 _ (by omega), toNat_cast, toNat_cast]
 rw [bde hr, bde hr, og (x := (r : Int) - 1) (by omega) (by omega), er, at8 _ (by omega), am8 _ (by omega), toNat_cast, toNat_cast]
 have fin : ∀ c : Int, (P.jd (pt (pt s.1 s.2 c) (r - 1) 128) fun q => k kd q 0 true) = k kd (perm (pt (pt s.1 s.2 c) (r - 1) 128)) 0 true := fun c => bkd (bmv (bmv hg.1 _ _) _ _) _
 unfold trn mark
 by_cases h4 : kd = 4
 ·rw [if_pos (.inl h4)]
  simp (disch := omega) only [bg, dx, gq, cu, fq, fu, jf, mo, ru, og]
  exact fin 6
 ·by_cases h5 : kd = 5
  ·rw [if_pos (.inr h5)]
   simp (disch := omega) only [bg, dx, gq, cu, fq, fu, jf, mo, ru, og]
   exact fin 6
  ·rw [if_neg (by omega)]
   simp (disch := omega) only [bg, dx, gq, cu, fq, fu, jf, mo, ru, og]
   exact fin 31
theorem aai {kd : Int} {r : Nat} (hr : Rt kd r) (s : List Int × Nat) (hg : Good r s) (m : Nat) (hm : m ≤ 100000000) {ρ : Type} (k : Int → List Int → Int → Bool → List Int → Option ρ) :
    P.aai kd s.1 (s.2 : Int) false (m : Int) k = k kd (sqS r (trn kd r s, 0) m).1 ((sqS r (trn kd r s, 0) m).2 : Int) true (sqO r (trn kd r s, 0) m) := by
 have hr2 := hr.le
 have h2 := hg.2
 have er : (r : Int) - 1 = ((r - 1 : Nat) : Int) := by omega
 have fin : ∀ c : Int, mark kd = c → (P.aaj s.1 (s.2 : Int) c fun q1 => P.aaj q1 (IntKind.i64.wrap ((r : Int) - 1)) 128 fun q2 => P.oz q2 fun q3 => P.aaf (m : Int) (r : Int) [] kd q3 0 true 0 Z25 0 false
     fun (q4 q5 : Int) (q6 : List Int) (q7 : Int) (q8 : List Int) (q9 : Int) (q10 : Bool) (q11 : Int) (q12 : List Int) (q13 : Int) (q14 : Bool) => k q7 q8 q9 q10 q6) =
     k kd (sqS r (trn kd r s, 0) m).1 ((sqS r (trn kd r s, 0) m).2 : Int) true (sqO r (trn kd r s, 0) m) := by
  intro c hc
  rw [og (x := (r : Int) - 1) (by omega) (by omega), er, aaj _ _ _ (by omega), aaj _ _ _ (by omega), bjv (bmv (bmv hg.1 _ _) _ _)]
  have := b57 hr (trn kd r s, 0) ⟨bvd hg.1, by simp only; omega⟩ m hm true (fun (q4 q5 : Int) (q6 : List Int) (q7 : Int) (q8 : List Int) (q9 : Int) (q10 : Bool) (q11 : Int) (q12 : List Int) (q13 : Int) (q14 : Bool) => k q7 q8 q9 q10 q6)
  unfold trn at this ⊢
  rw [hc] at this ⊢
  exact this
 rw [P.aoi]; unfold P.aik
 rw [dx (by omega), blo hr, jf, ru]
 by_cases h4 : kd = 4
 ·rw [fq h4]; exact fin 6 (by unfold mark; rw [if_pos (.inl h4)])
 ·rw [fu h4]
  by_cases h5 : kd = 5
  ·rw [fq h5]; exact fin 6 (by unfold mark; rw [if_pos (.inr h5)])
  ·rw [fu h5]; exact fin 31 (by unfold mark; rw [if_neg (by omega)])
theorem qy {kd : Int} {r : Nat} (hr : Rt kd r) (s : List Int × Nat) (hg : Good r s) (m : Nat) (hm : m ≤ 100000000) {ρ : Type} (k : Int → List Int → Int → Bool → List Int → Option ρ) :
    P.qy kd s.1 (s.2 : Int) false (m : Int) k = k kd (sqS r (trn kd r s, 0) m).1 ((sqS r (trn kd r s, 0) m).2 : Int) true (sqO r (trn kd r s, 0) m) := by
 have hr2 := hr.le
 rw [P.aj3]; unfold P.afc
 rw [dx (by omega), jf, ru, u7 hr s hg, bg (by omega), bg (by omega), bg (by omega), toNat_cast, List.length_replicate]
 exact b4b hr (trn kd r s, 0) ⟨bvd hg.1, by simp only; omega⟩ m hm true _
def rOf (kd : Int) : Nat := if kd = 4 then 136 else if kd = 5 then 72 else if kd = 6 then 168 else 136
theorem bt5 {kd : Int} (h : kd = 4 ∨ kd = 5 ∨ kd = 6 ∨ kd = 7) : Rt kd (rOf kd) := by
 unfold Rt rOf
 rcases h with rfl | rfl | rfl | rfl <;> simp
def bxa (kd : Int) (b : List Int) (m : Nat) : List Int := sqO (rOf kd) (trn kd (rOf kd) (asi (rOf kd) (Z25, 0) b), 0) m
theorem bng (kd : Int) (b : List Int) (m : Nat) : (bxa kd b m).length = m := bf3 _ _ _
theorem bqi (kd : Int) (b : List Int) (m : Nat) : In 256 (bxa kd b m) := bvx _ _ _
theorem aip {kd : Int} (h : kd = 4 ∨ kd = 5 ∨ kd = 6 ∨ kd = 7) (b : List Int) (hn : b.length < 9223372036854775807) (m : Nat) (hm : m ≤ 16777216) {ρ : Type} (k : List Int → Int → Option ρ) : P.aip kd b (m : Int) k = k (bxa kd b m) 0 := by
 have hr := bt5 h
 have hr2 := hr.le
 have hg : Good (rOf kd) (Z25, 0) := ⟨byf, by simp only; omega⟩
 rw [P.bap]; unfold P.apq
 rw [P.ay8]; unfold P.apl
 rw [blo hr, fu (by omega)]
 dsimp only
 rw [cu rfl, dx (by omega), dx (by omega)]
 exact (abb hr Z25 0 hg b hn _).trans (aai hr _ (aij b hg) m (by omega) _)
end QK
end

section
/- SHA-2: what a block does. -/
namespace Q
open Go Go.Abs
set_option linter.unusedVariables false
set_option linter.unusedSimpArgs false
structure Par (w : Nat) where
 rounds : Nat
 a : Nat × Nat × Nat
 b : Nat × Nat × Nat
 c : Nat × Nat × Nat
 d : Nat × Nat × Nat
 K : Nat → BitVec w
section
variable {w : Nat}
def hi (t : Nat × Nat × Nat) (x : BitVec w) : BitVec w := rr x t.1 ^^^ rr x t.2.1 ^^^ rr x t.2.2
def lo (t : Nat × Nat × Nat) (x : BitVec w) : BitVec w := rr x t.1 ^^^ rr x t.2.1 ^^^ (x >>> t.2.2)
def cv (l : List (BitVec w)) : List Int := l.map fun x => (x.toNat : Int)
@[simp] theorem x9 (l : List (BitVec w)) : (cv l).length = l.length := by simp [cv]
theorem ag2 (l : List (BitVec w)) (i : Nat) : (cv l).getD i 0 = ((l.getD i 0).toNat : Int) := by
 unfold cv
 rw [List.getD_eq_getElem?_getD, List.getD_eq_getElem?_getD, List.getElem?_map]
 cases l[i]? <;> simp
theorem ba0 (l : List (BitVec w)) (i : Nat) (x : BitVec w) : (cv l).set i (x.toNat : Int) = cv (l.set i x) := by simp [cv, List.map_set]
theorem agu (l r : List (BitVec w)) : cv l ++ cv r = cv (l ++ r) := by simp [cv]
def bsp (p : Par w) (t : Nat) (wt : BitVec w) (v : List (BitVec w)) : BitVec w :=
 v.getD 7 0 + hi p.d (v.getD 4 0) + (v.getD 6 0 ^^^ (v.getD 4 0 &&& (v.getD 5 0 ^^^ v.getD 6 0))) + p.K t + wt
def b5t (p : Par w) (v : List (BitVec w)) : BitVec w := hi p.c (v.getD 0 0) + ((v.getD 0 0 &&& v.getD 1 0) ||| (v.getD 2 0 &&& (v.getD 0 0 ||| v.getD 1 0)))
def rnd (p : Par w) (t : Nat) (wt : BitVec w) (v : List (BitVec w)) : List (BitVec w) :=
 [bsp p t wt v + b5t p v, v.getD 0 0, v.getD 1 0, v.getD 2 0, v.getD 3 0 + bsp p t wt v, v.getD 4 0, v.getD 5 0, v.getD 6 0]
def bv2 (p : Par w) (l : List (BitVec w)) : BitVec w := lo p.b (l.getD (l.length - 2) 0) + l.getD (l.length - 7) 0 + lo p.a (l.getD (l.length - 15) 0) + l.getD (l.length - 16) 0
def sched (p : Par w) (l : List (BitVec w)) : Nat → List (BitVec w)
 | 0 => l
 | n + 1 => sched p l n ++ [bv2 p (sched p l n)]
theorem awd (p : Par w) (l : List (BitVec w)) : ∀ n, (sched p l n).length = l.length + n
 | 0 => rfl
 | n + 1 => by simp only [sched, List.length_append, awd p l n, List.length_singleton]; omega
theorem bb4 (p : Par w) (l : List (BitVec w)) (n i : Nat) (hi : i < l.length + n) : ∀ m, (sched p l (n + m)).getD i 0 = (sched p l n).getD i 0
 | 0 => rfl
 | m + 1 => by
  rw [← Nat.add_assoc]
  simp only [sched]
  rw [List.getD_eq_getElem?_getD, List.getElem?_append_left (by rw [awd]; omega), ← List.getD_eq_getElem?_getD, bb4 p l n i hi m]
def W (p : Par w) (l : List (BitVec w)) (t : Nat) : BitVec w := (sched p l t).getD t 0
theorem bpg (p : Par w) (l : List (BitVec w)) (hl : 0 < l.length) (n t : Nat) (h : t < l.length + n) : (sched p l n).getD t 0 = W p l t := by
 unfold W
 by_cases hn : n ≤ t
 ·have := bb4 p l n t h (t - n)
  rw [show n + (t - n) = t by omega] at this
  exact this.symm
 ·have := bb4 p l t t (by omega) (n - t)
  rw [show t + (n - t) = n by omega] at this
  exact this
theorem bic (p : Par w) (l : List (BitVec w)) (hl : l.length = 16) (t : Nat) : W p l (t + 16) = W p l t + lo p.a (W p l (t + 1)) + W p l (t + 9) + lo p.b (W p l (t + 14)) := by
 have e := bpg p l (by omega) (t + 1) (t + 16) (by omega)
 rw [← e]
 simp only [sched]
 have hlen := awd p l t
 rw [List.getD_eq_getElem?_getD, List.getElem?_append_right (by rw [hlen]; omega), hlen, show t + 16 - (l.length + t) = 0 by omega]
 simp only [List.getElem?_cons_zero, Option.getD_some]
 unfold bv2
 rw [hlen, show l.length + t - 2 = t + 14 by omega, show l.length + t - 7 = t + 9 by omega, show l.length + t - 15 = t + 1 by omega, show l.length + t - 16 = t by omega,
  bpg p l (by omega) t _ (by omega), bpg p l (by omega) t _ (by omega), bpg p l (by omega) t _ (by omega), bpg p l (by omega) t _ (by omega)]
 ac_rfl
def runs (p : Par w) (l : List (BitVec w)) (v : List (BitVec w)) : Nat → List (BitVec w)
 | 0 => v
 | t + 1 => rnd p t (W p l t) (runs p l v t)
theorem anw (p : Par w) (l v : List (BitVec w)) (hv : v.length = 8) : ∀ t, (runs p l v t).length = 8
 | 0 => hv
 | t + 1 => rfl
def bpp (p : Par w) (l v : List (BitVec w)) : List (BitVec w) := (List.range 8).map fun i => (runs p l v p.rounds).getD i 0 + v.getD i 0
def mg (w : Nat) (b : List Int) (n : Nat) : List (BitVec w) := (List.range n).map fun t => BitVec.ofNat w (T 8 ((b.take ((t + 1) * (w / 8))).drop (t * (w / 8))).reverse)
def avv (p : Par w) (v : List (BitVec w)) (b : List Int) : List (BitVec w) := bpp p (mg w b 16) v
theorem bjp (p : Par w) (v : List (BitVec w)) (b : List Int) : (avv p v b).length = 8 := by simp [avv, bpp]
theorem awz (b : List Int) (n : Nat) : mg w b (n + 1) = mg w b n ++ [BitVec.ofNat w (T 8 ((b.take ((n + 1) * (w / 8))).drop (n * (w / 8))).reverse)] := by simp [mg, List.range_succ]
theorem qo (b : List Int) (n : Nat) : (mg w b n).length = n := by simp [mg]
def win (p : Par w) (l : List (BitVec w)) (t : Nat) : List (BitVec w) := (List.range 16).map fun j => W p l (t + (j + 16 - t % 16) % 16)
theorem at0 (p : Par w) (l : List (BitVec w)) (t i : Nat) (hi : i < 16) : (win p l t).getD ((t + i) % 16) 0 = W p l (t + i) := by
 unfold win
 rw [getD_lt (by simp; omega)]
 simp only [List.getElem_map, List.getElem_range]
 congr 1
 omega
theorem biq (p : Par w) (l : List (BitVec w)) (t : Nat) : (win p l t).set (t % 16) (W p l (t + 16)) = win p l (t + 1) := by
 unfold win
 refine List.ext_getElem (by simp) (fun j h1 h2 => ?_)
 simp only [List.length_map, List.length_range] at h2
 rw [List.getElem_set]
 by_cases h : t % 16 = j
 ·rw [if_pos h]
  simp only [List.getElem_map, List.getElem_range]
  congr 1
  omega
 ·rw [if_neg h]
  simp only [List.getElem_map, List.getElem_range]
  congr 1
  omega
theorem win_zero (p : Par w) (b : List Int) : win p (mg w b 16) 0 = mg w b 16 := by
 unfold win
 refine List.ext_getElem (by simp [mg]) (fun j h1 h2 => ?_)
 rw [qo] at h2
 simp only [List.getElem_map, List.getElem_range]
 rw [show 0 + (j + 16 - 0 % 16) % 16 = j by omega, ← bpg p _ (by rw [qo]; omega) 0 j (by rw [qo]; omega)]
 exact getD_lt (by rw [show sched p (mg w b 16) 0 = mg w b 16 from rfl, qo]; exact h2)
end
theorem bf8 : ∀ x, x ∈ P.roots256 → 0 ≤ x ∧ x < 4294967296 := by decide +kernel
theorem bgu : ∀ x, x ∈ P.roots512 → 0 ≤ x ∧ x < 18446744073709551616 := by decide +kernel
def p32 : Par 32 := ⟨64, (7, 18, 3), (17, 19, 10), (2, 13, 22), (6, 11, 25), fun t => BitVec.ofInt 32 (P.roots256.getD t 0)⟩
def p64 : Par 64 := ⟨80, (1, 8, 7), (19, 61, 6), (28, 34, 39), (14, 18, 41), fun t => BitVec.ofInt 64 (P.roots512.getD t 0)⟩
theorem K32 (t : Nat) : P.roots256.getD t 0 = ((p32.K t).toNat : Int) := by
 have := In.getD (m := 4294967296) bf8 t (by omega)
 simp only [p32, BitVec.toNat_ofInt]
 omega
theorem K64 (t : Nat) : P.roots512.getD t 0 = ((p64.K t).toNat : Int) := by
 have := In.getD (m := 18446744073709551616) bgu t (by omega)
 simp only [p64, BitVec.toNat_ofInt]
 omega
end Q
end

section
/- SHA-2: the program's engine of 32 bits. -/
namespace Q
open Go Go.Abs
set_option linter.unusedVariables false
set_option linter.unusedSimpArgs false
theorem ajw (rd : Int) (t0 t1 t2 t3 : List Int) (x : BitVec 32) (m : Int) (n : Nat) (hm : m = (n : Int)) (hn : n ≤ 32) {ρ : Type} (k : Int → Option ρ) :
    P.dn 32 rd t0 t1 t2 t3 (x.toNat : Int) m k = k ((rr x n).toNat : Int) := by
 subst hm
 rw [P.acd]
 unfold P.yh
 rw [dx (by omega), og (by omega) (by omega), dx (by omega), show (32 : Int) - (n : Int) = ((32 - n : Nat) : Int) by omega]
 simp only [toNat_cast]
 rw [brw _ _ hn, b65 _ _ (by omega), b9l]
 rfl
theorem bj3 (rd : Int) (x : BitVec 32) {ρ : Type} (k : Int → Option ρ) : P.jr 32 rd [7, 18, 3] [17, 19, 10] [2, 13, 22] [6, 11, 25] (x.toNat : Int) 3 k = k ((hi p32.d x).toNat : Int) := by
 rw [P.aaw]
 unfold P.wm
 simp only [List.getD_cons_zero, List.getD_cons_succ]
 rw [dx (by decide), dx (by decide), dx (by decide), bg (by decide), ajw _ _ _ _ _ _ _ 6 (by rfl) (by omega), ajw _ _ _ _ _ _ _ 11 (by rfl) (by omega), ajw _ _ _ _ _ _ _ 25 (by rfl) (by omega), bcp, bcp]
 rfl
theorem bkr (rd : Int) (x : BitVec 32) {ρ : Type} (k : Int → Option ρ) : P.jr 32 rd [7, 18, 3] [17, 19, 10] [2, 13, 22] [6, 11, 25] (x.toNat : Int) 2 k = k ((hi p32.c x).toNat : Int) := by
 rw [P.aaw]
 unfold P.wm
 simp only [List.getD_cons_zero, List.getD_cons_succ]
 rw [dx (by decide), dx (by decide), bg (by decide), ajw _ _ _ _ _ _ _ 2 (by rfl) (by omega), ajw _ _ _ _ _ _ _ 13 (by rfl) (by omega), ajw _ _ _ _ _ _ _ 22 (by rfl) (by omega), bcp, bcp]
 rfl
theorem bnr (rd : Int) (x : BitVec 32) {ρ : Type} (k : Int → Option ρ) : P.kg 32 rd [7, 18, 3] [17, 19, 10] [2, 13, 22] [6, 11, 25] (x.toNat : Int) 0 k = k ((lo p32.a x).toNat : Int) := by
 rw [P.aa5]
 unfold P.xq
 simp only [List.getD_cons_zero, List.getD_cons_succ]
 rw [bg (by decide), ajw _ _ _ _ _ _ _ 7 (by rfl) (by omega), ajw _ _ _ _ _ _ _ 18 (by rfl) (by omega), dx (by decide), bcp, show (3 : Int).toNat = 3 from rfl, brw _ _ (by omega), bcp]
 rfl
theorem bni (rd : Int) (x : BitVec 32) {ρ : Type} (k : Int → Option ρ) : P.kg 32 rd [7, 18, 3] [17, 19, 10] [2, 13, 22] [6, 11, 25] (x.toNat : Int) 1 k = k ((lo p32.b x).toNat : Int) := by
 rw [P.aa5]
 unfold P.xq
 simp only [List.getD_cons_zero, List.getD_cons_succ]
 rw [dx (by decide), bg (by decide), ajw _ _ _ _ _ _ _ 17 (by rfl) (by omega), ajw _ _ _ _ _ _ _ 19 (by rfl) (by omega), dx (by decide), bcp, show (10 : Int).toNat = 10 from rfl, brw _ _ (by omega), bcp]
 rfl
theorem bn7 (t : Nat) (h : t < 64) {ρ : Type} (k : Int → Option ρ) : P.ow (t : Int) k = k ((p32.K t).toNat : Int) := by
 rw [P.aos]
 unfold P.air
 rw [bg (by omega), bg (by omega), toNat_cast, K32]
theorem v8 {w : Nat} (v : List (BitVec w)) (hv : v.length = 8) : v = [v.getD 0 0, v.getD 1 0, v.getD 2 0, v.getD 3 0, v.getD 4 0, v.getD 5 0, v.getD 6 0, v.getD 7 0] := by
 match v, hv with
 | [a, b, c, d, e, f, g, h], _ => rfl
theorem b88 (t : Nat) : ((t : Nat) : Int).tmod 16 = ((t % 16 : Nat) : Int) := by
 rw [Int.tmod_eq_emod_of_nonneg (by omega)]; rfl
theorem bv9 (b : List Int) (hb : In 256 b) (hl : b.length = 16 * 4) (rd : Int) (t0 t1 t2 t3 h1 h2 : List Int) {ρ : Type} (k0 : List Int → Int → Int → Int → Int → List Int → List Int → List Int → List Int → List Int → List Int → List Int → Option ρ) :
    P.aal b 4 0 32 rd t0 t1 t2 t3 h1 h2 (List.replicate 16 0) k0 = k0 b 4 16 32 rd t0 t1 t2 t3 h1 h2 (cv (mg 32 b 16)) := by
 rw [P.ag3]
 unfold P.adw P.by0 P.btp P.b45
 refine ug (fun i => (b, 4, (i : Int), 32, rd, t0, t1, t2, t3, h1, h2, cv (mg 32 b i) ++ List.replicate (16 - i) 0)) 16 (by simp [mg, cv]) (fun i hi next hn' => ?_) (fun next => ?_) (by omega)
 ·simp only [P.aam, toNat_cast]
  have e1 : IntKind.i64.wrap ((i : Int) * 4) = ((i * 4 : Nat) : Int) := by rw [og (by omega) (by omega)]; omega
  have e2 : IntKind.i64.wrap (IntKind.i64.wrap ((i : Int) + 1) * 4) = (((i + 1) * 4 : Nat) : Int) := by rw [og (x := (i : Int) + 1) (by omega) (by omega), og (by omega) (by omega)]; omega
  rw [e1, e2]
  simp only [toNat_cast]
  have hlen : ((b.take ((i + 1) * 4)).drop (i * 4)).length = 4 := by simp; omega
  rw [bg (by omega), bg (by omega), bg (by omega), bg (by omega), yx _ ((hb.take _).drop _) (by omega), bg (by omega), bg (by omega)]
  have e3 : IntKind.u32.wrap ((T 8 ((b.take ((i + 1) * 4)).drop (i * 4)).reverse % 2 ^ 64 : Nat) : Int) = (((BitVec.ofNat 32 (T 8 ((b.take ((i + 1) * 4)).drop (i * 4)).reverse)).toNat : Nat) : Int) := by
   rw [btk, BitVec.toNat_ofNat]; omega
  have e4 : IntKind.i64.wrap ((i : Int) + 1) = ((i + 1 : Nat) : Int) := by rw [og (by omega) (by omega)]; omega
  rw [e3, e4]
  have e5 : (cv (mg 32 b i) ++ List.replicate (16 - i) (0 : Int)).set i (((BitVec.ofNat 32 (T 8 ((b.take ((i + 1) * 4)).drop (i * 4)).reverse)).toNat : Nat) : Int) = cv (mg 32 b (i + 1)) ++ List.replicate (16 - (i + 1)) 0 := by
   rw [List.set_append_right _ _ (by simp [qo]), x9, qo, Nat.sub_self, show 16 - i = (16 - (i + 1)) + 1 by omega, List.replicate_succ, List.set_cons_zero, awz, ← agu, List.append_assoc]
   rfl
  rw [e5]
  exact hn'
 ·simp only [P.aam]
  rw [dx (by omega)]
  simp
theorem bqz (l v : List (BitVec 32)) (hv : v.length = 8) (h2 h1 : List Int) {ρ : Type} (k0 : Int → Int → List Int → List Int → List Int → Int → Int → List Int → List Int → List Int → List Int → List Int → Option ρ) (hl : l.length = 16) :
    P.um 64 0 (cv (win p32 l 0)) h2 h1 32 64 [7, 18, 3] [17, 19, 10] [2, 13, 22] [6, 11, 25] (cv v) k0 =
     k0 64 64 (cv (win p32 l 64)) h2 h1 32 64 [7, 18, 3] [17, 19, 10] [2, 13, 22] [6, 11, 25] (cv (runs p32 l v 64)) := by
 rw [P.agq]
 unfold P.aci P.b0c P.bu5 P.b41
 refine ug (fun t => (64, (t : Int), cv (win p32 l t), h2, h1, 32, 64, [7, 18, 3], [17, 19, 10], [2, 13, 22], [6, 11, 25], cv (runs p32 l v t))) 64 rfl (fun t ht next hn' => ?_) (fun next => ?_) (by omega)
 ·simp only [P.zq]
  have e1 : IntKind.i64.wrap ((t : Int) + 1) = ((t + 1 : Nat) : Int) := by rw [og (by omega) (by omega)]; omega
  have e9 : IntKind.i64.wrap ((t : Int) + 9) = ((t + 9 : Nat) : Int) := by rw [og (by omega) (by omega)]; omega
  have e14 : IntKind.i64.wrap ((t : Int) + 14) = ((t + 14 : Nat) : Int) := by rw [og (by omega) (by omega)]; omega
  simp only [e1, e9, e14, b88, toNat_cast, ag2]
  have g0 := at0 p32 l t 0 (by omega)
  rw [Nat.add_zero] at g0
  rw [g0, at0 p32 l t 1 (by omega), at0 p32 l t 9 (by omega), at0 p32 l t 14 (by omega)]
  have hV := v8 _ (anw p32 l v hv t)
  rw [bg (by omega), bg (by omega), bg (by omega), bj3, bn7 t ht, bkr, bg (by omega), bg (by omega), bnr, bg (by omega), bg (by omega), bg (by omega), bg (by omega), bni, bg (by omega), bg (by omega)]
  simp only [add32, bcp, b29, b9l]
  rw [← bic p32 l hl t, ba0, biq]
  have hr : cv (runs p32 l v (t + 1)) = (((List.take 1 (cv (runs p32 l v t))).append (List.take 7 (List.take 7 (List.drop 0 (cv (runs p32 l v t)))) ++ List.drop (1 + min 7 (List.take 7 (List.drop 0 (cv (runs p32 l v t)))).length) (cv (runs p32 l v t)))).set 4
      (((runs p32 l v t).getD 3 0 + bsp p32 t (W p32 l t) (runs p32 l v t)).toNat : Int)).set 0 ((bsp p32 t (W p32 l t) (runs p32 l v t) + b5t p32 (runs p32 l v t)).toNat : Int) := by
   rw [hV]
   rfl
  have h3 : ((List.take 1 (cv (runs p32 l v t))).append (List.take 7 (List.take 7 (List.drop 0 (cv (runs p32 l v t)))) ++ List.drop (1 + min 7 (List.take 7 (List.drop 0 (cv (runs p32 l v t)))).length) (cv (runs p32 l v t)))).getD 4 0 = (((runs p32 l v t).getD 3 0).toNat : Int) := by
   rw [hV]
   rfl
  rw [h3, add32]
  rw [hr] at hn'
  exact hn'
 ·simp only [P.zq]
  rw [dx (by omega)]
  rfl
theorem brs (v u : List (BitVec 32)) (hv : v.length = 8) (hu : u.length = 8) (h2 : List Int) {ρ : Type} (k0 : Int → List Int → List Int → List Int → Option ρ) :
    P.vv 0 (cv v) h2 (cv u) k0 = k0 8 (cv v) h2 (cv ((List.range 8).map fun i => u.getD i 0 + v.getD i 0)) := by
 rw [P.agi]
 unfold P.ac1 P.b0a P.bv3 P.b3j
 have hs : ∀ i, i ≤ 8 → (((List.range i).map fun i => u.getD i 0 + v.getD i 0) ++ u.drop i).length = 8 := fun i hi => by simp; omega
 refine ug (fun i => ((i : Int), cv v, h2, cv (((List.range i).map fun i => u.getD i 0 + v.getD i 0) ++ u.drop i))) 8 (by simp) (fun i hi next hn' => ?_) (fun next => ?_) (by omega)
 ·simp only [P.aah, toNat_cast, ag2]
  have e1 : IntKind.i64.wrap ((i : Int) + 1) = ((i + 1 : Nat) : Int) := by rw [og (by omega) (by omega)]; omega
  have e2 : (((List.range i).map fun i => u.getD i 0 + v.getD i 0) ++ u.drop i).getD i 0 = u.getD i 0 := by
   rw [List.getD_eq_getElem?_getD, List.getElem?_append_right (by simp), List.getElem?_drop, List.length_map, List.length_range, List.getD_eq_getElem?_getD]
   congr 2
   omega
  rw [e1, e2, add32, ba0]
  have e3 : (((List.range i).map fun i => u.getD i 0 + v.getD i 0) ++ u.drop i).set i (u.getD i 0 + v.getD i 0) = ((List.range (i + 1)).map fun i => u.getD i 0 + v.getD i 0) ++ u.drop (i + 1) := by
   rw [List.set_append_right _ _ (by simp), List.length_map, List.length_range, Nat.sub_self, List.range_succ, List.map_append, List.append_assoc, List.drop_eq_getElem_cons (by omega), List.set_cons_zero]
   rfl
  rw [e3]
  simp (disch := omega) only [bg, dx, gq, cu, fq, fu, jf, mo, ru, og]
  exact hn'
 ·simp only [P.aah]
  rw [dx (by omega), List.drop_eq_nil_of_le (by omega), List.append_nil]
  rfl
theorem bj4 (v : List (BitVec 32)) (hv : v.length = 8) (b : List Int) (hb : In 256 b) (hl : b.length = 16 * 4) {ρ : Type} (k : List Int → Option ρ) :
    P.l6 32 64 [7, 18, 3] [17, 19, 10] [2, 13, 22] [6, 11, 25] (cv v) b k = k (cv (avv p32 v b)) := by
 rw [P.adv]
 unfold P.aag
 rw [show IntKind.i64.wrap ((32 : Int).tdiv 8) = 4 from rfl]
 have := bv9 b hb hl 64 [7, 18, 3] [17, 19, 10] [2, 13, 22] [6, 11, 25] (cv v) (List.replicate 8 0) (fun (q0 : List Int) (q1 q2 q3 q4 : Int) (q5 q6 q7 q8 q9 q10 q11 : List Int) =>
  P.um q4 (0 : Int) q11 q10 q9 q3 q4 q5 q6 q7 q8 q9
   fun (q12 q13 : Int) (q14 q15 q16 : List Int) (q17 q18 : Int) (q19 q20 q21 q22 q23 : List Int) =>
   P.vv (0 : Int) q16 q15 q23 fun (q24 : Int) (q25 q26 q27 : List Int) => k q27)
 refine this.trans ?_
 rw [← win_zero p32, bqz _ v hv _ _ _ (qo b 16), brs v _ hv (anw _ _ _ hv _)]
 rfl
end Q
end

section
/- SHA-2: the document's block of words of 32 bits. -/
namespace Q
open Go Go.Abs
set_option linter.unusedVariables false
set_option linter.unusedSimpArgs false
theorem ad2 (b : List Int) (hb : In 256 b) (hn : b.length ≤ 1000000) {ρ : Type} (k : Int → Option ρ) : P.ad2 b k = k ((T 8 b.reverse % 2 ^ 64 : Nat) : Int) := by
 rw [P.ay6]
 unfold P.aqk
 rw [P.bbr]
 unfold P.az5 P.bz2 P.bw0 P.b7r
 refine ug (fun i => (b, ((T 8 (b.take i).reverse % 2 ^ 64 : Nat) : Int), (i : Int))) b.length (by simp [T]) (fun i hi next hn' => ?_) (fun next => ?_) (by omega)
 ·obtain ⟨x, hx, hx2, hx3⟩ := byte_at hb i
  have est := bcg b i hi
  rw [← hx3] at est
  simp only [P.as8, toNat_cast]
  have e1 : IntKind.u64.wrap (IntKind.u64.wrap (((T 8 (b.take i).reverse % 2 ^ 64 : Nat) : Int) * 256) + IntKind.u64.wrap (x : Int)) = ((T 8 (b.take (i + 1)).reverse % 2 ^ 64 : Nat) : Int) := by
   rw [bli, bli, bli, est]; omega
  rw [hx, e1]
  simp (disch := omega) only [bg, dx, gq, cu, fq, fu, jf, mo, ru, og]
  exact hn'
 ·simp only [P.as8]
  rw [dx (by omega), List.take_length]
theorem amf (x m : Int) (n : Nat) (hm : m = (n : Int)) (hn : n ≤ 32) : ∃ q, ∀ {ρ : Type} (k : Int → Option ρ), P.zu x m false k = k q := by
 subst hm
 refine ⟨bits .or .u64 (x.fdiv ((2 : Int) ^ min ((n : Int)).toNat 64)) (bits .and .u64 (IntKind.u64.wrap (x * (2 : Int) ^ min ((32 : Int) - (n : Int)).toNat 64)) 4294967295), fun k => ?_⟩
 rw [P.ai2]
 unfold P.afg
 rw [ru, dx (by omega), og (by omega) (by omega), dx (by omega)]
theorem bkk (x a b c : Int) (l m n : Nat) (ha : a = (l : Int)) (hb : b = (m : Int)) (hc : c = (n : Int)) (h1 : l ≤ 32) (h2 : m ≤ 32) (h3 : n ≤ 32) : ∃ q, ∀ {ρ : Type} (k : Int → Option ρ), P.zo x a b c false false k = k q := by
 obtain ⟨q1, e1⟩ := amf x a l ha h1
 obtain ⟨q2, e2⟩ := amf x b m hb h2
 obtain ⟨q3, e3⟩ := amf x c n hc h3
 refine ⟨bits .xor .u64 (bits .xor .u64 q1 q2) q3, fun k => ?_⟩
 rw [P.afr]
 unfold P.adg
 rw [dx (by omega), jf, ru, e3, e1, e2]
theorem bhn (x a b c : Int) (l m n : Nat) (ha : a = (l : Int)) (hb : b = (m : Int)) (hc : c = (n : Int)) (h1 : l ≤ 32) (h2 : m ≤ 32) (h3 : n ≤ 32) : ∃ q, ∀ {ρ : Type} (k : Int → Option ρ), P.zo x a b c true false k = k q := by
 obtain ⟨q1, e1⟩ := amf x a l ha h1
 obtain ⟨q2, e2⟩ := amf x b m hb h2
 refine ⟨bits .xor .u64 (bits .xor .u64 q1 q2) (x.fdiv ((2 : Int) ^ min c.toNat 64)), fun k => ?_⟩
 rw [P.afr]
 unfold P.adg
 rw [dx (by omega), jf, mo, e1, e2]
theorem anl (x : BitVec 32) (m : Int) (n : Nat) (hm : m = (n : Int)) (hn : n ≤ 32) {ρ : Type} (k : Int → Option ρ) : P.zu (x.toNat : Int) m false k = k ((rr x n).toNat : Int) := by
 subst hm
 rw [P.ai2]
 unfold P.afg
 rw [ru, dx (by omega), og (by omega) (by omega), dx (by omega), show (32 : Int) - (n : Int) = ((32 - n : Nat) : Int) by omega]
 simp only [toNat_cast]
 rw [b95 _ _ (by omega), nshl _ _ (by omega), nor]
 rfl
theorem bpr (x : BitVec 32) (t : Nat × Nat × Nat) (a b c : Int) (ha : a = (t.1 : Int)) (hb : b = (t.2.1 : Int)) (hc : c = (t.2.2 : Int)) (h1 : t.1 ≤ 32) (h2 : t.2.1 ≤ 32) (h3 : t.2.2 ≤ 32) {ρ : Type} (k : Int → Option ρ) :
    P.zo (x.toNat : Int) a b c false false k = k ((hi t x).toNat : Int) := by
 rw [P.afr]
 unfold P.adg
 rw [dx (by omega), jf, ru, anl _ _ _ hc h3, anl _ _ _ ha h1, anl _ _ _ hb h2, bpz, bpz]
 rfl
theorem bpy (x : BitVec 32) (t : Nat × Nat × Nat) (a b c : Int) (ha : a = (t.1 : Int)) (hb : b = (t.2.1 : Int)) (hc : c = (t.2.2 : Int)) (h1 : t.1 ≤ 32) (h2 : t.2.1 ≤ 32) (h3 : t.2.2 ≤ 32) {ρ : Type} (k : Int → Option ρ) :
    P.zo (x.toNat : Int) a b c true false k = k ((lo t x).toNat : Int) := by
 rw [P.afr]
 unfold P.adg
 rw [dx (by omega), jf, mo, anl _ _ _ ha h1, anl _ _ _ hb h2, bpz, hc]
 simp only [toNat_cast]
 rw [b95 _ _ (by omega), bpz]
 rfl
theorem b6x (a b c d : BitVec 32) : bits .and .u64 (IntKind.u64.wrap (IntKind.u64.wrap (IntKind.u64.wrap ((a.toNat : Int) + (b.toNat : Int)) + (c.toNat : Int)) + (d.toNat : Int))) 4294967295 = ((a + b + c + d).toNat : Int) := by
 have ha := avr a
 have hb := avr b
 have hc := avr c
 have hd := avr d
 rw [← Int.natCast_add, agx _ (by omega), ← Int.natCast_add, agx _ (by omega), ← Int.natCast_add, agx _ (by omega), bmf _ (by omega), BitVec.toNat_add, BitVec.toNat_add, BitVec.toNat_add]
 omega
theorem b4y (a b : BitVec 32) : bits .and .u64 (IntKind.u64.wrap ((a.toNat : Int) + (b.toNat : Int))) 4294967295 = ((a + b).toNat : Int) := by
 have ha := avr a
 have hb := avr b
 rw [← Int.natCast_add, agx _ (by omega), bmf _ (by omega), BitVec.toNat_add]
theorem b3f (d a b c e f : BitVec 32) : bits .and .u64 (IntKind.u64.wrap ((d.toNat : Int) + IntKind.u64.wrap (IntKind.u64.wrap (IntKind.u64.wrap (IntKind.u64.wrap ((a.toNat : Int) + (b.toNat : Int)) + (c.toNat : Int)) + (e.toNat : Int)) + (f.toNat : Int)))) 4294967295 = ((d + (a + b + c + e + f)).toNat : Int) := by
 have hd := avr d
 have ha := avr a
 have hb := avr b
 have hc := avr c
 have he := avr e
 have hf := avr f
 rw [← Int.natCast_add, agx _ (by omega), ← Int.natCast_add, agx _ (by omega), ← Int.natCast_add, agx _ (by omega), ← Int.natCast_add, agx _ (by omega), ← Int.natCast_add, agx _ (by omega), bmf _ (by omega), BitVec.toNat_add, BitVec.toNat_add, BitVec.toNat_add, BitVec.toNat_add, BitVec.toNat_add]
 omega
theorem b7e (a b c e f g h : BitVec 32) : bits .and .u64 (IntKind.u64.wrap (IntKind.u64.wrap (IntKind.u64.wrap (IntKind.u64.wrap (IntKind.u64.wrap ((a.toNat : Int) + (b.toNat : Int)) + (c.toNat : Int)) + (e.toNat : Int)) + (f.toNat : Int)) + IntKind.u64.wrap ((g.toNat : Int) + (h.toNat : Int)))) 4294967295 = (((a + b + c + e + f) + (g + h)).toNat : Int) := by
 have ha := avr a
 have hb := avr b
 have hc := avr c
 have he := avr e
 have hf := avr f
 have hg := avr g
 have hh := avr h
 rw [← Int.natCast_add, agx _ (by omega), ← Int.natCast_add, agx _ (by omega), ← Int.natCast_add, agx _ (by omega), ← Int.natCast_add, agx _ (by omega), ← Int.natCast_add (g.toNat), agx _ (by omega), ← Int.natCast_add, agx _ (by omega), bmf _ (by omega), BitVec.toNat_add, BitVec.toNat_add, BitVec.toNat_add, BitVec.toNat_add, BitVec.toNat_add, BitVec.toNat_add]
 omega
theorem b5q (e f g : BitVec 32) : bits .xor .u64 (bits .and .u64 (e.toNat : Int) (f.toNat : Int)) (bits .and .u64 (bits .xor .u64 4294967295 (e.toNat : Int)) (g.toNat : Int)) = ((g ^^^ (e &&& (f ^^^ g))).toNat : Int) := by
 rw [show (4294967295 : Int) = ((BitVec.allOnes 32).toNat : Int) from rfl, nand, bpz, nand, bpz, bub]
theorem buj (a b c : BitVec 32) : bits .xor .u64 (bits .xor .u64 (bits .and .u64 (a.toNat : Int) (b.toNat : Int)) (bits .and .u64 (a.toNat : Int) (c.toNat : Int))) (bits .and .u64 (b.toNat : Int) (c.toNat : Int)) = (((a &&& b) ||| (c &&& (a ||| b))).toNat : Int) := by
 rw [nand, nand, nand, bpz, bpz, bp0]
def avj (b : List Int) (t : Nat) : List (BitVec 32) := (List.range t).map (W p32 (mg 32 b 16))
theorem ay9 (b : List Int) (t : Nat) : avj b (t + 1) = avj b t ++ [W p32 (mg 32 b 16) t] := by simp [avj, List.range_succ]
theorem beu (b : List Int) (t : Nat) : (avj b t).length = t := by simp [avj]
theorem arp (b : List Int) (t i : Nat) (h : i < t) : (avj b t).getD i 0 = W p32 (mg 32 b 16) i := by
 unfold avj
 rw [getD_lt (by simpa using h)]; simp
theorem br8 (b : List Int) (t : Nat) (h : t < 16) : W p32 (mg 32 b 16) t = BitVec.ofNat 32 (T 8 ((b.take ((t + 1) * 4)).drop (t * 4)).reverse) := by
 rw [← bpg p32 _ (by rw [qo]; omega) 0 t (by rw [qo]; omega), show sched p32 (mg 32 b 16) 0 = mg 32 b 16 from rfl, getD_lt (by rw [qo]; exact h)]
 simp [mg]
theorem bmn (b : List Int) (hb : In 256 b) (hl : b.length = 16 * 4) {ρ : Type} (k : List Int → Option ρ) : P.acv b false 64 4294967295 k = k (cv (avj b 64)) := by
 rw [P.ana]
 unfold P.ahm
 rw [ru, P.am1]
 unfold P.anv P.byj P.bsf P.bzw
 refine ug (fun t => (b, false, 64, 4294967295, 4, (t : Int), cv (avj b t))) 64 rfl (fun t ht next hn' => ?_) (fun next => ?_) (by omega)
 ·simp only [P.agh, toNat_cast]
  have e1 : IntKind.i64.wrap ((t : Int) + 1) = ((t + 1 : Nat) : Int) := by rw [og (by omega) (by omega)]; omega
  rw [bg (by omega)]
  have hlen := beu b t
  by_cases h16 : t < 16
  ·have e2 : IntKind.i64.wrap ((t : Int) * 4) = ((t * 4 : Nat) : Int) := by rw [og (by omega) (by omega)]; omega
   have e3 : IntKind.i64.wrap (IntKind.i64.wrap ((t : Int) * 4) + 4) = (((t + 1) * 4 : Nat) : Int) := by rw [e2, og (by omega) (by omega)]; omega
   have hl2 : ((b.take ((t + 1) * 4)).drop (t * 4)).length = 4 := by simp; omega
   rw [bg (by omega), e3, e2, bg (by omega), bg (by omega), bg (by omega)]
   simp only [toNat_cast]
   have hT := bv0 8 ((b.take ((t + 1) * 4)).drop (t * 4)).reverse
   rw [List.length_reverse, hl2] at hT
   have e4 : ((T 8 ((b.take ((t + 1) * 4)).drop (t * 4)).reverse % 2 ^ 64 : Nat) : Int) = ((W p32 (mg 32 b 16) t).toNat : Int) := by
    rw [br8 b t h16, BitVec.toNat_ofNat, Nat.mod_eq_of_lt (by omega), Nat.mod_eq_of_lt (by omega)]
   rw [ad2 _ ((hb.take _).drop _) (by omega), bg (by rw [x9]; omega), e4, e1, show [((W p32 (mg 32 b 16) t).toNat : Int)] = cv [W p32 (mg 32 b 16) t] from rfl, agu, ← ay9]
   exact hn'
  ·have e15 : IntKind.i64.wrap ((t : Int) - 15) = ((t - 15 : Nat) : Int) := by rw [og (by omega) (by omega)]; omega
   have e2 : IntKind.i64.wrap ((t : Int) - 2) = ((t - 2 : Nat) : Int) := by rw [og (by omega) (by omega)]; omega
   have e7 : IntKind.i64.wrap ((t : Int) - 7) = ((t - 7 : Nat) : Int) := by rw [og (by omega) (by omega)]; omega
   have e16 : IntKind.i64.wrap ((t : Int) - 16) = ((t - 16 : Nat) : Int) := by rw [og (by omega) (by omega)]; omega
   simp only [e15, e2, e7, e16, toNat_cast, ag2, x9, hlen]
   rw [arp b t _ (by omega), arp b t _ (by omega), arp b t _ (by omega), arp b t _ (by omega)]
   rw [dx (by omega), bg (by omega), bg (by omega), bpy _ p32.a _ _ _ (by rfl) (by rfl) (by rfl) (by decide) (by decide) (by decide), bg (by omega), bg (by omega), bpy _ p32.b _ _ _ (by rfl) (by rfl) (by rfl) (by decide) (by decide) (by decide), ru]
   have hW := bic p32 (mg 32 b 16) (qo b 16) (t - 16)
   rw [show t - 16 + 16 = t by omega, show t - 16 + 1 = t - 15 by omega, show t - 16 + 9 = t - 7 by omega, show t - 16 + 14 = t - 2 by omega] at hW
   have hW2 : lo p32.b (W p32 (mg 32 b 16) (t - 2)) + W p32 (mg 32 b 16) (t - 7) + lo p32.a (W p32 (mg 32 b 16) (t - 15)) + W p32 (mg 32 b 16) (t - 16) = W p32 (mg 32 b 16) t := by rw [hW]; ac_rfl
   rw [bg (by omega), bg (by omega), bg (by omega), bg (by omega), bg (by omega), b6x, hW2, e1, show [((W p32 (mg 32 b 16) t).toNat : Int)] = cv [W p32 (mg 32 b 16) t] from rfl, agu, ← ay9]
   exact hn'
 ·simp only [P.agh]
  rw [dx (by omega)]
theorem bp8 (b : List Int) (v : List (BitVec 32)) (hv : v.length = 8) (h0 h1 : List Int) {ρ : Type} (k0 : Bool → Int → Int → Int → List Int → List Int → List Int → List Int → List Int → List Int → Option ρ) :
    P.afb false 64 4294967295 0 h0 h1 P.roots256 P.roots512 (cv (avj b 64)) (cv v) k0 = k0 false 64 4294967295 64 h0 h1 P.roots256 P.roots512 (cv (avj b 64)) (cv (runs p32 (mg 32 b 16) v 64)) := by
 rw [P.alp]
 unfold P.ak9 P.buv P.bsg P.by6
 refine ug (fun t => (false, 64, 4294967295, (t : Int), h0, h1, P.roots256, P.roots512, cv (avj b 64), cv (runs p32 (mg 32 b 16) v t))) 64 rfl (fun t ht next hn' => ?_) (fun next => ?_) (by omega)
 ·simp only [P.aff]
  have e1 : IntKind.i64.wrap ((t : Int) + 1) = ((t + 1 : Nat) : Int) := by rw [og (by omega) (by omega)]; omega
  have hlen := beu b 64
  simp only [e1, toNat_cast, ag2, x9, hlen]
  rw [arp b 64 t ht, K32]
  rw [bg (by omega), bpr _ p32.c _ _ _ (by rfl) (by rfl) (by rfl) (by decide) (by decide) (by decide), bpr _ p32.d _ _ _ (by rfl) (by rfl) (by rfl) (by decide) (by decide) (by decide), ru]
  rw [bg (by omega), bg (by omega), bg (by omega), bg (by omega), b5q, buj, b7e, b3f]
  exact hn'
 ·simp only [P.aff]
  rw [dx (by omega)]
  rfl
theorem brd (v u : List (BitVec 32)) (hv : v.length = 8) (hu : u.length = 8) (h1 : List Int) {ρ : Type} (k0 : Int → Int → List Int → List Int → List Int → Option ρ) :
    P.ae9 4294967295 0 (cv v) h1 (cv u) k0 = k0 4294967295 8 (cv v) h1 (cv ((List.range 8).map fun i => u.getD i 0 + v.getD i 0)) := by
 rw [P.alq]
 unfold P.aku P.bxh P.bsv P.bzy
 refine ug (fun i => (4294967295, (i : Int), cv v, h1, cv (((List.range i).map fun i => u.getD i 0 + v.getD i 0) ++ u.drop i))) 8 (by simp) (fun i hi next hn' => ?_) (fun next => ?_) (by omega)
 ·simp only [P.ae3, toNat_cast, ag2]
  have e1 : IntKind.i64.wrap ((i : Int) + 1) = ((i + 1 : Nat) : Int) := by rw [og (by omega) (by omega)]; omega
  have e2 : (((List.range i).map fun i => u.getD i 0 + v.getD i 0) ++ u.drop i).getD i 0 = u.getD i 0 := by
   rw [List.getD_eq_getElem?_getD, List.getElem?_append_right (by simp), List.getElem?_drop, List.length_map, List.length_range, List.getD_eq_getElem?_getD]
   congr 2
   omega
  rw [e1, e2, b4y, ba0]
  have e3 : (((List.range i).map fun i => u.getD i 0 + v.getD i 0) ++ u.drop i).set i (u.getD i 0 + v.getD i 0) = ((List.range (i + 1)).map fun i => u.getD i 0 + v.getD i 0) ++ u.drop (i + 1) := by
   rw [List.set_append_right _ _ (by simp), List.length_map, List.length_range, Nat.sub_self, List.range_succ, List.map_append, List.append_assoc, List.drop_eq_getElem_cons (by omega), List.set_cons_zero]
   rfl
  rw [e3]
  simp (disch := omega) only [bg, dx, gq, cu, fq, fu, jf, mo, ru, og]
  exact hn'
 ·simp only [P.ae3]
  rw [dx (by omega), List.drop_eq_nil_of_le (by omega), List.append_nil]
  rfl
theorem bkz (v : List (BitVec 32)) (hv : v.length = 8) (b : List Int) (hb : In 256 b) (hl : b.length = 16 * 4) {ρ : Type} (k : List Int → Option ρ) : P.ad4 (cv v) b false k = k (cv (avv p32 v b)) := by
 rw [P.ant]
 unfold P.ahp
 have hr1 : ∀ (k : List Int → Option ρ), P.zf k = k P.roots256 := fun k => by rw [P.aia]; kernel_rfl
 have hr2 : ∀ (k : List Int → Option ρ), P.zi k = k P.roots512 := fun k => by rw [P.aiv]; kernel_rfl
 rw [hr1, hr2, ru, bmn b hb hl, bp8 b v hv, brd v _ hv (anw _ _ _ hv _)]
 rfl
end Q
end

section
/- SHA-2: the program's engine of 64 bits. -/
namespace Q
open Go Go.Abs
set_option linter.unusedVariables false
set_option linter.unusedSimpArgs false
theorem ajt (rd : Int) (t0 t1 t2 t3 : List Int) (x : BitVec 64) (m : Int) (n : Nat) (hm : m = (n : Int)) (hn : n ≤ 64) {ρ : Type} (k : Int → Option ρ) :
    P.dh 64 rd t0 t1 t2 t3 (x.toNat : Int) m k = k ((rr x n).toNat : Int) := by
 subst hm
 rw [P.ab9]
 unfold P.yj
 rw [dx (by omega), og (by omega) (by omega), dx (by omega), show (64 : Int) - (n : Int) = ((64 - n : Nat) : Int) by omega]
 simp only [toNat_cast]
 rw [bjf _ _ hn, bqd _ _ (by omega), byx]
 rfl
theorem bki (rd : Int) (x : BitVec 64) {ρ : Type} (k : Int → Option ρ) : P.jo 64 rd [1, 8, 7] [19, 61, 6] [28, 34, 39] [14, 18, 41] (x.toNat : Int) 3 k = k ((hi p64.d x).toNat : Int) := by
 rw [P.aax]
 unfold P.wh
 simp only [List.getD_cons_zero, List.getD_cons_succ]
 rw [dx (by decide), dx (by decide), dx (by decide), bg (by decide), ajt _ _ _ _ _ _ _ 14 (by rfl) (by omega), ajt _ _ _ _ _ _ _ 18 (by rfl) (by omega), ajt _ _ _ _ _ _ _ 41 (by rfl) (by omega), alh, alh]
 rfl
theorem bl9 (rd : Int) (x : BitVec 64) {ρ : Type} (k : Int → Option ρ) : P.jo 64 rd [1, 8, 7] [19, 61, 6] [28, 34, 39] [14, 18, 41] (x.toNat : Int) 2 k = k ((hi p64.c x).toNat : Int) := by
 rw [P.aax]
 unfold P.wh
 simp only [List.getD_cons_zero, List.getD_cons_succ]
 rw [dx (by decide), dx (by decide), bg (by decide), ajt _ _ _ _ _ _ _ 28 (by rfl) (by omega), ajt _ _ _ _ _ _ _ 34 (by rfl) (by omega), ajt _ _ _ _ _ _ _ 39 (by rfl) (by omega), alh, alh]
 rfl
theorem bon (rd : Int) (x : BitVec 64) {ρ : Type} (k : Int → Option ρ) : P.ko 64 rd [1, 8, 7] [19, 61, 6] [28, 34, 39] [14, 18, 41] (x.toNat : Int) 0 k = k ((lo p64.a x).toNat : Int) := by
 rw [P.aa9]
 unfold P.xu
 simp only [List.getD_cons_zero, List.getD_cons_succ]
 rw [bg (by decide), ajt _ _ _ _ _ _ _ 1 (by rfl) (by omega), ajt _ _ _ _ _ _ _ 8 (by rfl) (by omega), dx (by decide), alh, show (7 : Int).toNat = 7 from rfl, bjf _ _ (by omega), alh]
 rfl
theorem bo5 (rd : Int) (x : BitVec 64) {ρ : Type} (k : Int → Option ρ) : P.ko 64 rd [1, 8, 7] [19, 61, 6] [28, 34, 39] [14, 18, 41] (x.toNat : Int) 1 k = k ((lo p64.b x).toNat : Int) := by
 rw [P.aa9]
 unfold P.xu
 simp only [List.getD_cons_zero, List.getD_cons_succ]
 rw [dx (by decide), bg (by decide), ajt _ _ _ _ _ _ _ 19 (by rfl) (by omega), ajt _ _ _ _ _ _ _ 61 (by rfl) (by omega), dx (by decide), alh, show (6 : Int).toNat = 6 from rfl, bjf _ _ (by omega), alh]
 rfl
theorem boj (t : Nat) (h : t < 80) {ρ : Type} (k : Int → Option ρ) : P.ou (t : Int) k = k ((p64.K t).toNat : Int) := by
 rw [P.aor]
 unfold P.aiz
 rw [bg (by omega), bg (by omega), toNat_cast, K64]
theorem btl (b : List Int) (hb : In 256 b) (hl : b.length = 16 * 8) (rd : Int) (t0 t1 t2 t3 h1 h2 : List Int) {ρ : Type} (k0 : List Int → Int → Int → Int → Int → List Int → List Int → List Int → List Int → List Int → List Int → List Int → Option ρ) :
    P.aao b 8 0 64 rd t0 t1 t2 t3 h1 h2 (List.replicate 16 0) k0 = k0 b 8 16 64 rd t0 t1 t2 t3 h1 h2 (cv (mg 64 b 16)) := by
 rw [P.aha]
 unfold P.adt P.bzt P.bvp P.b4v
 refine ug (fun i => (b, 8, (i : Int), 64, rd, t0, t1, t2, t3, h1, h2, cv (mg 64 b i) ++ List.replicate (16 - i) 0)) 16 (by simp [mg, cv]) (fun i hi next hn' => ?_) (fun next => ?_) (by omega)
 ·simp only [P.aan, toNat_cast]
  have e1 : IntKind.i64.wrap ((i : Int) * 8) = ((i * 8 : Nat) : Int) := by rw [og (by omega) (by omega)]; omega
  have e2 : IntKind.i64.wrap (IntKind.i64.wrap ((i : Int) + 1) * 8) = (((i + 1) * 8 : Nat) : Int) := by rw [og (x := (i : Int) + 1) (by omega) (by omega), og (by omega) (by omega)]; omega
  rw [e1, e2]
  simp only [toNat_cast]
  have hlen : ((b.take ((i + 1) * 8)).drop (i * 8)).length = 8 := by simp; omega
  rw [bg (by omega), bg (by omega), bg (by omega), bg (by omega), yx _ ((hb.take _).drop _) (by omega), bg (by omega), bg (by omega)]
  have e3 : ((T 8 ((b.take ((i + 1) * 8)).drop (i * 8)).reverse % 2 ^ 64 : Nat) : Int) = (((BitVec.ofNat 64 (T 8 ((b.take ((i + 1) * 8)).drop (i * 8)).reverse)).toNat : Nat) : Int) := by
   rw [BitVec.toNat_ofNat]
  have e4 : IntKind.i64.wrap ((i : Int) + 1) = ((i + 1 : Nat) : Int) := by rw [og (by omega) (by omega)]; omega
  rw [e3, e4]
  have e5 : (cv (mg 64 b i) ++ List.replicate (16 - i) (0 : Int)).set i (((BitVec.ofNat 64 (T 8 ((b.take ((i + 1) * 8)).drop (i * 8)).reverse)).toNat : Nat) : Int) = cv (mg 64 b (i + 1)) ++ List.replicate (16 - (i + 1)) 0 := by
   rw [List.set_append_right _ _ (by simp [qo]), x9, qo, Nat.sub_self, show 16 - i = (16 - (i + 1)) + 1 by omega, List.replicate_succ, List.set_cons_zero, awz, ← agu, List.append_assoc]
   rfl
  rw [e5]
  exact hn'
 ·simp only [P.aan]
  rw [dx (by omega)]
  simp
theorem bqb (l v : List (BitVec 64)) (hv : v.length = 8) (h2 h1 : List Int) {ρ : Type} (k0 : Int → Int → List Int → List Int → List Int → Int → Int → List Int → List Int → List Int → List Int → List Int → Option ρ) (hl : l.length = 16) :
    P.vk 80 0 (cv (win p64 l 0)) h2 h1 64 80 [1, 8, 7] [19, 61, 6] [28, 34, 39] [14, 18, 41] (cv v) k0 =
     k0 80 80 (cv (win p64 l 80)) h2 h1 64 80 [1, 8, 7] [19, 61, 6] [28, 34, 39] [14, 18, 41] (cv (runs p64 l v 80)) := by
 rw [P.agl]
 unfold P.ac0 P.bzv P.bt7 P.b1b
 refine ug (fun t => (80, (t : Int), cv (win p64 l t), h2, h1, 64, 80, [1, 8, 7], [19, 61, 6], [28, 34, 39], [14, 18, 41], cv (runs p64 l v t))) 80 rfl (fun t ht next hn' => ?_) (fun next => ?_) (by omega)
 ·simp only [P.zx]
  have e1 : IntKind.i64.wrap ((t : Int) + 1) = ((t + 1 : Nat) : Int) := by rw [og (by omega) (by omega)]; omega
  have e9 : IntKind.i64.wrap ((t : Int) + 9) = ((t + 9 : Nat) : Int) := by rw [og (by omega) (by omega)]; omega
  have e14 : IntKind.i64.wrap ((t : Int) + 14) = ((t + 14 : Nat) : Int) := by rw [og (by omega) (by omega)]; omega
  simp only [e1, e9, e14, b88, toNat_cast, ag2]
  have g0 := at0 p64 l t 0 (by omega)
  rw [Nat.add_zero] at g0
  rw [g0, at0 p64 l t 1 (by omega), at0 p64 l t 9 (by omega), at0 p64 l t 14 (by omega)]
  have hV := v8 _ (anw p64 l v hv t)
  rw [bg (by omega), bg (by omega), bg (by omega), bki, boj t ht, bl9, bg (by omega), bg (by omega), bon, bg (by omega), bg (by omega), bg (by omega), bg (by omega), bo5, bg (by omega), bg (by omega)]
  simp only [amc, alh, bgc, byx]
  rw [← bic p64 l hl t, ba0, biq]
  have hr : cv (runs p64 l v (t + 1)) = (((List.take 1 (cv (runs p64 l v t))).append (List.take 7 (List.take 7 (List.drop 0 (cv (runs p64 l v t)))) ++ List.drop (1 + min 7 (List.take 7 (List.drop 0 (cv (runs p64 l v t)))).length) (cv (runs p64 l v t)))).set 4
      (((runs p64 l v t).getD 3 0 + bsp p64 t (W p64 l t) (runs p64 l v t)).toNat : Int)).set 0 ((bsp p64 t (W p64 l t) (runs p64 l v t) + b5t p64 (runs p64 l v t)).toNat : Int) := by
   rw [hV]
   rfl
  have h3 : ((List.take 1 (cv (runs p64 l v t))).append (List.take 7 (List.take 7 (List.drop 0 (cv (runs p64 l v t)))) ++ List.drop (1 + min 7 (List.take 7 (List.drop 0 (cv (runs p64 l v t)))).length) (cv (runs p64 l v t)))).getD 4 0 = (((runs p64 l v t).getD 3 0).toNat : Int) := by
   rw [hV]
   rfl
  rw [h3, amc]
  rw [hr] at hn'
  exact hn'
 ·simp only [P.zx]
  rw [dx (by omega)]
  rfl
theorem bqt (v u : List (BitVec 64)) (hv : v.length = 8) (hu : u.length = 8) (h2 : List Int) {ρ : Type} (k0 : Int → List Int → List Int → List Int → Option ρ) :
    P.vg 0 (cv v) h2 (cv u) k0 = k0 8 (cv v) h2 (cv ((List.range 8).map fun i => u.getD i 0 + v.getD i 0)) := by
 rw [P.ags]
 unfold P.ach P.byt P.bx5 P.b3l
 have hs : ∀ i, i ≤ 8 → (((List.range i).map fun i => u.getD i 0 + v.getD i 0) ++ u.drop i).length = 8 := fun i hi => by simp; omega
 refine ug (fun i => ((i : Int), cv v, h2, cv (((List.range i).map fun i => u.getD i 0 + v.getD i 0) ++ u.drop i))) 8 (by simp) (fun i hi next hn' => ?_) (fun next => ?_) (by omega)
 ·simp only [P.aak, toNat_cast, ag2]
  have e1 : IntKind.i64.wrap ((i : Int) + 1) = ((i + 1 : Nat) : Int) := by rw [og (by omega) (by omega)]; omega
  have e2 : (((List.range i).map fun i => u.getD i 0 + v.getD i 0) ++ u.drop i).getD i 0 = u.getD i 0 := by
   rw [List.getD_eq_getElem?_getD, List.getElem?_append_right (by simp), List.getElem?_drop, List.length_map, List.length_range, List.getD_eq_getElem?_getD]
   congr 2
   omega
  rw [e1, e2, amc, ba0]
  have e3 : (((List.range i).map fun i => u.getD i 0 + v.getD i 0) ++ u.drop i).set i (u.getD i 0 + v.getD i 0) = ((List.range (i + 1)).map fun i => u.getD i 0 + v.getD i 0) ++ u.drop (i + 1) := by
   rw [List.set_append_right _ _ (by simp), List.length_map, List.length_range, Nat.sub_self, List.range_succ, List.map_append, List.append_assoc, List.drop_eq_getElem_cons (by omega), List.set_cons_zero]
   rfl
  rw [e3]
  simp (disch := omega) only [bg, dx, gq, cu, fq, fu, jf, mo, ru, og]
  exact hn'
 ·simp only [P.aak]
  rw [dx (by omega), List.drop_eq_nil_of_le (by omega), List.append_nil]
  rfl
theorem blr (v : List (BitVec 64)) (hv : v.length = 8) (b : List Int) (hb : In 256 b) (hl : b.length = 16 * 8) {ρ : Type} (k : List Int → Option ρ) :
    P.l9 64 80 [1, 8, 7] [19, 61, 6] [28, 34, 39] [14, 18, 41] (cv v) b k = k (cv (avv p64 v b)) := by
 rw [P.adu]
 unfold P.aad
 rw [show IntKind.i64.wrap ((64 : Int).tdiv 8) = 8 from rfl]
 have := btl b hb hl 80 [1, 8, 7] [19, 61, 6] [28, 34, 39] [14, 18, 41] (cv v) (List.replicate 8 0) (fun (q0 : List Int) (q1 q2 q3 q4 : Int) (q5 q6 q7 q8 q9 q10 q11 : List Int) =>
  P.vk q4 (0 : Int) q11 q10 q9 q3 q4 q5 q6 q7 q8 q9
   fun (q12 q13 : Int) (q14 q15 q16 : List Int) (q17 q18 : Int) (q19 q20 q21 q22 q23 : List Int) =>
   P.vg (0 : Int) q16 q15 q23 fun (q24 : Int) (q25 q26 q27 : List Int) => k q27)
 refine this.trans ?_
 rw [← win_zero p64, bqb _ v hv _ _ _ (qo b 16), bqt v _ hv (anw _ _ _ hv _)]
 rfl
end Q
end
