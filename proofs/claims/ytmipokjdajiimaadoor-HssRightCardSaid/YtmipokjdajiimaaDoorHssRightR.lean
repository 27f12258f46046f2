/-
  HssRight, part 18: an interpreter of my own over abstract values, the pure functions, the walks and the plain law.
-/

import Derived.Test.YtmipokjdajiimaaDoorHssRightH
import Derived.Laws.Bits64
import Derived.Test.YtmipokjdajiimaaDoorHssRightK
import Derived.Test.YtmipokjdajiimaaDoorHssRightJ
import Derived.Test.YtmipokjdajiimaaDoorHssRightI
import Derived.Test.YtmipokjdajiimaaDoorHssRightL

section
/- Small laws for the plain proofs. -/
namespace Q
open Go Go.Abs
set_option linter.unusedVariables false
def In (m : Int) (l : List Int) : Prop := ∀ x, x ∈ l → 0 ≤ x ∧ x < m
theorem wf_u8 {n : Int} (h : wfI .u8 n) : 0 ≤ n ∧ n < 256 := by
 simp [wfI, Lit.wf, IntKind.min, IntKind.max, IntKind.signed, IntKind.bits] at h; omega
theorem bs3 {l : List Int} (h : ∀ x, x ∈ l → wfI .u8 x) : In 256 l := fun x hx => wf_u8 (h x hx)
theorem In.tail {m x : Int} {l : List Int} (h : In m (x :: l)) : In m l := fun y hy => h y (List.mem_cons_of_mem _ hy)
theorem In.app {m : Int} {l r : List Int} (h1 : In m l) (h2 : In m r) : In m (l ++ r) := fun y hy => (List.mem_append.1 hy).elim (h1 y) (h2 y)
theorem In.left {m : Int} {l r : List Int} (h : In m (l ++ r)) : In m l := fun y hy => h y (List.mem_append_left _ hy)
theorem In.right {m : Int} {l r : List Int} (h : In m (l ++ r)) : In m r := fun y hy => h y (List.mem_append_right _ hy)
theorem In.take {m : Int} {l : List Int} (h : In m l) (n : Nat) : In m (l.take n) := fun y hy => h y (List.mem_of_mem_take hy)
theorem In.drop {m : Int} {l : List Int} (h : In m l) (n : Nat) : In m (l.drop n) := fun y hy => h y (List.mem_of_mem_drop hy)
theorem In.nil {m : Int} : In m [] := fun y hy => by simp at hy
theorem In.rev {m : Int} {l : List Int} (h : In m l) : In m l.reverse := fun y hy => h y (by simpa using hy)
theorem In.getD {m : Int} {l : List Int} (h : In m l) (i : Nat) (hm : 0 < m) : 0 ≤ l.getD i 0 ∧ l.getD i 0 < m := by
 rw [List.getD_eq_getElem?_getD]
 by_cases hi : i < l.length
 ·rw [List.getElem?_eq_getElem hi]; exact h _ (List.getElem_mem hi)
 ·rw [List.getElem?_eq_none (by omega)]; exact ⟨Int.le_refl 0, hm⟩
theorem In.map {m : Int} {α : Type} {l : List α} {f : α → Int} (h : ∀ a, a ∈ l → 0 ≤ f a ∧ f a < m) : In m (l.map f) := fun y hy => by
 obtain ⟨a, ha, rfl⟩ := List.mem_map.1 hy
 exact h a ha
theorem d9 {α : Type} {a b : Int} (h : ¬ a = b) (x y : α) : br (a != b) x y = x := by rw [bne_iff_ne.2 h]; exact o9 x y
theorem au {α : Type} {a b : Int} (h : a = b) (x y : α) : br (a != b) x y = y := by rw [bne_eq_false_iff_eq.2 h]; exact vo x y
theorem bq {α : Type} {a b : Int} (h : a = b) (x y : α) : br (a == b) x y = x := by rw [beq_iff_eq.2 h]; exact o9 x y
theorem ak {α : Type} {a b : Int} (h : ¬ a = b) (x y : α) : br (a == b) x y = y := by rw [beq_eq_false_iff_ne.2 h]; exact vo x y
theorem ji {α : Type} (b : Bool) (x y : α) : br (!b) x y = br b y x := by cases b <;> simp
theorem bnb {X Y ρ : Type} {stp : X → (X → Option ρ) → (Y → Option ρ) → Option ρ} {K : Y → Option ρ} {r : Option ρ} (S : Nat → X) (n : Nat)
    (hstep : ∀ i, i < n → ∀ next, next (S (i + 1)) = r → stp (S i) next K = r) (hend : ∀ next, stp (S n) next K = r) {i : Nat} (hi : i ≤ n) (hn : n ≤ 18446744073709551616) : lp stp (S i) K = r := by
 have key : ∀ m i, m + i = n → lpN stp K m (S i) = r ∧ ∀ q, m ≤ q → lpN stp K q (S i) = r := by
  intro m
  induction m with
  | zero =>
   intro i hi
   have : i = n := by omega
   subst this
   refine ⟨hend _, fun q _ => ?_⟩
   cases q with
   | zero => exact hend _
   | succ q => exact hend _
  | succ m ih =>
   intro i hi
   refine ⟨hstep i (by omega) _ (ih (i + 1) (by omega)).1, fun q hq => ?_⟩
   cases q with
   | zero => omega
   | succ q => exact hstep i (by omega) _ ((ih (i + 1) (by omega)).2 q (by omega))
 exact (key (n - i) i (by omega)).2 FU (by rw [buv]; omega)
theorem getD_lt {α : Type} {l : List α} {d : α} {i : Nat} (h : i < l.length) : l.getD i d = l[i] := by
 rw [List.getD_eq_getElem?_getD, List.getElem?_eq_getElem h]; rfl
theorem bsr {α : Type} {l : List α} {d : α} {i : Nat} (h : l.length ≤ i) : l.getD i d = d := by
 rw [List.getD_eq_getElem?_getD, List.getElem?_eq_none h]; rfl
theorem toNat_cast (n : Nat) : ((n : Int)).toNat = n := Int.toNat_natCast n
theorem bnp (f : Nat → Int) (i n : Nat) (h : i < n) (d : Int) : ((List.range i).map f ++ List.replicate (n - i) d).set i (f i) = (List.range (i + 1)).map f ++ List.replicate (n - (i + 1)) d := by
 rw [List.set_append_right _ _ (by simp), show n - i = (n - (i + 1)) + 1 by omega, List.replicate_succ]
 simp [List.range_succ]
theorem amz {α : Type} (f : Nat → α) (i : Nat) : (List.range i).map f ++ [f i] = (List.range (i + 1)).map f := by simp [List.range_succ]
theorem ais {α : Type} (l : List α) (d : α) (i : Nat) (h : i < l.length) : l.take i ++ [l.getD i d] = l.take (i + 1) := by
 rw [getD_lt h, List.take_add_one, List.getElem?_eq_getElem h]; rfl
theorem ado {α : Type} (l : List α) (d : α) (i : Nat) (h : i < l.length) : l.drop i = l.getD i d :: l.drop (i + 1) := by
 rw [getD_lt h]; exact List.drop_eq_getElem_cons h
end Q
end

section
/- The bit operations as numbers. -/
namespace Q
open Go Go.Abs
set_option linter.unusedVariables false
theorem b2g (x y : Nat) (hx : x < 256) (hy : y < 256) : bits .or .u8 (x : Int) (y : Int) = ((x ||| y : Nat) : Int) := by
 have h1 : x ||| y < 256 := Nat.or_lt_two_pow (n := 8) hx hy
 have e : bits .or .u8 (x : Int) (y : Int) = IntKind.u8.wrap ((BitVec.ofInt 8 (x : Int) ||| BitVec.ofInt 8 (y : Int)).toNat : Int) := rfl
 have e2 : (BitVec.ofInt 8 (x : Int) ||| BitVec.ofInt 8 (y : Int)).toNat = x ||| y := by
  rw [BitVec.toNat_or, BitVec.toNat_ofInt, BitVec.toNat_ofInt]; congr 1 <;> omega
 rw [e, e2]; exact IntWalk.u8_in _ ⟨by omega, by omega⟩
theorem bu7 (x y : Nat) (hx : x < 256) (hy : y < 256) : bits .xor .u8 (x : Int) (y : Int) = ((x ^^^ y : Nat) : Int) := by
 have h1 : x ^^^ y < 256 := Nat.xor_lt_two_pow (n := 8) hx hy
 have e : bits .xor .u8 (x : Int) (y : Int) = IntKind.u8.wrap ((BitVec.ofInt 8 (x : Int) ^^^ BitVec.ofInt 8 (y : Int)).toNat : Int) := rfl
 have e2 : (BitVec.ofInt 8 (x : Int) ^^^ BitVec.ofInt 8 (y : Int)).toNat = x ^^^ y := by
  rw [BitVec.toNat_xor, BitVec.toNat_ofInt, BitVec.toNat_ofInt]; congr 1 <;> omega
 rw [e, e2]; exact IntWalk.u8_in _ ⟨by omega, by omega⟩
theorem bu0 (x y : Nat) (hx : x < 256) (hy : y < 256) : bits .and .u8 (x : Int) (y : Int) = ((x &&& y : Nat) : Int) := by
 have h1 : x &&& y < 256 := Nat.and_lt_two_pow (n := 8) x hy
 have e : bits .and .u8 (x : Int) (y : Int) = IntKind.u8.wrap ((BitVec.ofInt 8 (x : Int) &&& BitVec.ofInt 8 (y : Int)).toNat : Int) := rfl
 have e2 : (BitVec.ofInt 8 (x : Int) &&& BitVec.ofInt 8 (y : Int)).toNat = x &&& y := by
  rw [BitVec.toNat_and, BitVec.toNat_ofInt, BitVec.toNat_ofInt]; congr 1 <;> omega
 rw [e, e2]; exact IntWalk.u8_in _ ⟨by omega, by omega⟩
theorem bmg (x y : Nat) (hx : x < 18446744073709551616) (hy : y < 18446744073709551616) : bits .or .u64 (x : Int) (y : Int) = ((x ||| y : Nat) : Int) := by
 have h1 : x ||| y < 18446744073709551616 := Nat.or_lt_two_pow (n := 64) hx hy
 have e : bits .or .u64 (x : Int) (y : Int) = IntKind.u64.wrap ((BitVec.ofInt 64 (x : Int) ||| BitVec.ofInt 64 (y : Int)).toNat : Int) := rfl
 have e2 : (BitVec.ofInt 64 (x : Int) ||| BitVec.ofInt 64 (y : Int)).toNat = x ||| y := by
  rw [BitVec.toNat_or, BitVec.toNat_ofInt, BitVec.toNat_ofInt]; congr 1 <;> omega
 rw [e, e2]; exact IntWalk.u64_in _ ⟨by omega, by omega⟩
theorem au6 (x y : Nat) (hx : x < 18446744073709551616) (hy : y < 18446744073709551616) : bits .and .u64 (x : Int) (y : Int) = ((x &&& y : Nat) : Int) := by
 have h1 : x &&& y < 18446744073709551616 := Nat.and_lt_two_pow (n := 64) x hy
 have e : bits .and .u64 (x : Int) (y : Int) = IntKind.u64.wrap ((BitVec.ofInt 64 (x : Int) &&& BitVec.ofInt 64 (y : Int)).toNat : Int) := rfl
 have e2 : (BitVec.ofInt 64 (x : Int) &&& BitVec.ofInt 64 (y : Int)).toNat = x &&& y := by
  rw [BitVec.toNat_and, BitVec.toNat_ofInt, BitVec.toNat_ofInt]; congr 1 <;> omega
 rw [e, e2]; exact IntWalk.u64_in _ ⟨by omega, by omega⟩
theorem btp (x y : Nat) (hx : x < 4294967296) (hy : y < 4294967296) : bits .and .u32 (x : Int) (y : Int) = ((x &&& y : Nat) : Int) := by
 have h1 : x &&& y < 4294967296 := Nat.and_lt_two_pow (n := 32) x hy
 have e : bits .and .u32 (x : Int) (y : Int) = IntKind.u32.wrap ((BitVec.ofInt 32 (x : Int) &&& BitVec.ofInt 32 (y : Int)).toNat : Int) := rfl
 have e2 : (BitVec.ofInt 32 (x : Int) &&& BitVec.ofInt 32 (y : Int)).toNat = x &&& y := by
  rw [BitVec.toNat_and, BitVec.toNat_ofInt, BitVec.toNat_ofInt]; congr 1 <;> omega
 rw [e, e2]; exact IntWalk.u32_in _ ⟨by omega, by omega⟩
theorem u8m (n : Int) : IntKind.u8.wrap n = n % 256 := by simp [IntKind.wrap, IntKind.bits, IntKind.signed]
theorem bua (n : Int) : IntKind.u32.wrap n = n % 4294967296 := by simp [IntKind.wrap, IntKind.bits, IntKind.signed]
theorem bo0 (n : Int) : IntKind.u64.wrap n = n % 18446744073709551616 := by simp [IntKind.wrap, IntKind.bits, IntKind.signed]
theorem xor_zero {x y : Nat} : x ^^^ y = 0 ↔ x = y := by
 constructor
 ·intro h
  have : (x ^^^ y) ^^^ y = x := by rw [Nat.xor_assoc, Nat.xor_self, Nat.xor_zero]
  rw [h, Nat.zero_xor] at this
  exact this.symm
 ·rintro rfl; exact Nat.xor_self _
theorem bi3 (a x i : Nat) (hx : x < 2 ^ i) : (a * 2 ^ i) ||| x = a * 2 ^ i + x := by
 rw [← Nat.shiftLeft_eq, Nat.shiftLeft_add_eq_or_of_lt hx]
end Q
end

section
/- Numbers and their digits, the lowest first. -/
namespace Q
open Go Go.Abs
set_option linter.unusedVariables false
def T (w : Nat) : List Int → Nat
 | [] => 0
 | x :: l => x.toNat % 2 ^ w + 2 ^ w * T w l
theorem p2 (n : Nat) : 0 < 2 ^ n := Nat.pow_pos (by omega)
theorem bs1 (w : Nat) : ∀ l : List Int, T w l < 2 ^ (w * l.length)
 | [] => by simp [T]
 | x :: l => by
  have ih := bs1 w l
  have h1 := Nat.mod_lt x.toNat (p2 w)
  rw [List.length_cons, Nat.mul_succ, Nat.add_comm, Nat.pow_add]
  simp only [T]
  have : 2 ^ w * (T w l + 1) ≤ 2 ^ w * 2 ^ (w * l.length) := Nat.mul_le_mul (Nat.le_refl _) ih
  rw [Nat.mul_add] at this
  omega
theorem auu (w : Nat) : ∀ a b : List Int, T w (a ++ b) = T w a + 2 ^ (w * a.length) * T w b
 | [], b => by simp [T]
 | x :: a, b => by
  rw [List.cons_append, T, T, auu w a b, List.length_cons, Nat.mul_succ, Nat.add_comm (w * a.length) w, Nat.pow_add, Nat.mul_add, Nat.mul_assoc]
  omega
theorem bvt (w : Nat) (l : List Int) (k : Nat) (h : k ≤ l.length) : T w l = T w (l.take k) + 2 ^ (w * k) * T w (l.drop k) := by
 have := auu w (l.take k) (l.drop k)
 rw [List.take_append_drop, List.length_take, Nat.min_eq_left h] at this
 exact this
theorem ay7 (w : Nat) (l : List Int) (k : Nat) (h : k ≤ l.length) : T w (l.drop k) = T w l / 2 ^ (w * k) := by
 have := bs1 w (l.take k)
 rw [List.length_take, Nat.min_eq_left h] at this
 rw [bvt w l k h, Nat.add_mul_div_left _ _ (p2 _), Nat.div_eq_of_lt this, Nat.zero_add]
theorem bw1 (w : Nat) (l : List Int) (k : Nat) : T w l / 2 ^ (w * k) % 2 ^ w = (l.getD k 0).toNat % 2 ^ w := by
 by_cases h : k < l.length
 ·rw [← ay7 w l k (by omega), ado l 0 k h, T, Nat.add_mul_mod_self_left, Nat.mod_mod]
 ·rw [bsr (by omega), Nat.div_eq_of_lt]
  ·rfl
  ·exact Nat.lt_of_lt_of_le (bs1 w l) (Nat.pow_le_pow_right (by omega) (Nat.mul_le_mul (Nat.le_refl _) (by omega)))
theorem qo {X Y ρ : Type} {stp : X → (X → Option ρ) → (Y → Option ρ) → Option ρ} {K : Y → Option ρ} {r : Option ρ} (S : Nat → X) (n : Nat) {x : X} (hx : x = S 0)
    (hstep : ∀ i, i < n → ∀ next, next (S (i + 1)) = r → stp (S i) next K = r) (hend : ∀ next, stp (S n) next K = r) (hn : n ≤ 18446744073709551616) : lp stp x K = r := by
 rw [hx]; exact bnb S n hstep hend (Nat.zero_le _) hn
def bsw (w n X : Nat) : List Int := (List.range n).map fun i => ((X / 2 ^ (w * i) % 2 ^ w : Nat) : Int)
@[simp] theorem aay (w n X : Nat) : (bsw w n X).length = n := by simp [bsw]
theorem biq (w n X i : Nat) (h : i < n) : (bsw w n X).getD i 0 = ((X / 2 ^ (w * i) % 2 ^ w : Nat) : Int) := by
 rw [getD_lt (by simpa using h)]; simp [bsw]
theorem bav (w n X : Nat) : bsw w (n + 1) X = bsw w n X ++ [((X / 2 ^ (w * n) % 2 ^ w : Nat) : Int)] := by simp [bsw, List.range_succ]
theorem be3 (w n X : Nat) : In (2 ^ w) (bsw w n X) := by
 refine In.map (fun i _ => ⟨Int.natCast_nonneg _, ?_⟩)
 have := Nat.mod_lt (X / 2 ^ (w * i)) (p2 w)
 have e : ((2 : Int) ^ w) = ((2 ^ w : Nat) : Int) := by simp
 rw [e]; omega
theorem bvj (w X : Nat) : ∀ n, T w (bsw w n X) = X % 2 ^ (w * n)
 | 0 => by simp [bsw, T, Nat.mod_one]
 | n + 1 => by
  rw [bav, auu, bvj w X n, aay, Nat.mul_succ, Nat.pow_add, Nat.mod_mul]
  simp only [T, Int.toNat_natCast, Nat.mod_mod, Nat.mul_zero, Nat.add_zero]
theorem axz (X h w m : Nat) (hm : h + w ≤ m) : X % 2 ^ m / 2 ^ h % 2 ^ w = X / 2 ^ h % 2 ^ w := by
 have e : (2 : Nat) ^ m = 2 ^ h * (2 ^ w * 2 ^ (m - (h + w))) := by rw [← Nat.pow_add, ← Nat.pow_add]; congr 1; omega
 rw [e, Nat.mod_mul_right_div_self, Nat.mod_mul_right_mod]
theorem bf0 (X h w a b : Nat) (hb : a + b ≤ w) : X / 2 ^ h % 2 ^ w / 2 ^ a % 2 ^ b = X / 2 ^ (h + a) % 2 ^ b := by
 rw [axz _ _ _ _ hb, Nat.div_div_eq_div_mul, ← Nat.pow_add]
theorem bp6 (X h w a : Nat) : X / 2 ^ h % 2 ^ w + 2 ^ w * (X / 2 ^ (h + w) % 2 ^ a) = X / 2 ^ h % 2 ^ (w + a) := by
 rw [Nat.pow_add 2 w a, Nat.mod_mul, Nat.pow_add, Nat.div_div_eq_div_mul]
end Q
end

section
/- hss: a number's digits, each by its own width: pure. -/
namespace Q
open Go Go.Abs
set_option linter.unusedVariables false
set_option linter.unusedSimpArgs false
def sm : List Nat → Nat
 | [] => 0
 | h :: r => h + sm r
def vec : List Nat → Nat → List Nat
 | [], _ => []
 | h :: r, n => (n / 2 ^ sm r % 2 ^ h) :: vec r n
theorem vec_len : ∀ (hs : List Nat) (n : Nat), (vec hs n).length = hs.length
 | [], n => rfl
 | h :: r, n => by simp [vec, vec_len r n]
theorem blm : ∀ (hs : List Nat) (i : Nat), i < hs.length → sm (hs.drop i) = hs.getD i 0 + sm (hs.drop (i + 1))
 | [], i, hi => by simp at hi
 | h :: r, 0, hi => by simp [sm]
 | h :: r, i + 1, hi => by simpa using blm r i (by simpa using hi)
theorem boe : ∀ (hs : List Nat) (n i : Nat), i < hs.length → (vec hs n).getD i 0 = n / 2 ^ sm (hs.drop (i + 1)) % 2 ^ hs.getD i 0
 | [], n, i, hi => by simp at hi
 | h :: r, n, 0, hi => by simp [vec]
 | h :: r, n, i + 1, hi => by simpa [vec] using boe r n i (by simpa using hi)
theorem blz : ∀ (a b : List Nat), sm (a ++ b) = sm a + sm b
 | [], b => by simp [sm]
 | h :: r, b => by simp [sm, blz r b]; omega
theorem bsf (hs : List Nat) (i : Nat) : sm (hs.take i) + sm (hs.drop i) = sm hs := by rw [← blz, List.take_append_drop]
theorem aow (p : Nat → Prop) : ∀ N, (∀ i, i < N → p i) ∨ ∃ i, i < N ∧ ¬ p i ∧ ∀ j, j < i → p j
 | 0 => .inl (fun i h => by omega)
 | N + 1 => by
  rcases aow p N with h | ⟨i, h1, h2, h3⟩
  ·by_cases hp : p N
   ·exact .inl (fun i hi => by
      by_cases e : i = N
      ·rw [e]; exact hp
      ·exact h i (by omega))
   ·exact .inr ⟨N, by omega, hp, h⟩
  ·exact .inr ⟨i, by omega, h2, h3⟩
end Q
end

section
/- bits: Unpack. -/
namespace Q
open Go Go.Abs
set_option linter.unusedVariables false
set_option linter.unusedSimpArgs false
def Such (n : Nat) (w c : Int) : Prop := 1 ≤ w ∧ w ≤ 24 ∧ 0 ≤ c ∧ c * w ≤ n * 8
instance (n : Nat) (w c : Int) : Decidable (Such n w c) := inferInstanceAs (Decidable (_ ∧ _))
theorem bod (n : Nat) (w c : Int) (hn : n ≤ 1000000) {ρ : Type} (k : Bool → Option ρ) :
    br (decide (w ≥ (1 : Int))) (br (decide (w ≤ (24 : Int))) (br (decide (c ≥ (0 : Int))) (br (decide (w = (0 : Int))) none
     (k (decide (c ≤ IntKind.i64.wrap ((IntKind.i64.wrap ((↑n : Int) * (8 : Int))).tdiv w))))) (k false)) (k false)) (k false) = k (decide (Such n w c)) := by
 by_cases h1 : w ≥ 1
 ·by_cases h2 : w ≤ 24
  ·by_cases h3 : c ≥ 0
   ·rw [ah h1, ah h2, ah h3, bg (by omega)]
    congr 1
    have e0 : ((n : Int) * 8).tdiv w = (n : Int) * 8 / w := Int.tdiv_eq_ediv_of_nonneg (by omega)
    have e1 : (n : Int) * 8 / w ≤ n * 8 := Int.ediv_le_self _ (by omega)
    have e2 : 0 ≤ (n : Int) * 8 / w := Int.ediv_nonneg (by omega) (by omega)
    rw [nu (x := (n : Int) * 8) (by omega) (by omega), e0, nu (by omega) (by omega)]
    apply decide_eq_decide.2
    rw [Int.le_ediv_iff_mul_le (by omega)]
    unfold Such
    omega
   ·rw [ah h1, ah h2, bg h3, decide_eq_false (fun h => h3 h.2.2.1)]
  ·rw [ah h1, bg h2, decide_eq_false (fun h => h2 h.2.1)]
 ·rw [bg h1, decide_eq_false (fun h => h1 h.1)]
theorem abq (b : List Int) (w c : Int) (hn : b.length ≤ 1000000) {ρ : Type} (k : Bool → Option ρ) : P.abq b w c k = k (decide (Such b.length w c)) := by
 rw [P.asr]; exact bod b.length w c hn k
theorem ama (b : List Int) (w c : Int) (hn : b.length ≤ 1000000) {ρ : Type} (k : Bool → Option ρ) : P.ama b w c k = k (decide (Such b.length w c)) := by
 rw [P.bf3]; exact bod b.length w c hn k
theorem fdiv_pow (a n m : Nat) (h : n ≤ m) : (a : Int).fdiv ((2 : Int) ^ min n m) = ((a / 2 ^ n : Nat) : Int) := by
 rw [Nat.min_eq_left h, show ((2 : Int) ^ n) = ((2 ^ n : Nat) : Int) by simp, ← Int.ofNat_fdiv]
theorem mul_pow (a n m : Nat) (h : n ≤ m) : (a : Int) * ((2 : Int) ^ min n m) = ((a * 2 ^ n : Nat) : Int) := by
 rw [Nat.min_eq_left h, show ((2 : Int) ^ n) = ((2 ^ n : Nat) : Int) by simp, ← Int.natCast_mul]
theorem aag (a : Nat) (h : a < 18446744073709551616) : IntKind.u64.wrap (a : Int) = (a : Int) := by rw [bo0]; omega
theorem bcw (a : Nat) (h : a < 4294967296) : IntKind.u32.wrap (a : Int) = (a : Int) := by rw [bua]; omega
theorem u8n (a : Nat) (h : a < 256) : IntKind.u8.wrap (a : Int) = (a : Int) := by rw [u8m]; omega
theorem bhd {a b : Nat} (h : a ≤ b) : 2 ^ a ≤ 2 ^ b := Nat.pow_le_pow_right (by omega) h
theorem bok (w : Nat) (h : w ≤ 24) : IntKind.u64.wrap (IntKind.u64.wrap ((1 : Int) * (2 : Int) ^ min w 64) - (1 : Int)) = ((2 ^ w - 1 : Nat) : Int) := by
 have h1 := p2 w
 have h2 : 2 ^ w ≤ 2 ^ 24 := bhd h
 rw [show (1 : Int) = ((1 : Nat) : Int) from rfl, mul_pow 1 w 64 (by omega), aag _ (by omega), show ((1 * 2 ^ w : Nat) : Int) - ((1 : Nat) : Int) = ((2 ^ w - 1 : Nat) : Int) by omega, aag _ (by omega)]
theorem bks (x w : Nat) (hx : x < 18446744073709551616) (h : w ≤ 24) : bits .and .u64 (x : Int) (IntKind.u64.wrap (IntKind.u64.wrap ((1 : Int) * (2 : Int) ^ min w 64) - (1 : Int))) = ((x % 2 ^ w : Nat) : Int) := by
 have h2 : 2 ^ w ≤ 2 ^ 24 := bhd h
 rw [bok w h, au6 _ _ hx (by omega), Nat.and_two_pow_sub_one_eq_mod]
def zl (n : Nat) : Nat := (n + 7) / 8
theorem bjs (n : Nat) : n ≤ 8 * zl n := by unfold zl; omega
theorem bi5 (n : Nat) : 8 * zl n < n + 8 := by unfold zl; omega
theorem byte_at {b : List Int} (hb : In 256 b) (t : Nat) : ∃ x : Nat, b.getD t 0 = (x : Int) ∧ x < 256 ∧ x = (b.getD t 0).toNat % 2 ^ 8 := by
 have := hb.getD t (by omega)
 exact ⟨(b.getD t 0).toNat, by omega, by omega, by omega⟩
end Q
end

section
/- Words of 32 and of 64 bits. -/
namespace Q
open Go Go.Abs
set_option linter.unusedVariables false
set_option linter.unusedSimpArgs false
theorem ofI {w : Nat} (x : BitVec w) : BitVec.ofInt w (x.toNat : Int) = x := by simp
theorem auy (x : BitVec 32) : x.toNat < 4294967296 := x.isLt
theorem bt1 (x : BitVec 64) : x.toNat < 18446744073709551616 := x.isLt
theorem bam (x y : BitVec 32) : bits .xor .u32 (x.toNat : Int) (y.toNat : Int) = ((x ^^^ y).toNat : Int) := by
 have e : bits .xor .u32 (x.toNat : Int) (y.toNat : Int) = IntKind.u32.wrap ((BitVec.ofInt 32 (x.toNat : Int) ^^^ BitVec.ofInt 32 (y.toNat : Int)).toNat : Int) := rfl
 rw [e, ofI, ofI, bcw _ (auy _)]
theorem b3a (x y : BitVec 32) : bits .and .u32 (x.toNat : Int) (y.toNat : Int) = ((x &&& y).toNat : Int) := by
 have e : bits .and .u32 (x.toNat : Int) (y.toNat : Int) = IntKind.u32.wrap ((BitVec.ofInt 32 (x.toNat : Int) &&& BitVec.ofInt 32 (y.toNat : Int)).toNat : Int) := rfl
 rw [e, ofI, ofI, bcw _ (auy _)]
theorem b5s (x y : BitVec 32) : bits .or .u32 (x.toNat : Int) (y.toNat : Int) = ((x ||| y).toNat : Int) := by
 have e : bits .or .u32 (x.toNat : Int) (y.toNat : Int) = IntKind.u32.wrap ((BitVec.ofInt 32 (x.toNat : Int) ||| BitVec.ofInt 32 (y.toNat : Int)).toNat : Int) := rfl
 rw [e, ofI, ofI, bcw _ (auy _)]
theorem add32 (x y : BitVec 32) : IntKind.u32.wrap ((x.toNat : Int) + (y.toNat : Int)) = ((x + y).toNat : Int) := by
 rw [bua, BitVec.toNat_add]; omega
theorem ake (x y : BitVec 64) : bits .xor .u64 (x.toNat : Int) (y.toNat : Int) = ((x ^^^ y).toNat : Int) := by
 have e : bits .xor .u64 (x.toNat : Int) (y.toNat : Int) = IntKind.u64.wrap ((BitVec.ofInt 64 (x.toNat : Int) ^^^ BitVec.ofInt 64 (y.toNat : Int)).toNat : Int) := rfl
 rw [e, ofI, ofI, aag _ (bt1 _)]
theorem bj6 (x y : BitVec 64) : bits .and .u64 (x.toNat : Int) (y.toNat : Int) = ((x &&& y).toNat : Int) := by
 have e : bits .and .u64 (x.toNat : Int) (y.toNat : Int) = IntKind.u64.wrap ((BitVec.ofInt 64 (x.toNat : Int) &&& BitVec.ofInt 64 (y.toNat : Int)).toNat : Int) := rfl
 rw [e, ofI, ofI, aag _ (bt1 _)]
theorem b0z (x y : BitVec 64) : bits .or .u64 (x.toNat : Int) (y.toNat : Int) = ((x ||| y).toNat : Int) := by
 have e : bits .or .u64 (x.toNat : Int) (y.toNat : Int) = IntKind.u64.wrap ((BitVec.ofInt 64 (x.toNat : Int) ||| BitVec.ofInt 64 (y.toNat : Int)).toNat : Int) := rfl
 rw [e, ofI, ofI, aag _ (bt1 _)]
theorem akf (x y : BitVec 64) : IntKind.u64.wrap ((x.toNat : Int) + (y.toNat : Int)) = ((x + y).toNat : Int) := by
 rw [bo0, BitVec.toNat_add]; omega
theorem bns (x y : Nat) (hx : x < 18446744073709551616) (hy : y < 18446744073709551616) : bits .xor .u64 (x : Int) (y : Int) = ((x ^^^ y : Nat) : Int) := by
 have := ake (BitVec.ofNat 64 x) (BitVec.ofNat 64 y)
 rw [BitVec.toNat_xor, BitVec.toNat_ofNat, BitVec.toNat_ofNat, Nat.mod_eq_of_lt (by omega), Nat.mod_eq_of_lt (by omega)] at this
 exact this
/- words of 32 bits as numbers of 64 -/
theorem nlt (x : BitVec 32) : x.toNat < 18446744073709551616 := by have := auy x; omega
theorem brq (x y : BitVec 32) : bits .xor .u64 (x.toNat : Int) (y.toNat : Int) = ((x ^^^ y).toNat : Int) := by rw [bns _ _ (nlt x) (nlt y), BitVec.toNat_xor]
theorem nand (x y : BitVec 32) : bits .and .u64 (x.toNat : Int) (y.toNat : Int) = ((x &&& y).toNat : Int) := by rw [au6 _ _ (nlt x) (nlt y), BitVec.toNat_and]
theorem nor (x y : BitVec 32) : bits .or .u64 (x.toNat : Int) (y.toNat : Int) = ((x ||| y).toNat : Int) := by rw [bmg _ _ (nlt x) (nlt y), BitVec.toNat_or]
theorem bl2 (n : Nat) (h : n < 18446744073709551616) : bits .and .u64 (n : Int) 4294967295 = ((n % 4294967296 : Nat) : Int) := by
 rw [show (4294967295 : Int) = ((2 ^ 32 - 1 : Nat) : Int) from rfl, au6 _ _ h (by omega), Nat.and_two_pow_sub_one_eq_mod]
theorem bpr (n : Nat) (h : n < 18446744073709551616) : bits .and .u64 (n : Int) 18446744073709551615 = (n : Int) := by
 rw [show (18446744073709551615 : Int) = ((2 ^ 64 - 1 : Nat) : Int) from rfl, au6 _ _ h (by omega), Nat.and_two_pow_sub_one_eq_mod, Nat.mod_eq_of_lt (by omega)]
def rr {w : Nat} (x : BitVec w) (n : Nat) : BitVec w := (x >>> n) ||| (x <<< (w - n))
theorem awz {w : Nat} (x : BitVec w) (n : Nat) : (x >>> n).toNat = x.toNat / 2 ^ n := by rw [BitVec.toNat_ushiftRight, Nat.shiftRight_eq_div_pow]
theorem awu {w : Nat} (x : BitVec w) (n : Nat) : (x <<< n).toNat = x.toNat * 2 ^ n % 2 ^ w := by rw [BitVec.toNat_shiftLeft, Nat.shiftLeft_eq]
theorem bs4 (x : BitVec 32) (n : Nat) (h : n ≤ 32) : (x.toNat : Int).fdiv ((2 : Int) ^ min n 32) = ((x >>> n).toNat : Int) := by rw [fdiv_pow _ _ _ h, awz]
theorem b38 (x : BitVec 32) (n : Nat) (h : n ≤ 32) : IntKind.u32.wrap ((x.toNat : Int) * (2 : Int) ^ min n 32) = ((x <<< n).toNat : Int) := by
 rw [mul_pow _ _ _ h, bua, awu]; omega
theorem bmi (x : BitVec 64) (n : Nat) (h : n ≤ 64) : (x.toNat : Int).fdiv ((2 : Int) ^ min n 64) = ((x >>> n).toNat : Int) := by rw [fdiv_pow _ _ _ h, awz]
theorem bww (x : BitVec 64) (n : Nat) (h : n ≤ 64) : IntKind.u64.wrap ((x.toNat : Int) * (2 : Int) ^ min n 64) = ((x <<< n).toNat : Int) := by
 rw [mul_pow _ _ _ h, bo0, awu]; omega
theorem b6i (x : BitVec 32) (n : Nat) (h : n ≤ 64) : (x.toNat : Int).fdiv ((2 : Int) ^ min n 64) = ((x >>> n).toNat : Int) := by rw [fdiv_pow _ _ _ h, awz]
theorem nshl (x : BitVec 32) (n : Nat) (h : n ≤ 32) : bits .and .u64 (IntKind.u64.wrap ((x.toNat : Int) * (2 : Int) ^ min n 64)) 4294967295 = ((x <<< n).toNat : Int) := by
 have h1 := auy x
 have h2 : 2 ^ n ≤ 2 ^ 32 := bhd h
 have h3 : x.toNat * 2 ^ n ≤ 4294967295 * 2 ^ 32 := Nat.mul_le_mul (by omega) h2
 rw [mul_pow _ _ _ (by omega), aag _ (by omega), bl2 _ (by omega), awu]
theorem bw7 {w : Nat} (e f g : BitVec w) : (e &&& f) ^^^ ((BitVec.allOnes w ^^^ e) &&& g) = g ^^^ (e &&& (f ^^^ g)) := by
 ext i hi
 simp
 cases e[i] <;> cases f[i] <;> cases g[i] <;> rfl
theorem bq8 {w : Nat} (a b c : BitVec w) : ((a &&& b) ^^^ (a &&& c)) ^^^ (b &&& c) = (a &&& b) ||| (c &&& (a ||| b)) := by
 ext i hi
 simp
 cases a[i] <;> cases b[i] <;> cases c[i] <;> rfl
end Q
end

section
/- SHA-2: what a block does. -/
namespace Q
open Go Go.Abs
set_option linter.unusedVariables false
set_option linter.unusedSimpArgs false
structure Par (w : Nat) where
 rounds : Nat
 a : Nat × Nat × Nat
 b : Nat × Nat × Nat
 c : Nat × Nat × Nat
 d : Nat × Nat × Nat
 K : Nat → BitVec w
section
variable {w : Nat}
def hi (t : Nat × Nat × Nat) (x : BitVec w) : BitVec w := rr x t.1 ^^^ rr x t.2.1 ^^^ rr x t.2.2
def lo (t : Nat × Nat × Nat) (x : BitVec w) : BitVec w := rr x t.1 ^^^ rr x t.2.1 ^^^ (x >>> t.2.2)
def cv (l : List (BitVec w)) : List Int := l.map fun x => (x.toNat : Int)
@[simp] theorem vk (l : List (BitVec w)) : (cv l).length = l.length := by simp [cv]
theorem afm (l : List (BitVec w)) (i : Nat) : (cv l).getD i 0 = ((l.getD i 0).toNat : Int) := by
 unfold cv
 rw [List.getD_eq_getElem?_getD, List.getD_eq_getElem?_getD, List.getElem?_map]
 cases l[i]? <;> simp
theorem azv (l : List (BitVec w)) (i : Nat) (x : BitVec w) : (cv l).set i (x.toNat : Int) = cv (l.set i x) := by simp [cv, List.map_set]
theorem ae7 (l r : List (BitVec w)) : cv l ++ cv r = cv (l ++ r) := by simp [cv]
def bt5 (p : Par w) (t : Nat) (wt : BitVec w) (v : List (BitVec w)) : BitVec w :=
 v.getD 7 0 + hi p.d (v.getD 4 0) + (v.getD 6 0 ^^^ (v.getD 4 0 &&& (v.getD 5 0 ^^^ v.getD 6 0))) + p.K t + wt
def b1z (p : Par w) (v : List (BitVec w)) : BitVec w := hi p.c (v.getD 0 0) + ((v.getD 0 0 &&& v.getD 1 0) ||| (v.getD 2 0 &&& (v.getD 0 0 ||| v.getD 1 0)))
def rnd (p : Par w) (t : Nat) (wt : BitVec w) (v : List (BitVec w)) : List (BitVec w) :=
 [bt5 p t wt v + b1z p v, v.getD 0 0, v.getD 1 0, v.getD 2 0, v.getD 3 0 + bt5 p t wt v, v.getD 4 0, v.getD 5 0, v.getD 6 0]
def bvm (p : Par w) (l : List (BitVec w)) : BitVec w := lo p.b (l.getD (l.length - 2) 0) + l.getD (l.length - 7) 0 + lo p.a (l.getD (l.length - 15) 0) + l.getD (l.length - 16) 0
def sched (p : Par w) (l : List (BitVec w)) : Nat → List (BitVec w)
 | 0 => l
 | n + 1 => sched p l n ++ [bvm p (sched p l n)]
theorem awh (p : Par w) (l : List (BitVec w)) : ∀ n, (sched p l n).length = l.length + n
 | 0 => rfl
 | n + 1 => by simp only [sched, List.length_append, awh p l n, List.length_singleton]; omega
theorem bcj (p : Par w) (l : List (BitVec w)) (n i : Nat) (hi : i < l.length + n) : ∀ m, (sched p l (n + m)).getD i 0 = (sched p l n).getD i 0
 | 0 => rfl
 | m + 1 => by
  rw [← Nat.add_assoc]
  simp only [sched]
  rw [List.getD_eq_getElem?_getD, List.getElem?_append_left (by rw [awh]; omega), ← List.getD_eq_getElem?_getD, bcj p l n i hi m]
def W (p : Par w) (l : List (BitVec w)) (t : Nat) : BitVec w := (sched p l t).getD t 0
theorem bre (p : Par w) (l : List (BitVec w)) (hl : 0 < l.length) (n t : Nat) (h : t < l.length + n) : (sched p l n).getD t 0 = W p l t := by
 unfold W
 by_cases hn : n ≤ t
 ·have := bcj p l n t h (t - n)
  rw [show n + (t - n) = t by omega] at this
  exact this.symm
 ·have := bcj p l t t (by omega) (n - t)
  rw [show t + (n - t) = n by omega] at this
  exact this
theorem bjq (p : Par w) (l : List (BitVec w)) (hl : l.length = 16) (t : Nat) : W p l (t + 16) = W p l t + lo p.a (W p l (t + 1)) + W p l (t + 9) + lo p.b (W p l (t + 14)) := by
 have e := bre p l (by omega) (t + 1) (t + 16) (by omega)
 rw [← e]
 simp only [sched]
 have hlen := awh p l t
 rw [List.getD_eq_getElem?_getD, List.getElem?_append_right (by rw [hlen]; omega), hlen, show t + 16 - (l.length + t) = 0 by omega]
 simp only [List.getElem?_cons_zero, Option.getD_some]
 unfold bvm
 rw [hlen, show l.length + t - 2 = t + 14 by omega, show l.length + t - 7 = t + 9 by omega, show l.length + t - 15 = t + 1 by omega, show l.length + t - 16 = t by omega,
  bre p l (by omega) t _ (by omega), bre p l (by omega) t _ (by omega), bre p l (by omega) t _ (by omega), bre p l (by omega) t _ (by omega)]
 ac_rfl
def runs (p : Par w) (l : List (BitVec w)) (v : List (BitVec w)) : Nat → List (BitVec w)
 | 0 => v
 | t + 1 => rnd p t (W p l t) (runs p l v t)
theorem ame (p : Par w) (l v : List (BitVec w)) (hv : v.length = 8) : ∀ t, (runs p l v t).length = 8
 | 0 => hv
 | t + 1 => rfl
def bq2 (p : Par w) (l v : List (BitVec w)) : List (BitVec w) := (List.range 8).map fun i => (runs p l v p.rounds).getD i 0 + v.getD i 0
def kg (w : Nat) (b : List Int) (n : Nat) : List (BitVec w) := (List.range n).map fun t => BitVec.ofNat w (T 8 ((b.take ((t + 1) * (w / 8))).drop (t * (w / 8))).reverse)
def ava (p : Par w) (v : List (BitVec w)) (b : List Int) : List (BitVec w) := bq2 p (kg w b 16) v
theorem bk6 (p : Par w) (v : List (BitVec w)) (b : List Int) : (ava p v b).length = 8 := by simp [ava, bq2]
theorem awv (b : List Int) (n : Nat) : kg w b (n + 1) = kg w b n ++ [BitVec.ofNat w (T 8 ((b.take ((n + 1) * (w / 8))).drop (n * (w / 8))).reverse)] := by simp [kg, List.range_succ]
theorem qd (b : List Int) (n : Nat) : (kg w b n).length = n := by simp [kg]
def win (p : Par w) (l : List (BitVec w)) (t : Nat) : List (BitVec w) := (List.range 16).map fun j => W p l (t + (j + 16 - t % 16) % 16)
theorem asi (p : Par w) (l : List (BitVec w)) (t i : Nat) (hi : i < 16) : (win p l t).getD ((t + i) % 16) 0 = W p l (t + i) := by
 unfold win
 rw [getD_lt (by simp; omega)]
 simp only [List.getElem_map, List.getElem_range]
 congr 1
 omega
theorem bjv (p : Par w) (l : List (BitVec w)) (t : Nat) : (win p l t).set (t % 16) (W p l (t + 16)) = win p l (t + 1) := by
 unfold win
 refine List.ext_getElem (by simp) (fun j h1 h2 => ?_)
 simp only [List.length_map, List.length_range] at h2
 rw [List.getElem_set]
 by_cases h : t % 16 = j
 ·rw [if_pos h]
  simp only [List.getElem_map, List.getElem_range]
  congr 1
  omega
 ·rw [if_neg h]
  simp only [List.getElem_map, List.getElem_range]
  congr 1
  omega
theorem win_zero (p : Par w) (b : List Int) : win p (kg w b 16) 0 = kg w b 16 := by
 unfold win
 refine List.ext_getElem (by simp [kg]) (fun j h1 h2 => ?_)
 rw [qd] at h2
 simp only [List.getElem_map, List.getElem_range]
 rw [show 0 + (j + 16 - 0 % 16) % 16 = j by omega, ← bre p _ (by rw [qd]; omega) 0 j (by rw [qd]; omega)]
 exact getD_lt (by rw [show sched p (kg w b 16) 0 = kg w b 16 from rfl, qd]; exact h2)
end
theorem bfu : ∀ x, x ∈ P.roots256 → 0 ≤ x ∧ x < 4294967296 := by decide +kernel
theorem bha : ∀ x, x ∈ P.roots512 → 0 ≤ x ∧ x < 18446744073709551616 := by decide +kernel
def p32 : Par 32 := ⟨64, (7, 18, 3), (17, 19, 10), (2, 13, 22), (6, 11, 25), fun t => BitVec.ofInt 32 (P.roots256.getD t 0)⟩
def p64 : Par 64 := ⟨80, (1, 8, 7), (19, 61, 6), (28, 34, 39), (14, 18, 41), fun t => BitVec.ofInt 64 (P.roots512.getD t 0)⟩
theorem K32 (t : Nat) : P.roots256.getD t 0 = ((p32.K t).toNat : Int) := by
 have := In.getD (m := 4294967296) bfu t (by omega)
 simp only [p32, BitVec.toNat_ofInt]
 omega
theorem K64 (t : Nat) : P.roots512.getD t 0 = ((p64.K t).toNat : Int) := by
 have := In.getD (m := 18446744073709551616) bha t (by omega)
 simp only [p64, BitVec.toNat_ofInt]
 omega
end Q
end

section
/- bits: Unpack, as the document has it. -/
namespace Q
open Go Go.Abs
set_option linter.unusedVariables false
set_option linter.unusedSimpArgs false
theorem td8 (p : Nat) : (p : Int).tdiv 8 = ((p / 8 : Nat) : Int) := by rw [Int.tdiv_eq_ediv_of_nonneg (by omega)]; omega
theorem tm8 (p : Nat) : (p : Int).tmod 8 = ((p % 8 : Nat) : Int) := by rw [Int.tmod_eq_emod_of_nonneg (by omega)]; omega
theorem wmul (i w : Nat) (h : w * i ≤ 9223372036854775807) : IntKind.i64.wrap ((i : Int) * (w : Int)) = ((w * i : Nat) : Int) := by
 rw [← Int.natCast_mul, Nat.mul_comm, nu (by omega) (by omega)]
theorem bu9 (x s : Nat) (hx : x < 256) (hs : s ≤ 8) : bits .and .u8 ((x : Int).fdiv ((2 : Int) ^ min s 8)) 1 = ((x / 2 ^ s % 2 : Nat) : Int) := by
 have := Nat.div_le_self x (2 ^ s)
 rw [fdiv_pow x s 8 hs, show (1 : Int) = ((1 : Nat) : Int) from rfl, bu0 _ _ (by omega) (by omega), Nat.and_one_is_mod]
theorem btz (v x : Nat) (hv : v < 16777216) (hx : x < 2) : IntKind.u32.wrap (IntKind.u32.wrap ((v : Int) * 2) + IntKind.u32.wrap (x : Int)) = ((x + 2 * v : Nat) : Int) := by
 rw [bcw x (by omega), show (v : Int) * 2 = ((v * 2 : Nat) : Int) by omega, bcw _ (by omega), ← Int.natCast_add, bcw _ (by omega)]; omega
theorem bv9 (V h j : Nat) : V / 2 ^ h % 2 + 2 * (V / 2 ^ (h + 1) % 2 ^ j) = V / 2 ^ h % 2 ^ (j + 1) := by
 have := bp6 V h 1 j
 rw [Nat.add_comm j 1]; exact this
end Q
end

section
/- bits: Digits. -/
namespace Q
open Go Go.Abs
set_option linter.unusedVariables false
set_option linter.unusedSimpArgs false
def dg (w L N : Nat) (i : Nat) : Int := ((N / 2 ^ (8 * L - w * (i + 1)) % 2 ^ w : Nat) : Int)
def uf (b : List Int) (w c : Int) : List Int := if Such b.length w c then (List.range c.toNat).map (dg w.toNat b.length (T 8 b.reverse)) else []
theorem bqg (b : List Int) (t : Nat) (h : t ≤ b.length) : T 8 (b.take t).reverse = T 8 b.reverse / 2 ^ (8 * (b.length - t)) := by
 rw [List.reverse_take, ay7 8 _ _ (by simp)]
theorem bch (b : List Int) (t : Nat) (h : t < b.length) : T 8 (b.take (t + 1)).reverse = (b.getD t 0).toNat % 2 ^ 8 + 256 * T 8 (b.take t).reverse := by
 rw [← ais b 0 t h, List.reverse_append, List.reverse_singleton, List.singleton_append, T]
theorem bqa (b : List Int) (q : Nat) (h : q < b.length) : (b.getD q 0).toNat % 2 ^ 8 = T 8 b.reverse / 2 ^ (8 * (b.length - 1 - q)) % 2 ^ 8 := by
 rw [bw1]
 congr 2
 rw [getD_lt h, getD_lt (by simp; omega), List.getElem_reverse]
 congr 1; omega
theorem uo (b : List Int) (w c : Int) (hb : In 256 b) (hn : b.length ≤ 1000000) {ρ : Type} (k : List Int → Option ρ) : P.uo b w c k = k (uf b w c) := by
 rw [P.am7]
 unfold P.agt
 rw [abq b w c hn, ji]
 unfold uf
 by_cases hs : Such b.length w c
 rotate_left
 ·rw [decide_eq_false hs, vo, if_neg hs]
 rw [decide_eq_true hs, o9, if_pos hs]
 obtain ⟨h1, h2, h3, h4⟩ := hs
 obtain ⟨w, rfl⟩ := Int.eq_ofNat_of_zero_le (show 0 ≤ w by omega)
 obtain ⟨c, rfl⟩ := Int.eq_ofNat_of_zero_le h3
 have h4 : c * w ≤ b.length * 8 := by exact_mod_cast h4
 have hc : c ≤ c * w := Nat.le_mul_of_pos_right c (by omega)
 simp only [toNat_cast, List.length_replicate]
 simp (disch := omega) only [ah, bg, d9, au, bq, ak, ji, o9, vo, nu]
 rw [P.ar5]
 unfold P.am1 P.bxz P.bwe P.b04
 refine qo (fun i => (b.drop (zl (w * i)), (w : Int), ((T 8 (b.take (zl (w * i))).reverse % 2 ^ 64 : Nat) : Int), ((8 * zl (w * i) - w * i : Nat) : Int), (c : Int), (i : Int), ((List.range i).map (dg w b.length (T 8 b.reverse))) ++ List.replicate (c - i) 0)) c (by simp [zl, T, bsw]) (fun i hi next hn' => ?_) (fun next => ?_) (by omega)
 ·have hwi : w * (i + 1) = w * i + w := Nat.mul_succ w i
  have hwc : w * (i + 1) ≤ b.length * 8 := Nat.le_trans (Nat.mul_le_mul (Nat.le_refl w) hi) (by rw [Nat.mul_comm]; exact h4)
  have c1 := bjs (w * i)
  have c2 := bi5 (w * i)
  have c3 := bjs (w * (i + 1))
  have c4 := bi5 (w * (i + 1))
  have c5 : zl (w * i) ≤ zl (w * (i + 1)) := by unfold zl; omega
  simp only [P.aib]
  rw [ah (by omega), P.aq0]
  unfold P.am0 P.byr P.bv3 P.b4s
  refine qo (fun j => (b.drop (zl (w * i) + j), (w : Int), ((T 8 (b.take (zl (w * i) + j)).reverse % 2 ^ 64 : Nat) : Int), ((8 * (zl (w * i) + j) - w * i : Nat) : Int), (i : Int), (c : Int), (i : Int), ((List.range i).map (dg w b.length (T 8 b.reverse))) ++ List.replicate (c - i) 0)) (zl (w * (i + 1)) - zl (w * i)) rfl (fun j hj next2 hn2 => ?_) (fun next2 => ?_) (by omega)
  ·have ht : zl (w * i) + j < b.length := by omega
   obtain ⟨x, hx, hx2, hx3⟩ := byte_at hb (zl (w * i) + j)
   have est := bch b (zl (w * i) + j) ht
   rw [← hx3] at est
   simp only [P.ah3, List.length_drop, toNat_cast]
   rw [List.take_of_length_le (l := b.drop (zl (w * i) + j)) (by simp), List.drop_drop]
   have e0 : (b.drop (zl (w * i) + j)).getD 0 0 = (x : Int) := by
    rw [← hx, ado b 0 _ ht]; rfl
   have e1 : IntKind.u64.wrap (((T 8 (b.take (zl (w * i) + j)).reverse % 2 ^ 64 : Nat) : Int) * 2 ^ 8) = ((T 8 (b.take (zl (w * i) + j)).reverse % 2 ^ 56 * 2 ^ 8 : Nat) : Int) := by
    rw [bo0]; omega
   rw [e0, e1, aag x (by omega), bmg _ _ (by omega) (by omega), bi3 _ _ _ (by omega)]
   simp (disch := omega) only [ah, bg, d9, au, bq, ak, ji, o9, vo, nu]
   rw [Nat.add_assoc, show ((8 * (zl (w * i) + j) - w * i : Nat) : Int) + 8 = ((8 * (zl (w * i) + (j + 1)) - w * i : Nat) : Int) by omega,
    show T 8 (b.take (zl (w * i) + j)).reverse % 2 ^ 56 * 2 ^ 8 + x = T 8 (b.take (zl (w * i) + (j + 1))).reverse % 2 ^ 64 by rw [← Nat.add_assoc, est]; omega]
   exact hn2
  ·have et : zl (w * i) + (zl (w * (i + 1)) - zl (w * i)) = zl (w * (i + 1)) := by omega
   simp only [P.ah3, toNat_cast]
   rw [et, bg (by omega), show ((8 * zl (w * (i + 1)) - w * i : Nat) : Int) - (w : Int) = ((8 * zl (w * (i + 1)) - w * (i + 1) : Nat) : Int) by omega,
    nu (x := ((8 * zl (w * (i + 1)) - w * (i + 1) : Nat) : Int)) (by omega) (by omega)]
   simp only [toNat_cast]
   have hq : T 8 (b.take (zl (w * (i + 1)))).reverse % 2 ^ 64 / 2 ^ (8 * zl (w * (i + 1)) - w * (i + 1)) < 18446744073709551616 := by
    have := Nat.div_le_self (T 8 (b.take (zl (w * (i + 1)))).reverse % 2 ^ 64) (2 ^ (8 * zl (w * (i + 1)) - w * (i + 1)))
    omega
   rw [fdiv_pow _ _ 64 (by omega), bks _ w hq (by omega), axz _ _ _ _ (by omega)]
   have hw2 : 2 ^ w ≤ 2 ^ 24 := bhd (by omega)
   have hmod := Nat.mod_lt (T 8 (b.take (zl (w * (i + 1)))).reverse / 2 ^ (8 * zl (w * (i + 1)) - w * (i + 1))) (p2 w)
   rw [bcw _ (by omega)]
   have ed : ((T 8 (b.take (zl (w * (i + 1)))).reverse / 2 ^ (8 * zl (w * (i + 1)) - w * (i + 1)) % 2 ^ w : Nat) : Int) = dg w b.length (T 8 b.reverse) i := by
    unfold dg
    rw [bqg b _ (by omega), Nat.div_div_eq_div_mul, ← Nat.pow_add]
    congr 4; omega
   rw [ed]
   simp only [List.length_append, List.length_map, List.length_range, List.length_replicate]
   simp (disch := omega) only [ah, bg, d9, au, bq, ak, ji, o9, vo, nu]
   rw [bnp _ _ _ hi]
   exact hn'
 ·simp only [P.aib]
  rw [bg (by omega), Nat.sub_self]
  simp
theorem ac6 (b : List Int) (w c : Int) (hb : In 256 b) (hn : b.length ≤ 1000000) {ρ : Type} (k : List Int → Option ρ) : P.ac6 b w c k = k (uf b w c) := by
 rw [P.ba3]
 unfold P.ahp
 rw [ama b w c hn, ji]
 unfold uf
 by_cases hs : Such b.length w c
 rotate_left
 ·rw [decide_eq_false hs, vo, if_neg hs]
 rw [decide_eq_true hs, o9, if_pos hs]
 obtain ⟨h1, h2, h3, h4⟩ := hs
 obtain ⟨w, rfl⟩ := Int.eq_ofNat_of_zero_le (show 0 ≤ w by omega)
 obtain ⟨c, rfl⟩ := Int.eq_ofNat_of_zero_le h3
 have h4 : c * w ≤ b.length * 8 := by exact_mod_cast h4
 have hc : c ≤ c * w := Nat.le_mul_of_pos_right c (by omega)
 simp only [toNat_cast]
 rw [P.atx]
 unfold P.aos P.bzn P.byd P.b29
 refine qo (fun i => (b, (w : Int), (c : Int), (i : Int), (List.range i).map (dg w b.length (T 8 b.reverse)))) c (by simp) (fun i hi next hn' => ?_) (fun next => ?_) (by omega)
 ·have hwi : w * (i + 1) = w * i + w := Nat.mul_succ w i
  have hwc : w * (i + 1) ≤ b.length * 8 := Nat.le_trans (Nat.mul_le_mul (Nat.le_refl w) hi) (by rw [Nat.mul_comm]; exact h4)
  simp only [P.ajt]
  rw [ah (by omega), P.atz]
  unfold P.ap8 P.bx6 P.bxf P.b1r
  refine qo (fun j => (b, (w : Int), (c : Int), (i : Int), ((T 8 b.reverse / 2 ^ (8 * b.length - (w * i + j)) % 2 ^ j : Nat) : Int), (j : Int), (List.range i).map (dg w b.length (T 8 b.reverse)))) w (by simp [Nat.mod_one]) (fun j hj next2 hn2 => ?_) (fun next2 => ?_) (by omega)
  ·obtain ⟨x, hx, hx2, hx3⟩ := byte_at hb ((w * i + j) / 8)
   simp only [P.ai5]
   rw [wmul i w (by omega), ← Int.natCast_add, nu (x := ((w * i + j : Nat) : Int)) (by omega) (by omega), td8, tm8, nu (x := (((w * i + j) / 8 : Nat) : Int)) (by omega) (by omega),
    show (7 : Int) - (((w * i + j) % 8 : Nat) : Int) = ((7 - (w * i + j) % 8 : Nat) : Int) by omega, nu (x := ((7 - (w * i + j) % 8 : Nat) : Int)) (by omega) (by omega)]
   simp only [toNat_cast]
   have hv := Nat.mod_lt (T 8 b.reverse / 2 ^ (8 * b.length - (w * i + j))) (p2 j)
   have hv2 : 2 ^ j ≤ 2 ^ 24 := bhd (by omega)
   rw [hx, bu9 x _ hx2 (by omega), btz _ _ (by omega) (by omega), hx3, bqa b _ (by omega)]
   have e := bf0 (T 8 b.reverse) (8 * (b.length - 1 - (w * i + j) / 8)) 8 (7 - (w * i + j) % 8) 1 (by omega)
   rw [Nat.pow_one, show 8 * (b.length - 1 - (w * i + j) / 8) + (7 - (w * i + j) % 8) = 8 * b.length - (w * i + (j + 1)) by omega] at e
   rw [e, show 8 * b.length - (w * i + j) = 8 * b.length - (w * i + (j + 1)) + 1 by omega, bv9]
   simp (disch := omega) only [ah, bg, d9, au, bq, ak, ji, o9, vo, nu]
   exact hn2
  ·simp only [P.ai5, List.length_map, List.length_range]
   simp (disch := omega) only [ah, bg, d9, au, bq, ak, ji, o9, vo, nu]
   have ed : ((T 8 b.reverse / 2 ^ (8 * b.length - (w * i + w)) % 2 ^ w : Nat) : Int) = dg w b.length (T 8 b.reverse) i := by unfold dg; rw [hwi]
   rw [ed, amz]
   exact hn'
 ·simp only [P.ajt]
  rw [bg (by omega)]
end Q
end

section
/- bits: numbers as bytes and back. -/
namespace Q
open Go Go.Abs
set_option linter.unusedVariables false
set_option linter.unusedSimpArgs false
theorem bpj (w n m X : Nat) (hm : m ≤ n) (hX : X < 2 ^ (w * m)) : bsw w m X ++ List.replicate (n - m) 0 = bsw w n X := by
 refine List.ext_getElem (by simp; omega) (fun i h1 h2 => ?_)
 have hi : i < n := by simpa using h2
 rw [← getD_lt (d := 0) h2, biq _ _ _ _ hi]
 by_cases him : i < m
 ·rw [List.getElem_append_left (by simpa using him), ← getD_lt (d := 0), biq _ _ _ _ him]
 ·rw [List.getElem_append_right (by simp; omega), List.getElem_replicate, Nat.div_eq_of_lt]
  ·rfl
  ·exact Nat.lt_of_lt_of_le hX (bhd (Nat.mul_le_mul (Nat.le_refl _) (by omega)))
theorem aei (N s : Nat) (hN : N < 18446744073709551616) (hs : s ≤ 65536) {ρ : Type} (k : List Int → Option ρ) : P.aei (N : Int) (s : Int) k = k (bsw 8 s N) := by
 rw [P.ayo]
 unfold P.aoj
 have em : (bif decide ((8 : Int) < (s : Int)) then (8 : Int) else (s : Int)) = ((min s 8 : Nat) : Int) := by
  by_cases h : (8 : Int) < (s : Int)
  ·rw [decide_eq_true h]; simp only [cond_true]; omega
  ·rw [decide_eq_false h]; simp only [cond_false]; omega
 simp only [toNat_cast]
 rw [em]
 simp (disch := omega) only [ah, bg, d9, au, bq, ak, ji, o9, vo, nu]
 rw [P.bb7]
 unfold P.az4 P.zk8 P.zs8 P.zu8
 refine qo (fun i => ((N : Int), ((min s 8 : Nat) : Int), (i : Int), bsw 8 i N ++ List.replicate (s - i) 0)) (min s 8) (by simp [bsw]) (fun i hi next hn' => ?_) (fun next => ?_) (by omega)
 ·simp only [P.asf, List.length_append, aay, List.length_replicate, toNat_cast]
  rw [show (8 : Int) * (i : Int) = ((8 * i : Nat) : Int) by omega, nu (x := ((8 * i : Nat) : Int)) (by omega) (by omega)]
  simp only [toNat_cast]
  rw [fdiv_pow N _ 64 (by omega), u8m]
  simp (disch := omega) only [ah, bg, d9, au, bq, ak, ji, o9, vo, nu]
  rw [List.set_append_right _ _ (by simp), aay, Nat.sub_self, show s - i = (s - (i + 1)) + 1 by omega, List.replicate_succ, List.set_cons_zero]
  rw [bav, List.append_assoc, List.singleton_append] at hn'
  exact hn'
 ·simp only [P.asf]
  rw [bg (by omega)]
  by_cases h : s ≤ 8
  ·rw [Nat.min_eq_left h, Nat.sub_self]; simp
  ·rw [Nat.min_eq_right (by omega), bpj 8 s 8 N (by omega) (by omega)]
theorem boa {f : Nat → Int} (n q : Nat) (v : Int) : ((List.range n).map f).set q v = (List.range n).map (fun j => if j = q then v else f j) := by
 refine List.ext_getElem (by simp) (fun i h1 h2 => ?_)
 simp only [List.getElem_set, List.getElem_map, List.getElem_range]
 by_cases h : q = i
 ·rw [if_pos h, if_pos h.symm]
 ·rw [if_neg h, if_neg (fun e => h e.symm)]
theorem bi6 {f : Nat → Int} (n q : Nat) (h : q < n) : ((List.range n).map f).getD q 0 = f q := by
 rw [getD_lt (by simpa using h)]; simp
theorem bqs (l : List Int) : l = (List.range l.length).map (fun j => l.getD j 0) := by
 refine List.ext_getElem (by simp) (fun i h1 h2 => ?_)
 simp only [List.getElem_map, List.getElem_range]
 rw [getD_lt h1]
theorem gq (N s : Nat) (hN : N < 18446744073709551616) (hs : s ≤ 65536) {ρ : Type} (k : List Int → Option ρ) : P.gq (N : Int) (s : Int) k = k (bsw 8 s N).reverse := by
 rw [P.ayx]
 unfold P.anx
 rw [aei N s hN hs, P.aw0]
 unfold P.ati P.zk9 P.zs9 P.zu9
 simp only [aay]
 rw [nu (by omega) (by omega)]
 have hfin : (bsw 8 s N).reverse = (List.range s).map (fun q => (bsw 8 s N).getD (s - 1 - q) 0) := by
  refine List.ext_getElem (by simp) (fun i h1 h2 => ?_)
  have hi : i < s := by simpa using h2
  rw [List.getElem_reverse, List.getElem_map, List.getElem_range, getD_lt (by simp; omega)]
  congr 1; simp
 have h0 : bsw 8 s N = (List.range s).map (fun q => if q < 0 ∨ s - 0 ≤ q then (bsw 8 s N).getD (s - 1 - q) 0 else (bsw 8 s N).getD q 0) := by
  have e := bqs (bsw 8 s N)
  rw [aay] at e
  refine e.trans (List.map_congr_left (fun q hq => ?_))
  have := List.mem_range.1 hq
  rw [if_neg (by omega)]
 generalize bsw 8 s N = l at h0 hfin
 refine qo (fun i => ((i : Int), (s : Int) - 1 - (i : Int), (List.range s).map (fun q => if q < i ∨ s - i ≤ q then l.getD (s - 1 - q) 0 else l.getD q 0))) (s / 2) (by rw [← h0]; simp) (fun i hi next hn' => ?_) (fun next => ?_) (by omega)
 ·simp only [P.alf, List.length_map, List.length_range, List.length_set]
  rw [show (s : Int) - 1 - (i : Int) = ((s - 1 - i : Nat) : Int) by omega]
  simp only [toNat_cast]
  rw [bi6 _ _ (by omega), bi6 _ _ (by omega), if_neg (by omega), if_neg (by omega), boa, boa]
  have e : (List.range s).map (fun q => if q < i + 1 ∨ s - (i + 1) ≤ q then l.getD (s - 1 - q) 0 else l.getD q 0) = (List.range s).map (fun j => if j = s - 1 - i then l.getD i 0 else if j = i then l.getD (s - 1 - i) 0 else if j < i ∨ s - i ≤ j then l.getD (s - 1 - j) 0 else l.getD j 0) := by
   refine List.map_congr_left (fun q hq => ?_)
   have := List.mem_range.1 hq
   by_cases a1 : q = s - 1 - i
   ·subst a1; rw [if_pos (by omega), if_pos rfl]; congr 1; omega
   ·rw [if_neg a1]
    by_cases a2 : q = i
    ·subst a2; rw [if_pos (by omega), if_pos rfl]
    ·rw [if_neg a2]
     by_cases a3 : q < i ∨ s - i ≤ q
     ·rw [if_pos (by omega), if_pos a3]
     ·rw [if_neg (by omega), if_neg a3]
  rw [e] at hn'
  simp (disch := omega) only [ah, bg, d9, au, bq, ak, ji, o9, vo, nu]
  rw [show ((s - 1 - i : Nat) : Int) - 1 = (s : Int) - 1 - ((i + 1 : Nat) : Int) by omega]
  exact hn'
 ·simp only [P.alf]
  rw [bg (by omega), hfin]
  congr 1
  refine List.map_congr_left (fun q hq => ?_)
  have := List.mem_range.1 hq
  by_cases a3 : q < s / 2 ∨ s - s / 2 ≤ q
  ·rw [if_pos a3]
  ·rw [if_neg a3]; congr 1; omega
theorem jh (b : List Int) (hb : In 256 b) (hn : b.length ≤ 1000000) {ρ : Type} (k : Int → Option ρ) : P.jh b k = k ((T 8 b.reverse % 2 ^ 64 : Nat) : Int) := by
 rw [P.awt]
 unfold P.al4
 rw [P.ayj]
 unfold P.av3 P.zk5 P.zs5 P.zu5
 refine qo (fun i => (((T 8 (b.take i).reverse % 2 ^ 64 : Nat) : Int), b, (b.length : Int), (i : Int))) b.length (by simp [T]) (fun i hi next hn' => ?_) (fun next => ?_) (by omega)
 ·obtain ⟨x, hx, hx2, hx3⟩ := byte_at hb i
  have est := bch b i hi
  rw [← hx3] at est
  simp only [P.anj, toNat_cast]
  have e1 : IntKind.u64.wrap (((T 8 (b.take i).reverse % 2 ^ 64 : Nat) : Int) * 2 ^ 8) = ((T 8 (b.take i).reverse % 2 ^ 56 * 2 ^ 8 : Nat) : Int) := by
   rw [bo0]; omega
  rw [hx, e1, aag x (by omega), bmg _ _ (by omega) (by omega), bi3 _ _ _ (by omega),
   show T 8 (b.take i).reverse % 2 ^ 56 * 2 ^ 8 + x = T 8 (b.take (i + 1)).reverse % 2 ^ 64 by rw [est]; omega]
  simp (disch := omega) only [ah, bg, d9, au, bq, ak, ji, o9, vo, nu]
  exact hn'
 ·simp only [P.anj]
  rw [bg (by omega), List.take_length]
end Q
end

section
/- SHA-2: the program's engine of 32 bits. -/
namespace Q
open Go Go.Abs
set_option linter.unusedVariables false
set_option linter.unusedSimpArgs false
theorem ahr (rd : Int) (t0 t1 t2 t3 : List Int) (x : BitVec 32) (m : Int) (n : Nat) (hm : m = (n : Int)) (hn : n ≤ 32) {ρ : Type} (k : Int → Option ρ) :
    P.ay 32 rd t0 t1 t2 t3 (x.toNat : Int) m k = k ((rr x n).toNat : Int) := by
 subst hm
 rw [P.abb]
 unfold P.wh
 rw [bg (by omega), nu (by omega) (by omega), bg (by omega), show (32 : Int) - (n : Int) = ((32 - n : Nat) : Int) by omega]
 simp only [toNat_cast]
 rw [bs4 _ _ hn, b38 _ _ (by omega), b5s]
 rfl
theorem bos (rd : Int) (x : BitVec 32) {ρ : Type} (k : Int → Option ρ) : P.jd 32 rd [7, 18, 3] [17, 19, 10] [2, 13, 22] [6, 11, 25] (x.toNat : Int) 3 k = k ((hi p32.d x).toNat : Int) := by
 rw [P.zk]
 unfold P.uh
 simp only [List.getD_cons_zero, List.getD_cons_succ]
 rw [bg (by decide), bg (by decide), bg (by decide), ah (by decide), ahr _ _ _ _ _ _ _ 6 (by rfl) (by omega), ahr _ _ _ _ _ _ _ 11 (by rfl) (by omega), ahr _ _ _ _ _ _ _ 25 (by rfl) (by omega), bam, bam]
 rfl
theorem bnr (rd : Int) (x : BitVec 32) {ρ : Type} (k : Int → Option ρ) : P.jd 32 rd [7, 18, 3] [17, 19, 10] [2, 13, 22] [6, 11, 25] (x.toNat : Int) 2 k = k ((hi p32.c x).toNat : Int) := by
 rw [P.zk]
 unfold P.uh
 simp only [List.getD_cons_zero, List.getD_cons_succ]
 rw [bg (by decide), bg (by decide), ah (by decide), ahr _ _ _ _ _ _ _ 2 (by rfl) (by omega), ahr _ _ _ _ _ _ _ 13 (by rfl) (by omega), ahr _ _ _ _ _ _ _ 22 (by rfl) (by omega), bam, bam]
 rfl
theorem bpt (rd : Int) (x : BitVec 32) {ρ : Type} (k : Int → Option ρ) : P.jl 32 rd [7, 18, 3] [17, 19, 10] [2, 13, 22] [6, 11, 25] (x.toNat : Int) 0 k = k ((lo p32.a x).toNat : Int) := by
 rw [P.zw]
 unfold P.u6
 simp only [List.getD_cons_zero, List.getD_cons_succ]
 rw [ah (by decide), ahr _ _ _ _ _ _ _ 7 (by rfl) (by omega), ahr _ _ _ _ _ _ _ 18 (by rfl) (by omega), bg (by decide), bam, show (3 : Int).toNat = 3 from rfl, bs4 _ _ (by omega), bam]
 rfl
theorem bqk (rd : Int) (x : BitVec 32) {ρ : Type} (k : Int → Option ρ) : P.jl 32 rd [7, 18, 3] [17, 19, 10] [2, 13, 22] [6, 11, 25] (x.toNat : Int) 1 k = k ((lo p32.b x).toNat : Int) := by
 rw [P.zw]
 unfold P.u6
 simp only [List.getD_cons_zero, List.getD_cons_succ]
 rw [bg (by decide), ah (by decide), ahr _ _ _ _ _ _ _ 17 (by rfl) (by omega), ahr _ _ _ _ _ _ _ 19 (by rfl) (by omega), bg (by decide), bam, show (10 : Int).toNat = 10 from rfl, bs4 _ _ (by omega), bam]
 rfl
theorem bqf (t : Nat) (h : t < 64) {ρ : Type} (k : Int → Option ρ) : P.ng (t : Int) k = k ((p32.K t).toNat : Int) := by
 rw [P.am3]
 unfold P.aga
 rw [ah (by omega), ah (by omega), toNat_cast, K32]
theorem v8 {w : Nat} (v : List (BitVec w)) (hv : v.length = 8) : v = [v.getD 0 0, v.getD 1 0, v.getD 2 0, v.getD 3 0, v.getD 4 0, v.getD 5 0, v.getD 6 0, v.getD 7 0] := by
 match v, hv with
 | [a, b, c, d, e, f, g, h], _ => rfl
theorem b5k (t : Nat) : ((t : Nat) : Int).tmod 16 = ((t % 16 : Nat) : Int) := by
 rw [Int.tmod_eq_emod_of_nonneg (by omega)]; rfl
theorem bw5 (b : List Int) (hb : In 256 b) (hl : b.length = 16 * 4) (rd : Int) (t0 t1 t2 t3 h1 h2 : List Int) {ρ : Type} (k0 : List Int → Int → Int → Int → Int → List Int → List Int → List Int → List Int → List Int → List Int → List Int → Option ρ) :
    P.yh b 4 0 32 rd t0 t1 t2 t3 h1 h2 (List.replicate 16 0) k0 = k0 b 4 16 32 rd t0 t1 t2 t3 h1 h2 (cv (kg 32 b 16)) := by
 rw [P.afi]
 unfold P.ab7 P.bzd P.bvi P.b2d
 refine qo (fun i => (b, 4, (i : Int), 32, rd, t0, t1, t2, t3, h1, h2, cv (kg 32 b i) ++ List.replicate (16 - i) 0)) 16 (by simp [kg, cv]) (fun i hi next hn' => ?_) (fun next => ?_) (by omega)
 ·simp only [P.yu, toNat_cast]
  have e1 : IntKind.i64.wrap ((i : Int) * 4) = ((i * 4 : Nat) : Int) := by rw [nu (by omega) (by omega)]; omega
  have e2 : IntKind.i64.wrap (IntKind.i64.wrap ((i : Int) + 1) * 4) = (((i + 1) * 4 : Nat) : Int) := by rw [nu (x := (i : Int) + 1) (by omega) (by omega), nu (by omega) (by omega)]; omega
  rw [e1, e2]
  simp only [toNat_cast]
  have hlen : ((b.take ((i + 1) * 4)).drop (i * 4)).length = 4 := by simp; omega
  rw [ah (by omega), ah (by omega), ah (by omega), ah (by omega), jh _ ((hb.take _).drop _) (by omega), ah (by omega), ah (by omega)]
  have e3 : IntKind.u32.wrap ((T 8 ((b.take ((i + 1) * 4)).drop (i * 4)).reverse % 2 ^ 64 : Nat) : Int) = (((BitVec.ofNat 32 (T 8 ((b.take ((i + 1) * 4)).drop (i * 4)).reverse)).toNat : Nat) : Int) := by
   rw [bua, BitVec.toNat_ofNat]; omega
  have e4 : IntKind.i64.wrap ((i : Int) + 1) = ((i + 1 : Nat) : Int) := by rw [nu (by omega) (by omega)]; omega
  rw [e3, e4]
  have e5 : (cv (kg 32 b i) ++ List.replicate (16 - i) (0 : Int)).set i (((BitVec.ofNat 32 (T 8 ((b.take ((i + 1) * 4)).drop (i * 4)).reverse)).toNat : Nat) : Int) = cv (kg 32 b (i + 1)) ++ List.replicate (16 - (i + 1)) 0 := by
   rw [List.set_append_right _ _ (by simp [qd]), vk, qd, Nat.sub_self, show 16 - i = (16 - (i + 1)) + 1 by omega, List.replicate_succ, List.set_cons_zero, awv, ← ae7, List.append_assoc]
   rfl
  rw [e5]
  exact hn'
 ·simp only [P.yu]
  rw [bg (by omega)]
  simp
theorem brs (l v : List (BitVec 32)) (hv : v.length = 8) (h2 h1 : List Int) {ρ : Type} (k0 : Int → Int → List Int → List Int → List Int → Int → Int → List Int → List Int → List Int → List Int → List Int → Option ρ) (hl : l.length = 16) :
    P.sj 64 0 (cv (win p32 l 0)) h2 h1 32 64 [7, 18, 3] [17, 19, 10] [2, 13, 22] [6, 11, 25] (cv v) k0 =
     k0 64 64 (cv (win p32 l 64)) h2 h1 32 64 [7, 18, 3] [17, 19, 10] [2, 13, 22] [6, 11, 25] (cv (runs p32 l v 64)) := by
 rw [P.ae2]
 unfold P.abm P.bx7 P.zs12 P.b3c
 refine qo (fun t => (64, (t : Int), cv (win p32 l t), h2, h1, 32, 64, [7, 18, 3], [17, 19, 10], [2, 13, 22], [6, 11, 25], cv (runs p32 l v t))) 64 rfl (fun t ht next hn' => ?_) (fun next => ?_) (by omega)
 ·simp only [P.yc]
  have e1 : IntKind.i64.wrap ((t : Int) + 1) = ((t + 1 : Nat) : Int) := by rw [nu (by omega) (by omega)]; omega
  have e9 : IntKind.i64.wrap ((t : Int) + 9) = ((t + 9 : Nat) : Int) := by rw [nu (by omega) (by omega)]; omega
  have e14 : IntKind.i64.wrap ((t : Int) + 14) = ((t + 14 : Nat) : Int) := by rw [nu (by omega) (by omega)]; omega
  simp only [e1, e9, e14, b5k, toNat_cast, afm]
  have g0 := asi p32 l t 0 (by omega)
  rw [Nat.add_zero] at g0
  rw [g0, asi p32 l t 1 (by omega), asi p32 l t 9 (by omega), asi p32 l t 14 (by omega)]
  have hV := v8 _ (ame p32 l v hv t)
  rw [ah (by omega), ah (by omega), ah (by omega), bos, bqf t ht, bnr, ah (by omega), ah (by omega), bpt, ah (by omega), ah (by omega), ah (by omega), ah (by omega), bqk, ah (by omega), ah (by omega)]
  simp only [add32, bam, b3a, b5s]
  rw [← bjq p32 l hl t, azv, bjv]
  have hr : cv (runs p32 l v (t + 1)) = (((List.take 1 (cv (runs p32 l v t))).append (List.take 7 (List.take 7 (List.drop 0 (cv (runs p32 l v t)))) ++ List.drop (1 + min 7 (List.take 7 (List.drop 0 (cv (runs p32 l v t)))).length) (cv (runs p32 l v t)))).set 4
      (((runs p32 l v t).getD 3 0 + bt5 p32 t (W p32 l t) (runs p32 l v t)).toNat : Int)).set 0 ((bt5 p32 t (W p32 l t) (runs p32 l v t) + b1z p32 (runs p32 l v t)).toNat : Int) := by
   rw [hV]
   rfl
  have h3 : ((List.take 1 (cv (runs p32 l v t))).append (List.take 7 (List.take 7 (List.drop 0 (cv (runs p32 l v t)))) ++ List.drop (1 + min 7 (List.take 7 (List.drop 0 (cv (runs p32 l v t)))).length) (cv (runs p32 l v t)))).getD 4 0 = (((runs p32 l v t).getD 3 0).toNat : Int) := by
   rw [hV]
   rfl
  rw [h3, add32]
  rw [hr] at hn'
  exact hn'
 ·simp only [P.yc]
  rw [bg (by omega)]
  rfl
theorem bs2 (v u : List (BitVec 32)) (hv : v.length = 8) (hu : u.length = 8) (h2 : List Int) {ρ : Type} (k0 : Int → List Int → List Int → List Int → Option ρ) :
    P.sw 0 (cv v) h2 (cv u) k0 = k0 8 (cv v) h2 (cv ((List.range 8).map fun i => u.getD i 0 + v.getD i 0)) := by
 rw [P.ae4]
 unfold P.abw P.by0 P.bul P.b2h
 have hs : ∀ i, i ≤ 8 → (((List.range i).map fun i => u.getD i 0 + v.getD i 0) ++ u.drop i).length = 8 := fun i hi => by simp; omega
 refine qo (fun i => ((i : Int), cv v, h2, cv (((List.range i).map fun i => u.getD i 0 + v.getD i 0) ++ u.drop i))) 8 (by simp) (fun i hi next hn' => ?_) (fun next => ?_) (by omega)
 ·simp only [P.xg, toNat_cast, afm]
  have e1 : IntKind.i64.wrap ((i : Int) + 1) = ((i + 1 : Nat) : Int) := by rw [nu (by omega) (by omega)]; omega
  have e2 : (((List.range i).map fun i => u.getD i 0 + v.getD i 0) ++ u.drop i).getD i 0 = u.getD i 0 := by
   rw [List.getD_eq_getElem?_getD, List.getElem?_append_right (by simp), List.getElem?_drop, List.length_map, List.length_range, List.getD_eq_getElem?_getD]
   congr 2
   omega
  rw [e1, e2, add32, azv]
  have e3 : (((List.range i).map fun i => u.getD i 0 + v.getD i 0) ++ u.drop i).set i (u.getD i 0 + v.getD i 0) = ((List.range (i + 1)).map fun i => u.getD i 0 + v.getD i 0) ++ u.drop (i + 1) := by
   rw [List.set_append_right _ _ (by simp), List.length_map, List.length_range, Nat.sub_self, List.range_succ, List.map_append, List.append_assoc, List.drop_eq_getElem_cons (by omega), List.set_cons_zero]
   rfl
  rw [e3]
  simp (disch := omega) only [ah, bg, d9, au, bq, ak, ji, o9, vo, nu]
  exact hn'
 ·simp only [P.xg]
  rw [bg (by omega), List.drop_eq_nil_of_le (by omega), List.append_nil]
  rfl
theorem bm2 (v : List (BitVec 32)) (hv : v.length = 8) (b : List Int) (hb : In 256 b) (hl : b.length = 16 * 4) {ρ : Type} (k : List Int → Option ρ) :
    P.j6 32 64 [7, 18, 3] [17, 19, 10] [2, 13, 22] [6, 11, 25] (cv v) b k = k (cv (ava p32 v b)) := by
 rw [P.ab8]
 unfold P.w9
 rw [show IntKind.i64.wrap ((32 : Int).tdiv 8) = 4 from rfl]
 have := bw5 b hb hl 64 [7, 18, 3] [17, 19, 10] [2, 13, 22] [6, 11, 25] (cv v) (List.replicate 8 0) (fun (q0 : List Int) (q1 q2 q3 q4 : Int) (q5 q6 q7 q8 q9 q10 q11 : List Int) =>
  P.sj q4 (0 : Int) q11 q10 q9 q3 q4 q5 q6 q7 q8 q9
   fun (q12 q13 : Int) (q14 q15 q16 : List Int) (q17 q18 : Int) (q19 q20 q21 q22 q23 : List Int) =>
   P.sw (0 : Int) q16 q15 q23 fun (q24 : Int) (q25 q26 q27 : List Int) => k q27)
 refine this.trans ?_
 rw [← win_zero p32, brs _ v hv _ _ _ (qd b 16), bs2 v _ hv (ame _ _ _ hv _)]
 rfl
end Q
end

section
/- SHA-2: the document's block of words of 32 bits. -/
namespace Q
open Go Go.Abs
set_option linter.unusedVariables false
set_option linter.unusedSimpArgs false
theorem acf (b : List Int) (hb : In 256 b) (hn : b.length ≤ 1000000) {ρ : Type} (k : Int → Option ρ) : P.acf b k = k ((T 8 b.reverse % 2 ^ 64 : Nat) : Int) := by
 rw [P.bj3]
 unfold P.aol
 rw [P.ba6]
 unfold P.azp P.byo P.bzq P.b1t
 refine qo (fun i => (b, ((T 8 (b.take i).reverse % 2 ^ 64 : Nat) : Int), (i : Int))) b.length (by simp [T]) (fun i hi next hn' => ?_) (fun next => ?_) (by omega)
 ·obtain ⟨x, hx, hx2, hx3⟩ := byte_at hb i
  have est := bch b i hi
  rw [← hx3] at est
  simp only [P.arw, toNat_cast]
  have e1 : IntKind.u64.wrap (IntKind.u64.wrap (((T 8 (b.take i).reverse % 2 ^ 64 : Nat) : Int) * 256) + IntKind.u64.wrap (x : Int)) = ((T 8 (b.take (i + 1)).reverse % 2 ^ 64 : Nat) : Int) := by
   rw [bo0, bo0, bo0, est]; omega
  rw [hx, e1]
  simp (disch := omega) only [ah, bg, d9, au, bq, ak, ji, o9, vo, nu]
  exact hn'
 ·simp only [P.arw]
  rw [bg (by omega), List.take_length]
theorem alz (x m : Int) (n : Nat) (hm : m = (n : Int)) (hn : n ≤ 32) : ∃ q, ∀ {ρ : Type} (k : Int → Option ρ), P.aci x m false k = k q := by
 subst hm
 refine ⟨bits .or .u64 (x.fdiv ((2 : Int) ^ min ((n : Int)).toNat 64)) (bits .and .u64 (IntKind.u64.wrap (x * (2 : Int) ^ min ((32 : Int) - (n : Int)).toNat 64)) 4294967295), fun k => ?_⟩
 rw [P.ak2]
 unfold P.adt
 rw [vo, bg (by omega), nu (by omega) (by omega), bg (by omega)]
theorem bna (x a b c : Int) (l m n : Nat) (ha : a = (l : Int)) (hb : b = (m : Int)) (hc : c = (n : Int)) (h1 : l ≤ 32) (h2 : m ≤ 32) (h3 : n ≤ 32) : ∃ q, ∀ {ρ : Type} (k : Int → Option ρ), P.ab9 x a b c false false k = k q := by
 obtain ⟨q1, e1⟩ := alz x a l ha h1
 obtain ⟨q2, e2⟩ := alz x b m hb h2
 obtain ⟨q3, e3⟩ := alz x c n hc h3
 refine ⟨bits .xor .u64 (bits .xor .u64 q1 q2) q3, fun k => ?_⟩
 rw [P.af4]
 unfold P.abg
 rw [bg (by omega), ji, vo, e3, e1, e2]
theorem bjh (x a b c : Int) (l m n : Nat) (ha : a = (l : Int)) (hb : b = (m : Int)) (hc : c = (n : Int)) (h1 : l ≤ 32) (h2 : m ≤ 32) (h3 : n ≤ 32) : ∃ q, ∀ {ρ : Type} (k : Int → Option ρ), P.ab9 x a b c true false k = k q := by
 obtain ⟨q1, e1⟩ := alz x a l ha h1
 obtain ⟨q2, e2⟩ := alz x b m hb h2
 refine ⟨bits .xor .u64 (bits .xor .u64 q1 q2) (x.fdiv ((2 : Int) ^ min c.toNat 64)), fun k => ?_⟩
 rw [P.af4]
 unfold P.abg
 rw [bg (by omega), ji, o9, e1, e2]
theorem ald (x : BitVec 32) (m : Int) (n : Nat) (hm : m = (n : Int)) (hn : n ≤ 32) {ρ : Type} (k : Int → Option ρ) : P.aci (x.toNat : Int) m false k = k ((rr x n).toNat : Int) := by
 subst hm
 rw [P.ak2]
 unfold P.adt
 rw [vo, bg (by omega), nu (by omega) (by omega), bg (by omega), show (32 : Int) - (n : Int) = ((32 - n : Nat) : Int) by omega]
 simp only [toNat_cast]
 rw [b6i _ _ (by omega), nshl _ _ (by omega), nor]
 rfl
theorem bq7 (x : BitVec 32) (t : Nat × Nat × Nat) (a b c : Int) (ha : a = (t.1 : Int)) (hb : b = (t.2.1 : Int)) (hc : c = (t.2.2 : Int)) (h1 : t.1 ≤ 32) (h2 : t.2.1 ≤ 32) (h3 : t.2.2 ≤ 32) {ρ : Type} (k : Int → Option ρ) :
    P.ab9 (x.toNat : Int) a b c false false k = k ((hi t x).toNat : Int) := by
 rw [P.af4]
 unfold P.abg
 rw [bg (by omega), ji, vo, ald _ _ _ hc h3, ald _ _ _ ha h1, ald _ _ _ hb h2, brq, brq]
 rfl
theorem brr (x : BitVec 32) (t : Nat × Nat × Nat) (a b c : Int) (ha : a = (t.1 : Int)) (hb : b = (t.2.1 : Int)) (hc : c = (t.2.2 : Int)) (h1 : t.1 ≤ 32) (h2 : t.2.1 ≤ 32) (h3 : t.2.2 ≤ 32) {ρ : Type} (k : Int → Option ρ) :
    P.ab9 (x.toNat : Int) a b c true false k = k ((lo t x).toNat : Int) := by
 rw [P.af4]
 unfold P.abg
 rw [bg (by omega), ji, o9, ald _ _ _ ha h1, ald _ _ _ hb h2, brq, hc]
 simp only [toNat_cast]
 rw [b6i _ _ (by omega), brq]
 rfl
theorem b1b (a b c d : BitVec 32) : bits .and .u64 (IntKind.u64.wrap (IntKind.u64.wrap (IntKind.u64.wrap ((a.toNat : Int) + (b.toNat : Int)) + (c.toNat : Int)) + (d.toNat : Int))) 4294967295 = ((a + b + c + d).toNat : Int) := by
 have ha := auy a
 have hb := auy b
 have hc := auy c
 have hd := auy d
 rw [← Int.natCast_add, aag _ (by omega), ← Int.natCast_add, aag _ (by omega), ← Int.natCast_add, aag _ (by omega), bl2 _ (by omega), BitVec.toNat_add, BitVec.toNat_add, BitVec.toNat_add]
 omega
theorem b4m (a b : BitVec 32) : bits .and .u64 (IntKind.u64.wrap ((a.toNat : Int) + (b.toNat : Int))) 4294967295 = ((a + b).toNat : Int) := by
 have ha := auy a
 have hb := auy b
 rw [← Int.natCast_add, aag _ (by omega), bl2 _ (by omega), BitVec.toNat_add]
theorem b1l (d a b c e f : BitVec 32) : bits .and .u64 (IntKind.u64.wrap ((d.toNat : Int) + IntKind.u64.wrap (IntKind.u64.wrap (IntKind.u64.wrap (IntKind.u64.wrap ((a.toNat : Int) + (b.toNat : Int)) + (c.toNat : Int)) + (e.toNat : Int)) + (f.toNat : Int)))) 4294967295 = ((d + (a + b + c + e + f)).toNat : Int) := by
 have hd := auy d
 have ha := auy a
 have hb := auy b
 have hc := auy c
 have he := auy e
 have hf := auy f
 rw [← Int.natCast_add, aag _ (by omega), ← Int.natCast_add, aag _ (by omega), ← Int.natCast_add, aag _ (by omega), ← Int.natCast_add, aag _ (by omega), ← Int.natCast_add, aag _ (by omega), bl2 _ (by omega), BitVec.toNat_add, BitVec.toNat_add, BitVec.toNat_add, BitVec.toNat_add, BitVec.toNat_add]
 omega
theorem b22 (a b c e f g h : BitVec 32) : bits .and .u64 (IntKind.u64.wrap (IntKind.u64.wrap (IntKind.u64.wrap (IntKind.u64.wrap (IntKind.u64.wrap ((a.toNat : Int) + (b.toNat : Int)) + (c.toNat : Int)) + (e.toNat : Int)) + (f.toNat : Int)) + IntKind.u64.wrap ((g.toNat : Int) + (h.toNat : Int)))) 4294967295 = (((a + b + c + e + f) + (g + h)).toNat : Int) := by
 have ha := auy a
 have hb := auy b
 have hc := auy c
 have he := auy e
 have hf := auy f
 have hg := auy g
 have hh := auy h
 rw [← Int.natCast_add, aag _ (by omega), ← Int.natCast_add, aag _ (by omega), ← Int.natCast_add, aag _ (by omega), ← Int.natCast_add, aag _ (by omega), ← Int.natCast_add (g.toNat), aag _ (by omega), ← Int.natCast_add, aag _ (by omega), bl2 _ (by omega), BitVec.toNat_add, BitVec.toNat_add, BitVec.toNat_add, BitVec.toNat_add, BitVec.toNat_add, BitVec.toNat_add]
 omega
theorem b2f (e f g : BitVec 32) : bits .xor .u64 (bits .and .u64 (e.toNat : Int) (f.toNat : Int)) (bits .and .u64 (bits .xor .u64 4294967295 (e.toNat : Int)) (g.toNat : Int)) = ((g ^^^ (e &&& (f ^^^ g))).toNat : Int) := by
 rw [show (4294967295 : Int) = ((BitVec.allOnes 32).toNat : Int) from rfl, nand, brq, nand, brq, bw7]
theorem bwh (a b c : BitVec 32) : bits .xor .u64 (bits .xor .u64 (bits .and .u64 (a.toNat : Int) (b.toNat : Int)) (bits .and .u64 (a.toNat : Int) (c.toNat : Int))) (bits .and .u64 (b.toNat : Int) (c.toNat : Int)) = (((a &&& b) ||| (c &&& (a ||| b))).toNat : Int) := by
 rw [nand, nand, nand, brq, brq, bq8]
def aty (b : List Int) (t : Nat) : List (BitVec 32) := (List.range t).map (W p32 (kg 32 b 16))
theorem ay4 (b : List Int) (t : Nat) : aty b (t + 1) = aty b t ++ [W p32 (kg 32 b 16) t] := by simp [aty, List.range_succ]
theorem bfh (b : List Int) (t : Nat) : (aty b t).length = t := by simp [aty]
theorem ao2 (b : List Int) (t i : Nat) (h : i < t) : (aty b t).getD i 0 = W p32 (kg 32 b 16) i := by
 unfold aty
 rw [getD_lt (by simpa using h)]; simp
theorem bsp (b : List Int) (t : Nat) (h : t < 16) : W p32 (kg 32 b 16) t = BitVec.ofNat 32 (T 8 ((b.take ((t + 1) * 4)).drop (t * 4)).reverse) := by
 rw [← bre p32 _ (by rw [qd]; omega) 0 t (by rw [qd]; omega), show sched p32 (kg 32 b 16) 0 = kg 32 b 16 from rfl, getD_lt (by rw [qd]; exact h)]
 simp [kg]
theorem bnz (b : List Int) (hb : In 256 b) (hl : b.length = 16 * 4) {ρ : Type} (k : List Int → Option ρ) : P.aii b false 64 4294967295 k = k (cv (aty b 64)) := by
 rw [P.as3]
 unfold P.afv
 rw [vo, P.akp]
 unfold P.alq P.bv6 P.bvb P.byf
 refine qo (fun t => (b, false, 64, 4294967295, 4, (t : Int), cv (aty b t))) 64 rfl (fun t ht next hn' => ?_) (fun next => ?_) (by omega)
 ·simp only [P.aev, toNat_cast]
  have e1 : IntKind.i64.wrap ((t : Int) + 1) = ((t + 1 : Nat) : Int) := by rw [nu (by omega) (by omega)]; omega
  rw [ah (by omega)]
  have hlen := bfh b t
  by_cases h16 : t < 16
  ·have e2 : IntKind.i64.wrap ((t : Int) * 4) = ((t * 4 : Nat) : Int) := by rw [nu (by omega) (by omega)]; omega
   have e3 : IntKind.i64.wrap (IntKind.i64.wrap ((t : Int) * 4) + 4) = (((t + 1) * 4 : Nat) : Int) := by rw [e2, nu (by omega) (by omega)]; omega
   have hl2 : ((b.take ((t + 1) * 4)).drop (t * 4)).length = 4 := by simp; omega
   rw [ah (by omega), e3, e2, ah (by omega), ah (by omega), ah (by omega)]
   simp only [toNat_cast]
   have hT := bs1 8 ((b.take ((t + 1) * 4)).drop (t * 4)).reverse
   rw [List.length_reverse, hl2] at hT
   have e4 : ((T 8 ((b.take ((t + 1) * 4)).drop (t * 4)).reverse % 2 ^ 64 : Nat) : Int) = ((W p32 (kg 32 b 16) t).toNat : Int) := by
    rw [bsp b t h16, BitVec.toNat_ofNat, Nat.mod_eq_of_lt (by omega), Nat.mod_eq_of_lt (by omega)]
   rw [acf _ ((hb.take _).drop _) (by omega), ah (by rw [vk]; omega), e4, e1, show [((W p32 (kg 32 b 16) t).toNat : Int)] = cv [W p32 (kg 32 b 16) t] from rfl, ae7, ← ay4]
   exact hn'
  ·have e15 : IntKind.i64.wrap ((t : Int) - 15) = ((t - 15 : Nat) : Int) := by rw [nu (by omega) (by omega)]; omega
   have e2 : IntKind.i64.wrap ((t : Int) - 2) = ((t - 2 : Nat) : Int) := by rw [nu (by omega) (by omega)]; omega
   have e7 : IntKind.i64.wrap ((t : Int) - 7) = ((t - 7 : Nat) : Int) := by rw [nu (by omega) (by omega)]; omega
   have e16 : IntKind.i64.wrap ((t : Int) - 16) = ((t - 16 : Nat) : Int) := by rw [nu (by omega) (by omega)]; omega
   simp only [e15, e2, e7, e16, toNat_cast, afm, vk, hlen]
   rw [ao2 b t _ (by omega), ao2 b t _ (by omega), ao2 b t _ (by omega), ao2 b t _ (by omega)]
   rw [bg (by omega), ah (by omega), ah (by omega), brr _ p32.a _ _ _ (by rfl) (by rfl) (by rfl) (by decide) (by decide) (by decide), ah (by omega), ah (by omega), brr _ p32.b _ _ _ (by rfl) (by rfl) (by rfl) (by decide) (by decide) (by decide), vo]
   have hW := bjq p32 (kg 32 b 16) (qd b 16) (t - 16)
   rw [show t - 16 + 16 = t by omega, show t - 16 + 1 = t - 15 by omega, show t - 16 + 9 = t - 7 by omega, show t - 16 + 14 = t - 2 by omega] at hW
   have hW2 : lo p32.b (W p32 (kg 32 b 16) (t - 2)) + W p32 (kg 32 b 16) (t - 7) + lo p32.a (W p32 (kg 32 b 16) (t - 15)) + W p32 (kg 32 b 16) (t - 16) = W p32 (kg 32 b 16) t := by rw [hW]; ac_rfl
   rw [ah (by omega), ah (by omega), ah (by omega), ah (by omega), ah (by omega), b1b, hW2, e1, show [((W p32 (kg 32 b 16) t).toNat : Int)] = cv [W p32 (kg 32 b 16) t] from rfl, ae7, ← ay4]
   exact hn'
 ·simp only [P.aev]
  rw [bg (by omega)]
theorem br8 (b : List Int) (v : List (BitVec 32)) (hv : v.length = 8) (h0 h1 : List Int) {ρ : Type} (k0 : Bool → Int → Int → Int → List Int → List Int → List Int → List Int → List Int → List Int → Option ρ) :
    P.adu false 64 4294967295 0 h0 h1 P.roots256 P.roots512 (cv (aty b 64)) (cv v) k0 = k0 false 64 4294967295 64 h0 h1 P.roots256 P.roots512 (cv (aty b 64)) (cv (runs p32 (kg 32 b 16) v 64)) := by
 rw [P.aj6]
 unfold P.ajz P.bw6 P.bwg P.byi
 refine qo (fun t => (false, 64, 4294967295, (t : Int), h0, h1, P.roots256, P.roots512, cv (aty b 64), cv (runs p32 (kg 32 b 16) v t))) 64 rfl (fun t ht next hn' => ?_) (fun next => ?_) (by omega)
 ·simp only [P.adl]
  have e1 : IntKind.i64.wrap ((t : Int) + 1) = ((t + 1 : Nat) : Int) := by rw [nu (by omega) (by omega)]; omega
  have hlen := bfh b 64
  simp only [e1, toNat_cast, afm, vk, hlen]
  rw [ao2 b 64 t ht, K32]
  rw [ah (by omega), bq7 _ p32.c _ _ _ (by rfl) (by rfl) (by rfl) (by decide) (by decide) (by decide), bq7 _ p32.d _ _ _ (by rfl) (by rfl) (by rfl) (by decide) (by decide) (by decide), vo]
  rw [ah (by omega), ah (by omega), ah (by omega), ah (by omega), b2f, bwh, b22, b1l]
  exact hn'
 ·simp only [P.adl]
  rw [bg (by omega)]
  rfl
theorem bsn (v u : List (BitVec 32)) (hv : v.length = 8) (hu : u.length = 8) (h1 : List Int) {ρ : Type} (k0 : Int → Int → List Int → List Int → List Int → Option ρ) :
    P.adb 4294967295 0 (cv v) h1 (cv u) k0 = k0 4294967295 8 (cv v) h1 (cv ((List.range 8).map fun i => u.getD i 0 + v.getD i 0)) := by
 rw [P.aj4]
 unfold P.ajg P.bwj P.bvz P.bxo
 refine qo (fun i => (4294967295, (i : Int), cv v, h1, cv (((List.range i).map fun i => u.getD i 0 + v.getD i 0) ++ u.drop i))) 8 (by simp) (fun i hi next hn' => ?_) (fun next => ?_) (by omega)
 ·simp only [P.adv, toNat_cast, afm]
  have e1 : IntKind.i64.wrap ((i : Int) + 1) = ((i + 1 : Nat) : Int) := by rw [nu (by omega) (by omega)]; omega
  have e2 : (((List.range i).map fun i => u.getD i 0 + v.getD i 0) ++ u.drop i).getD i 0 = u.getD i 0 := by
   rw [List.getD_eq_getElem?_getD, List.getElem?_append_right (by simp), List.getElem?_drop, List.length_map, List.length_range, List.getD_eq_getElem?_getD]
   congr 2
   omega
  rw [e1, e2, b4m, azv]
  have e3 : (((List.range i).map fun i => u.getD i 0 + v.getD i 0) ++ u.drop i).set i (u.getD i 0 + v.getD i 0) = ((List.range (i + 1)).map fun i => u.getD i 0 + v.getD i 0) ++ u.drop (i + 1) := by
   rw [List.set_append_right _ _ (by simp), List.length_map, List.length_range, Nat.sub_self, List.range_succ, List.map_append, List.append_assoc, List.drop_eq_getElem_cons (by omega), List.set_cons_zero]
   rfl
  rw [e3]
  simp (disch := omega) only [ah, bg, d9, au, bq, ak, ji, o9, vo, nu]
  exact hn'
 ·simp only [P.adv]
  rw [bg (by omega), List.drop_eq_nil_of_le (by omega), List.append_nil]
  rfl
theorem bm0 (v : List (BitVec 32)) (hv : v.length = 8) (b : List Int) (hb : In 256 b) (hl : b.length = 16 * 4) {ρ : Type} (k : List Int → Option ρ) : P.al8 (cv v) b false k = k (cv (ava p32 v b)) := by
 rw [P.atc]
 unfold P.afr
 have hr1 : ∀ (k : List Int → Option ρ), P.afa k = k P.roots256 := fun k => by rw [P.alo]; kernel_rfl
 have hr2 : ∀ (k : List Int → Option ρ), P.afc k = k P.roots512 := fun k => by rw [P.alu]; kernel_rfl
 rw [hr1, hr2, vo, bnz b hb hl, br8 b v hv, bsn v _ hv (ame _ _ _ hv _)]
 rfl
end Q
end

section
/- SHA-2: the program's engine of 64 bits. -/
namespace Q
open Go Go.Abs
set_option linter.unusedVariables false
set_option linter.unusedSimpArgs false
theorem ahl (rd : Int) (t0 t1 t2 t3 : List Int) (x : BitVec 64) (m : Int) (n : Nat) (hm : m = (n : Int)) (hn : n ≤ 64) {ρ : Type} (k : Int → Option ρ) :
    P.bf 64 rd t0 t1 t2 t3 (x.toNat : Int) m k = k ((rr x n).toNat : Int) := by
 subst hm
 rw [P.aa9]
 unfold P.wo
 rw [bg (by omega), nu (by omega) (by omega), bg (by omega), show (64 : Int) - (n : Int) = ((64 - n : Nat) : Int) by omega]
 simp only [toNat_cast]
 rw [bmi _ _ hn, bww _ _ (by omega), b0z]
 rfl
theorem bl1 (rd : Int) (x : BitVec 64) {ρ : Type} (k : Int → Option ρ) : P.je 64 rd [1, 8, 7] [19, 61, 6] [28, 34, 39] [14, 18, 41] (x.toNat : Int) 3 k = k ((hi p64.d x).toNat : Int) := by
 rw [P.zh]
 unfold P.um
 simp only [List.getD_cons_zero, List.getD_cons_succ]
 rw [bg (by decide), bg (by decide), bg (by decide), ah (by decide), ahl _ _ _ _ _ _ _ 14 (by rfl) (by omega), ahl _ _ _ _ _ _ _ 18 (by rfl) (by omega), ahl _ _ _ _ _ _ _ 41 (by rfl) (by omega), ake, ake]
 rfl
theorem bme (rd : Int) (x : BitVec 64) {ρ : Type} (k : Int → Option ρ) : P.je 64 rd [1, 8, 7] [19, 61, 6] [28, 34, 39] [14, 18, 41] (x.toNat : Int) 2 k = k ((hi p64.c x).toNat : Int) := by
 rw [P.zh]
 unfold P.um
 simp only [List.getD_cons_zero, List.getD_cons_succ]
 rw [bg (by decide), bg (by decide), ah (by decide), ahl _ _ _ _ _ _ _ 28 (by rfl) (by omega), ahl _ _ _ _ _ _ _ 34 (by rfl) (by omega), ahl _ _ _ _ _ _ _ 39 (by rfl) (by omega), ake, ake]
 rfl
theorem bqe (rd : Int) (x : BitVec 64) {ρ : Type} (k : Int → Option ρ) : P.jm 64 rd [1, 8, 7] [19, 61, 6] [28, 34, 39] [14, 18, 41] (x.toNat : Int) 0 k = k ((lo p64.a x).toNat : Int) := by
 rw [P.zq]
 unfold P.uz
 simp only [List.getD_cons_zero, List.getD_cons_succ]
 rw [ah (by decide), ahl _ _ _ _ _ _ _ 1 (by rfl) (by omega), ahl _ _ _ _ _ _ _ 8 (by rfl) (by omega), bg (by decide), ake, show (7 : Int).toNat = 7 from rfl, bmi _ _ (by omega), ake]
 rfl
theorem bpe (rd : Int) (x : BitVec 64) {ρ : Type} (k : Int → Option ρ) : P.jm 64 rd [1, 8, 7] [19, 61, 6] [28, 34, 39] [14, 18, 41] (x.toNat : Int) 1 k = k ((lo p64.b x).toNat : Int) := by
 rw [P.zq]
 unfold P.uz
 simp only [List.getD_cons_zero, List.getD_cons_succ]
 rw [bg (by decide), ah (by decide), ahl _ _ _ _ _ _ _ 19 (by rfl) (by omega), ahl _ _ _ _ _ _ _ 61 (by rfl) (by omega), bg (by decide), ake, show (6 : Int).toNat = 6 from rfl, bmi _ _ (by omega), ake]
 rfl
theorem bqv (t : Nat) (h : t < 80) {ρ : Type} (k : Int → Option ρ) : P.mq (t : Int) k = k ((p64.K t).toNat : Int) := by
 rw [P.ana]
 unfold P.agb
 rw [ah (by omega), ah (by omega), toNat_cast, K64]
theorem bum (b : List Int) (hb : In 256 b) (hl : b.length = 16 * 8) (rd : Int) (t0 t1 t2 t3 h1 h2 : List Int) {ρ : Type} (k0 : List Int → Int → Int → Int → Int → List Int → List Int → List Int → List Int → List Int → List Int → List Int → Option ρ) :
    P.yt b 8 0 64 rd t0 t1 t2 t3 h1 h2 (List.replicate 16 0) k0 = k0 b 8 16 64 rd t0 t1 t2 t3 h1 h2 (cv (kg 64 b 16)) := by
 rw [P.aff]
 unfold P.ab5 P.bzw P.bvh P.b30
 refine qo (fun i => (b, 8, (i : Int), 64, rd, t0, t1, t2, t3, h1, h2, cv (kg 64 b i) ++ List.replicate (16 - i) 0)) 16 (by simp [kg, cv]) (fun i hi next hn' => ?_) (fun next => ?_) (by omega)
 ·simp only [P.yj, toNat_cast]
  have e1 : IntKind.i64.wrap ((i : Int) * 8) = ((i * 8 : Nat) : Int) := by rw [nu (by omega) (by omega)]; omega
  have e2 : IntKind.i64.wrap (IntKind.i64.wrap ((i : Int) + 1) * 8) = (((i + 1) * 8 : Nat) : Int) := by rw [nu (x := (i : Int) + 1) (by omega) (by omega), nu (by omega) (by omega)]; omega
  rw [e1, e2]
  simp only [toNat_cast]
  have hlen : ((b.take ((i + 1) * 8)).drop (i * 8)).length = 8 := by simp; omega
  rw [ah (by omega), ah (by omega), ah (by omega), ah (by omega), jh _ ((hb.take _).drop _) (by omega), ah (by omega), ah (by omega)]
  have e3 : ((T 8 ((b.take ((i + 1) * 8)).drop (i * 8)).reverse % 2 ^ 64 : Nat) : Int) = (((BitVec.ofNat 64 (T 8 ((b.take ((i + 1) * 8)).drop (i * 8)).reverse)).toNat : Nat) : Int) := by
   rw [BitVec.toNat_ofNat]
  have e4 : IntKind.i64.wrap ((i : Int) + 1) = ((i + 1 : Nat) : Int) := by rw [nu (by omega) (by omega)]; omega
  rw [e3, e4]
  have e5 : (cv (kg 64 b i) ++ List.replicate (16 - i) (0 : Int)).set i (((BitVec.ofNat 64 (T 8 ((b.take ((i + 1) * 8)).drop (i * 8)).reverse)).toNat : Nat) : Int) = cv (kg 64 b (i + 1)) ++ List.replicate (16 - (i + 1)) 0 := by
   rw [List.set_append_right _ _ (by simp [qd]), vk, qd, Nat.sub_self, show 16 - i = (16 - (i + 1)) + 1 by omega, List.replicate_succ, List.set_cons_zero, awv, ← ae7, List.append_assoc]
   rfl
  rw [e5]
  exact hn'
 ·simp only [P.yj]
  rw [bg (by omega)]
  simp
theorem bsx (l v : List (BitVec 64)) (hv : v.length = 8) (h2 h1 : List Int) {ρ : Type} (k0 : Int → Int → List Int → List Int → List Int → Int → Int → List Int → List Int → List Int → List Int → List Int → Option ρ) (hl : l.length = 16) :
    P.su 80 0 (cv (win p64 l 0)) h2 h1 64 80 [1, 8, 7] [19, 61, 6] [28, 34, 39] [14, 18, 41] (cv v) k0 =
     k0 80 80 (cv (win p64 l 80)) h2 h1 64 80 [1, 8, 7] [19, 61, 6] [28, 34, 39] [14, 18, 41] (cv (runs p64 l v 80)) := by
 rw [P.aez]
 unfold P.abj P.bzv P.bvk P.b0b
 refine qo (fun t => (80, (t : Int), cv (win p64 l t), h2, h1, 64, 80, [1, 8, 7], [19, 61, 6], [28, 34, 39], [14, 18, 41], cv (runs p64 l v t))) 80 rfl (fun t ht next hn' => ?_) (fun next => ?_) (by omega)
 ·simp only [P.xk]
  have e1 : IntKind.i64.wrap ((t : Int) + 1) = ((t + 1 : Nat) : Int) := by rw [nu (by omega) (by omega)]; omega
  have e9 : IntKind.i64.wrap ((t : Int) + 9) = ((t + 9 : Nat) : Int) := by rw [nu (by omega) (by omega)]; omega
  have e14 : IntKind.i64.wrap ((t : Int) + 14) = ((t + 14 : Nat) : Int) := by rw [nu (by omega) (by omega)]; omega
  simp only [e1, e9, e14, b5k, toNat_cast, afm]
  have g0 := asi p64 l t 0 (by omega)
  rw [Nat.add_zero] at g0
  rw [g0, asi p64 l t 1 (by omega), asi p64 l t 9 (by omega), asi p64 l t 14 (by omega)]
  have hV := v8 _ (ame p64 l v hv t)
  rw [ah (by omega), ah (by omega), ah (by omega), bl1, bqv t ht, bme, ah (by omega), ah (by omega), bqe, ah (by omega), ah (by omega), ah (by omega), ah (by omega), bpe, ah (by omega), ah (by omega)]
  simp only [akf, ake, bj6, b0z]
  rw [← bjq p64 l hl t, azv, bjv]
  have hr : cv (runs p64 l v (t + 1)) = (((List.take 1 (cv (runs p64 l v t))).append (List.take 7 (List.take 7 (List.drop 0 (cv (runs p64 l v t)))) ++ List.drop (1 + min 7 (List.take 7 (List.drop 0 (cv (runs p64 l v t)))).length) (cv (runs p64 l v t)))).set 4
      (((runs p64 l v t).getD 3 0 + bt5 p64 t (W p64 l t) (runs p64 l v t)).toNat : Int)).set 0 ((bt5 p64 t (W p64 l t) (runs p64 l v t) + b1z p64 (runs p64 l v t)).toNat : Int) := by
   rw [hV]
   rfl
  have h3 : ((List.take 1 (cv (runs p64 l v t))).append (List.take 7 (List.take 7 (List.drop 0 (cv (runs p64 l v t)))) ++ List.drop (1 + min 7 (List.take 7 (List.drop 0 (cv (runs p64 l v t)))).length) (cv (runs p64 l v t)))).getD 4 0 = (((runs p64 l v t).getD 3 0).toNat : Int) := by
   rw [hV]
   rfl
  rw [h3, akf]
  rw [hr] at hn'
  exact hn'
 ·simp only [P.xk]
  rw [bg (by omega)]
  rfl
theorem bso (v u : List (BitVec 64)) (hv : v.length = 8) (hu : u.length = 8) (h2 : List Int) {ρ : Type} (k0 : Int → List Int → List Int → List Int → Option ρ) :
    P.qp 0 (cv v) h2 (cv u) k0 = k0 8 (cv v) h2 (cv ((List.range 8).map fun i => u.getD i 0 + v.getD i 0)) := by
 rw [P.aew]
 unfold P.abf P.bxs P.bv7 P.b4t
 have hs : ∀ i, i ≤ 8 → (((List.range i).map fun i => u.getD i 0 + v.getD i 0) ++ u.drop i).length = 8 := fun i hi => by simp; omega
 refine qo (fun i => ((i : Int), cv v, h2, cv (((List.range i).map fun i => u.getD i 0 + v.getD i 0) ++ u.drop i))) 8 (by simp) (fun i hi next hn' => ?_) (fun next => ?_) (by omega)
 ·simp only [P.xw, toNat_cast, afm]
  have e1 : IntKind.i64.wrap ((i : Int) + 1) = ((i + 1 : Nat) : Int) := by rw [nu (by omega) (by omega)]; omega
  have e2 : (((List.range i).map fun i => u.getD i 0 + v.getD i 0) ++ u.drop i).getD i 0 = u.getD i 0 := by
   rw [List.getD_eq_getElem?_getD, List.getElem?_append_right (by simp), List.getElem?_drop, List.length_map, List.length_range, List.getD_eq_getElem?_getD]
   congr 2
   omega
  rw [e1, e2, akf, azv]
  have e3 : (((List.range i).map fun i => u.getD i 0 + v.getD i 0) ++ u.drop i).set i (u.getD i 0 + v.getD i 0) = ((List.range (i + 1)).map fun i => u.getD i 0 + v.getD i 0) ++ u.drop (i + 1) := by
   rw [List.set_append_right _ _ (by simp), List.length_map, List.length_range, Nat.sub_self, List.range_succ, List.map_append, List.append_assoc, List.drop_eq_getElem_cons (by omega), List.set_cons_zero]
   rfl
  rw [e3]
  simp (disch := omega) only [ah, bg, d9, au, bq, ak, ji, o9, vo, nu]
  exact hn'
 ·simp only [P.xw]
  rw [bg (by omega), List.drop_eq_nil_of_le (by omega), List.append_nil]
  rfl
theorem bnt (v : List (BitVec 64)) (hv : v.length = 8) (b : List Int) (hb : In 256 b) (hl : b.length = 16 * 8) {ρ : Type} (k : List Int → Option ρ) :
    P.j5 64 80 [1, 8, 7] [19, 61, 6] [28, 34, 39] [14, 18, 41] (cv v) b k = k (cv (ava p64 v b)) := by
 rw [P.ab6]
 unfold P.xq
 rw [show IntKind.i64.wrap ((64 : Int).tdiv 8) = 8 from rfl]
 have := bum b hb hl 80 [1, 8, 7] [19, 61, 6] [28, 34, 39] [14, 18, 41] (cv v) (List.replicate 8 0) (fun (q0 : List Int) (q1 q2 q3 q4 : Int) (q5 q6 q7 q8 q9 q10 q11 : List Int) =>
  P.su q4 (0 : Int) q11 q10 q9 q3 q4 q5 q6 q7 q8 q9
   fun (q12 q13 : Int) (q14 q15 q16 : List Int) (q17 q18 : Int) (q19 q20 q21 q22 q23 : List Int) =>
   P.qp (0 : Int) q16 q15 q23 fun (q24 : Int) (q25 q26 q27 : List Int) => k q27)
 refine this.trans ?_
 rw [← win_zero p64, bsx _ v hv _ _ _ (qd b 16), bso v _ hv (ame _ _ _ hv _)]
 rfl
end Q
end

section
/- SHA-2: the document's block of words of 64 bits. -/
namespace Q
open Go Go.Abs
set_option linter.unusedVariables false
set_option linter.unusedSimpArgs false
theorem al2 (x : BitVec 64) (m : Int) (n : Nat) (hm : m = (n : Int)) (hn : n ≤ 64) {ρ : Type} (k : Int → Option ρ) : P.aci (x.toNat : Int) m true k = k ((rr x n).toNat : Int) := by
 subst hm
 rw [P.ak2]
 unfold P.adt
 rw [o9, bg (by omega), nu (by omega) (by omega), bg (by omega), show (64 : Int) - (n : Int) = ((64 - n : Nat) : Int) by omega]
 simp only [toNat_cast]
 rw [bmi _ _ hn, bww _ _ (by omega), b0z]
 rfl
theorem bri (x : BitVec 64) (t : Nat × Nat × Nat) (a b c : Int) (ha : a = (t.1 : Int)) (hb : b = (t.2.1 : Int)) (hc : c = (t.2.2 : Int)) (h1 : t.1 ≤ 64) (h2 : t.2.1 ≤ 64) (h3 : t.2.2 ≤ 64) {ρ : Type} (k : Int → Option ρ) :
    P.ab9 (x.toNat : Int) a b c false true k = k ((hi t x).toNat : Int) := by
 rw [P.af4]
 unfold P.abg
 rw [bg (by omega), ji, vo, al2 _ _ _ hc h3, al2 _ _ _ ha h1, al2 _ _ _ hb h2, ake, ake]
 rfl
theorem brp (x : BitVec 64) (t : Nat × Nat × Nat) (a b c : Int) (ha : a = (t.1 : Int)) (hb : b = (t.2.1 : Int)) (hc : c = (t.2.2 : Int)) (h1 : t.1 ≤ 64) (h2 : t.2.1 ≤ 64) (h3 : t.2.2 ≤ 64) {ρ : Type} (k : Int → Option ρ) :
    P.ab9 (x.toNat : Int) a b c true true k = k ((lo t x).toNat : Int) := by
 rw [P.af4]
 unfold P.abg
 rw [bg (by omega), ji, o9, al2 _ _ _ ha h1, al2 _ _ _ hb h2, ake, hc]
 simp only [toNat_cast]
 rw [bmi _ _ h3, ake]
 rfl
theorem b23 (a b c d : BitVec 64) : bits .and .u64 (IntKind.u64.wrap (IntKind.u64.wrap (IntKind.u64.wrap ((a.toNat : Int) + (b.toNat : Int)) + (c.toNat : Int)) + (d.toNat : Int))) 18446744073709551615 = ((a + b + c + d).toNat : Int) := by
 rw [akf, akf, akf, bpr _ (bt1 _)]
theorem b21 (a b : BitVec 64) : bits .and .u64 (IntKind.u64.wrap ((a.toNat : Int) + (b.toNat : Int))) 18446744073709551615 = ((a + b).toNat : Int) := by
 rw [akf, bpr _ (bt1 _)]
theorem b2n (d a b c e f : BitVec 64) : bits .and .u64 (IntKind.u64.wrap ((d.toNat : Int) + IntKind.u64.wrap (IntKind.u64.wrap (IntKind.u64.wrap (IntKind.u64.wrap ((a.toNat : Int) + (b.toNat : Int)) + (c.toNat : Int)) + (e.toNat : Int)) + (f.toNat : Int)))) 18446744073709551615 = ((d + (a + b + c + e + f)).toNat : Int) := by
 rw [akf, akf, akf, akf, akf, bpr _ (bt1 _)]
theorem b0o (a b c e f g h : BitVec 64) : bits .and .u64 (IntKind.u64.wrap (IntKind.u64.wrap (IntKind.u64.wrap (IntKind.u64.wrap (IntKind.u64.wrap ((a.toNat : Int) + (b.toNat : Int)) + (c.toNat : Int)) + (e.toNat : Int)) + (f.toNat : Int)) + IntKind.u64.wrap ((g.toNat : Int) + (h.toNat : Int)))) 18446744073709551615 = (((a + b + c + e + f) + (g + h)).toNat : Int) := by
 rw [akf, akf, akf, akf, akf, akf, bpr _ (bt1 _)]
theorem b4c (e f g : BitVec 64) : bits .xor .u64 (bits .and .u64 (e.toNat : Int) (f.toNat : Int)) (bits .and .u64 (bits .xor .u64 18446744073709551615 (e.toNat : Int)) (g.toNat : Int)) = ((g ^^^ (e &&& (f ^^^ g))).toNat : Int) := by
 rw [show (18446744073709551615 : Int) = ((BitVec.allOnes 64).toNat : Int) from rfl, bj6, ake, bj6, ake, bw7]
theorem bvp (a b c : BitVec 64) : bits .xor .u64 (bits .xor .u64 (bits .and .u64 (a.toNat : Int) (b.toNat : Int)) (bits .and .u64 (a.toNat : Int) (c.toNat : Int))) (bits .and .u64 (b.toNat : Int) (c.toNat : Int)) = (((a &&& b) ||| (c &&& (a ||| b))).toNat : Int) := by
 rw [bj6, bj6, bj6, ake, ake, bq8]
def auf (b : List Int) (t : Nat) : List (BitVec 64) := (List.range t).map (W p64 (kg 64 b 16))
theorem azx (b : List Int) (t : Nat) : auf b (t + 1) = auf b t ++ [W p64 (kg 64 b 16) t] := by simp [auf, List.range_succ]
theorem bfo (b : List Int) (t : Nat) : (auf b t).length = t := by simp [auf]
theorem aqb (b : List Int) (t i : Nat) (h : i < t) : (auf b t).getD i 0 = W p64 (kg 64 b 16) i := by
 unfold auf
 rw [getD_lt (by simpa using h)]; simp
theorem btf (b : List Int) (t : Nat) (h : t < 16) : W p64 (kg 64 b 16) t = BitVec.ofNat 64 (T 8 ((b.take ((t + 1) * 8)).drop (t * 8)).reverse) := by
 rw [← bre p64 _ (by rw [qd]; omega) 0 t (by rw [qd]; omega), show sched p64 (kg 64 b 16) 0 = kg 64 b 16 from rfl, getD_lt (by rw [qd]; exact h)]
 simp [kg]
theorem bl8 (b : List Int) (hb : In 256 b) (hl : b.length = 16 * 8) {ρ : Type} (k : List Int → Option ρ) : P.aii b true 80 18446744073709551615 k = k (cv (auf b 80)) := by
 rw [P.as3]
 unfold P.afv
 rw [o9, P.akp]
 unfold P.alq P.bv6 P.bvb P.byf
 refine qo (fun t => (b, true, 80, 18446744073709551615, 8, (t : Int), cv (auf b t))) 80 rfl (fun t ht next hn' => ?_) (fun next => ?_) (by omega)
 ·simp only [P.aev, toNat_cast]
  have e1 : IntKind.i64.wrap ((t : Int) + 1) = ((t + 1 : Nat) : Int) := by rw [nu (by omega) (by omega)]; omega
  rw [ah (by omega)]
  have hlen := bfo b t
  by_cases h16 : t < 16
  ·have e2 : IntKind.i64.wrap ((t : Int) * 8) = ((t * 8 : Nat) : Int) := by rw [nu (by omega) (by omega)]; omega
   have e3 : IntKind.i64.wrap (IntKind.i64.wrap ((t : Int) * 8) + 8) = (((t + 1) * 8 : Nat) : Int) := by rw [e2, nu (by omega) (by omega)]; omega
   have hl2 : ((b.take ((t + 1) * 8)).drop (t * 8)).length = 8 := by simp; omega
   rw [ah (by omega), e3, e2, ah (by omega), ah (by omega), ah (by omega)]
   simp only [toNat_cast]
   have hT := bs1 8 ((b.take ((t + 1) * 8)).drop (t * 8)).reverse
   rw [List.length_reverse, hl2] at hT
   have e4 : ((T 8 ((b.take ((t + 1) * 8)).drop (t * 8)).reverse % 2 ^ 64 : Nat) : Int) = ((W p64 (kg 64 b 16) t).toNat : Int) := by
    rw [btf b t h16, BitVec.toNat_ofNat]
   rw [acf _ ((hb.take _).drop _) (by omega), ah (by rw [vk]; omega), e4, e1, show [((W p64 (kg 64 b 16) t).toNat : Int)] = cv [W p64 (kg 64 b 16) t] from rfl, ae7, ← azx]
   exact hn'
  ·have e15 : IntKind.i64.wrap ((t : Int) - 15) = ((t - 15 : Nat) : Int) := by rw [nu (by omega) (by omega)]; omega
   have e2 : IntKind.i64.wrap ((t : Int) - 2) = ((t - 2 : Nat) : Int) := by rw [nu (by omega) (by omega)]; omega
   have e7 : IntKind.i64.wrap ((t : Int) - 7) = ((t - 7 : Nat) : Int) := by rw [nu (by omega) (by omega)]; omega
   have e16 : IntKind.i64.wrap ((t : Int) - 16) = ((t - 16 : Nat) : Int) := by rw [nu (by omega) (by omega)]; omega
   simp only [e15, e2, e7, e16, toNat_cast, afm, vk, hlen]
   rw [aqb b t _ (by omega), aqb b t _ (by omega), aqb b t _ (by omega), aqb b t _ (by omega)]
   obtain ⟨q1, m1⟩ := bjh ((W p64 (kg 64 b 16) (t - 15)).toNat : Int) 7 18 3 7 18 3 rfl rfl rfl (by omega) (by omega) (by omega)
   obtain ⟨q2, m2⟩ := bjh ((W p64 (kg 64 b 16) (t - 2)).toNat : Int) 17 19 10 17 19 10 rfl rfl rfl (by omega) (by omega) (by omega)
   rw [bg (by omega), ah (by omega), ah (by omega), m1, ah (by omega), ah (by omega), m2, o9, ah (by omega), ah (by omega), brp _ p64.a _ _ _ (by rfl) (by rfl) (by rfl) (by decide) (by decide) (by decide), ah (by omega), ah (by omega), brp _ p64.b _ _ _ (by rfl) (by rfl) (by rfl) (by decide) (by decide) (by decide)]
   have hW := bjq p64 (kg 64 b 16) (qd b 16) (t - 16)
   rw [show t - 16 + 16 = t by omega, show t - 16 + 1 = t - 15 by omega, show t - 16 + 9 = t - 7 by omega, show t - 16 + 14 = t - 2 by omega] at hW
   have hW2 : lo p64.b (W p64 (kg 64 b 16) (t - 2)) + W p64 (kg 64 b 16) (t - 7) + lo p64.a (W p64 (kg 64 b 16) (t - 15)) + W p64 (kg 64 b 16) (t - 16) = W p64 (kg 64 b 16) t := by rw [hW]; ac_rfl
   rw [ah (by omega), ah (by omega), ah (by omega), ah (by omega), ah (by omega), b23, hW2, e1, show [((W p64 (kg 64 b 16) t).toNat : Int)] = cv [W p64 (kg 64 b 16) t] from rfl, ae7, ← azx]
   exact hn'
 ·simp only [P.aev]
  rw [bg (by omega)]
theorem bsq (b : List Int) (v : List (BitVec 64)) (hv : v.length = 8) (h0 h1 : List Int) {ρ : Type} (k0 : Bool → Int → Int → Int → List Int → List Int → List Int → List Int → List Int → List Int → Option ρ) :
    P.adu true 80 18446744073709551615 0 h0 h1 P.roots256 P.roots512 (cv (auf b 80)) (cv v) k0 = k0 true 80 18446744073709551615 80 h0 h1 P.roots256 P.roots512 (cv (auf b 80)) (cv (runs p64 (kg 64 b 16) v 80)) := by
 rw [P.aj6]
 unfold P.ajz P.bw6 P.bwg P.byi
 refine qo (fun t => (true, 80, 18446744073709551615, (t : Int), h0, h1, P.roots256, P.roots512, cv (auf b 80), cv (runs p64 (kg 64 b 16) v t))) 80 rfl (fun t ht next hn' => ?_) (fun next => ?_) (by omega)
 ·simp only [P.adl]
  have e1 : IntKind.i64.wrap ((t : Int) + 1) = ((t + 1 : Nat) : Int) := by rw [nu (by omega) (by omega)]; omega
  have hlen := bfo b 80
  simp only [e1, toNat_cast, afm, vk, hlen]
  rw [aqb b 80 t ht, K64]
  obtain ⟨q1, m1⟩ := bna (((runs p64 (kg 64 b 16) v t).getD 0 0).toNat : Int) 2 13 22 2 13 22 rfl rfl rfl (by omega) (by omega) (by omega)
  obtain ⟨q2, m2⟩ := bna (((runs p64 (kg 64 b 16) v t).getD 4 0).toNat : Int) 6 11 25 6 11 25 rfl rfl rfl (by omega) (by omega) (by omega)
  rw [ah (by omega), m1, m2, o9, bri _ p64.c _ _ _ (by rfl) (by rfl) (by rfl) (by decide) (by decide) (by decide), bri _ p64.d _ _ _ (by rfl) (by rfl) (by rfl) (by decide) (by decide) (by decide)]
  rw [ah (by omega), ah (by omega), ah (by omega), ah (by omega), b4c, bvp, b0o, b2n]
  exact hn'
 ·simp only [P.adl]
  rw [bg (by omega)]
  rfl
theorem bsi (v u : List (BitVec 64)) (hv : v.length = 8) (hu : u.length = 8) (h1 : List Int) {ρ : Type} (k0 : Int → Int → List Int → List Int → List Int → Option ρ) :
    P.adb 18446744073709551615 0 (cv v) h1 (cv u) k0 = k0 18446744073709551615 8 (cv v) h1 (cv ((List.range 8).map fun i => u.getD i 0 + v.getD i 0)) := by
 rw [P.aj4]
 unfold P.ajg P.bwj P.bvz P.bxo
 refine qo (fun i => (18446744073709551615, (i : Int), cv v, h1, cv (((List.range i).map fun i => u.getD i 0 + v.getD i 0) ++ u.drop i))) 8 (by simp) (fun i hi next hn' => ?_) (fun next => ?_) (by omega)
 ·simp only [P.adv, toNat_cast, afm]
  have e1 : IntKind.i64.wrap ((i : Int) + 1) = ((i + 1 : Nat) : Int) := by rw [nu (by omega) (by omega)]; omega
  have e2 : (((List.range i).map fun i => u.getD i 0 + v.getD i 0) ++ u.drop i).getD i 0 = u.getD i 0 := by
   rw [List.getD_eq_getElem?_getD, List.getElem?_append_right (by simp), List.getElem?_drop, List.length_map, List.length_range, List.getD_eq_getElem?_getD]
   congr 2
   omega
  rw [e1, e2, b21, azv]
  have e3 : (((List.range i).map fun i => u.getD i 0 + v.getD i 0) ++ u.drop i).set i (u.getD i 0 + v.getD i 0) = ((List.range (i + 1)).map fun i => u.getD i 0 + v.getD i 0) ++ u.drop (i + 1) := by
   rw [List.set_append_right _ _ (by simp), List.length_map, List.length_range, Nat.sub_self, List.range_succ, List.map_append, List.append_assoc, List.drop_eq_getElem_cons (by omega), List.set_cons_zero]
   rfl
  rw [e3]
  simp (disch := omega) only [ah, bg, d9, au, bq, ak, ji, o9, vo, nu]
  exact hn'
 ·simp only [P.adv]
  rw [bg (by omega), List.drop_eq_nil_of_le (by omega), List.append_nil]
  rfl
theorem bls (v : List (BitVec 64)) (hv : v.length = 8) (b : List Int) (hb : In 256 b) (hl : b.length = 16 * 8) {ρ : Type} (k : List Int → Option ρ) : P.al8 (cv v) b true k = k (cv (ava p64 v b)) := by
 rw [P.atc]
 unfold P.afr
 have hr1 : ∀ (k : List Int → Option ρ), P.afa k = k P.roots256 := fun k => by rw [P.alo]; kernel_rfl
 have hr2 : ∀ (k : List Int → Option ρ), P.afc k = k P.roots512 := fun k => by rw [P.alu]; kernel_rfl
 rw [hr1, hr2, o9, bl8 b hb hl, bsq b v hv, bsi v _ hv (ame _ _ _ hv _)]
 rfl
end Q
end

section
/- bits, the first part: texts. -/
namespace Q
open Go Go.Abs
set_option linter.unusedVariables false
set_option linter.unusedSimpArgs false
theorem bmo {a b : List Int} (hl : a.length = b.length) (hs : a.length ≤ 140737488355328) {ρ : Type} (k0 : List Int → List Int → Int → Option ρ) (k1 : Bool → Option ρ) :
    ∀ (m i : Nat), i + m = a.length → ∀ {stp : (List Int × List Int × Int) → ((List Int × List Int × Int) → Option ρ) → ((List Int × List Int × Int) ⊕ Bool → Option ρ) → Option ρ} {K : (List Int × List Int × Int) ⊕ Bool → Option ρ},
     (∀ (j : Nat) next, stp (a, b, (j : Int)) next K = br (decide ((j : Int) < (a.length : Int))) (br (a.getD j 0 != b.getD j 0) (k1 false) (next (a, b, ((j + 1 : Nat) : Int)))) (k0 a b (j : Int))) →
     lp stp (a, b, (i : Int)) K = if a.drop i = b.drop i then k0 a b (a.length : Int) else k1 false := by
 intro m i hm stp K hst
 refine bue (P := fun x => ∃ j : Nat, x = (a, b, (j : Int)) ∧ j ≤ a.length ∧ (if a.drop j = b.drop j then k0 a b (a.length : Int) else k1 false) = (if a.drop i = b.drop i then k0 a b (a.length : Int) else k1 false)) (μ := fun x => ((a.length : Int) - x.2.2).toNat) ?_ ⟨i, rfl, by omega, rfl⟩ (by simp only; omega)
 rintro _ ⟨j, rfl, hj, he⟩ next hn
 rw [hst, ← he]
 by_cases hji : j < a.length
 ·rw [ah (by omega), ado a 0 j hji, ado b 0 j (by omega)]
  by_cases hab : a.getD j 0 = b.getD j 0
  ·rw [au hab, hn _ ⟨j + 1, rfl, by omega, ?_⟩ (by simp only; omega), ← he, ado a 0 j hji, ado b 0 j (by omega)]
   ·rw [← he, ado a 0 j hji, ado b 0 j (by omega)]
    simp only [hab, List.cons.injEq, true_and]
  ·rw [d9 hab, if_neg (by simp only [List.cons.injEq]; exact fun h => hab h.1)]
 ·have : j = a.length := by omega
  subst this
  rw [bg (by omega), if_pos (by rw [List.drop_eq_nil_of_le (Nat.le_refl _), List.drop_eq_nil_of_le (by omega)])]
theorem acn (a b : List Int) (h : a.length ≤ 140737488355328) {ρ : Type} (k : Bool → Option ρ) : P.acn a b k = k (decide (a = b)) := by
 rw [P.bg0]
 unfold P.al1
 by_cases hl : a.length = b.length
 ·rw [au (by omega), P.ayh]
  unfold P.av1 P.bzm P.bzp P.b5l
  have := bmo hl h (fun _ _ _ => k true) k a.length 0 (by omega) (stp := (fun x next ex => P.aoh x.1 x.2.1 x.2.2 (fun v0 v1 v5 => next (v0, v1, v5)) (fun v0 v1 v5 => ex (.inl (v0, v1, v5))) (fun v4 => ex (.inr v4)))) (K := Sum.elim (fun _ => k true) k) (by
   intro j next
   simp only [P.aoh, Sum.elim_inl, Sum.elim_inr]
   by_cases hj : (j : Int) < (a.length : Int)
   ·simp only [ah hj]
    simp (disch := omega) only [ah, bg, d9, au, bq, ak, ji, o9, vo, nu, toNat_cast]
    rfl
   ·simp only [bg hj])
  simp only [List.drop_zero] at this
  refine this.trans ?_
  by_cases hab : a = b
  ·rw [if_pos hab, decide_eq_true hab]
  ·rw [if_neg hab, decide_eq_false hab]
 ·rw [d9 (by omega), decide_eq_false (fun e => hl (by rw [e]))]
end Q
end

section
/- bits: the law's own test. -/
namespace Q
open Go Go.Abs
set_option linter.unusedVariables false
set_option linter.unusedSimpArgs false
end Q
end

section
/- bits: Same, Join. -/
namespace Q
open Go Go.Abs
set_option linter.unusedVariables false
set_option linter.unusedSimpArgs false
def diff (a b : List Int) (i : Nat) : Int := (List.range i).foldl (fun acc j => bits .or .u8 acc (bits .xor .u8 (a.getD j 0) (b.getD j 0))) 0
theorem bc8 (a b : List Int) (i : Nat) : diff a b (i + 1) = bits .or .u8 (diff a b i) (bits .xor .u8 (a.getD i 0) (b.getD i 0)) := by
 simp [diff, List.range_succ]
theorem bdl (a b : List Int) (ha : In 256 a) (hb : In 256 b) : ∀ i, (0 ≤ diff a b i ∧ diff a b i < 256) ∧ (diff a b i = 0 ↔ ∀ j, j < i → a.getD j 0 = b.getD j 0)
 | 0 => ⟨⟨by simp [diff], by simp [diff]⟩, by simp [diff]⟩
 | i + 1 => by
  obtain ⟨h1, h2⟩ := bdl a b ha hb i
  rw [bc8]
  have hx := ha.getD i (by omega)
  have hy := hb.getD i (by omega)
  obtain ⟨d, hd⟩ := Int.eq_ofNat_of_zero_le h1.1
  obtain ⟨x, hx'⟩ := Int.eq_ofNat_of_zero_le hx.1
  obtain ⟨y, hy'⟩ := Int.eq_ofNat_of_zero_le hy.1
  rw [hd, hx', hy', bu7 x y (by omega) (by omega), b2g d _ (by omega) (Nat.xor_lt_two_pow (n := 8) (show x < 2 ^ 8 by omega) (show y < 2 ^ 8 by omega))]
  have hb : d ||| (x ^^^ y) < 256 := Nat.or_lt_two_pow (n := 8) (show d < 2 ^ 8 by omega) (Nat.xor_lt_two_pow (n := 8) (show x < 2 ^ 8 by omega) (show y < 2 ^ 8 by omega))
  refine ⟨⟨by omega, by omega⟩, ?_⟩
  rw [show (((d ||| (x ^^^ y) : Nat) : Int) = 0 ↔ (d ||| (x ^^^ y)) = 0) by omega, Nat.or_eq_zero_iff, xor_zero]
  constructor
  ·rintro ⟨h0, hxy⟩ j hj
   by_cases hji : j = i
   ·subst hji; rw [hx', hy', hxy]
   ·exact h2.1 (by omega) j (by omega)
  ·intro h
   refine ⟨?_, ?_⟩
   ·have := h2.2 (fun j hj => h j (by omega)); omega
   ·have := h i (by omega); rw [hx', hy'] at this; omega
theorem qj (a b : List Int) (ha : In 256 a) (hb : In 256 b) (h : a.length ≤ 140737488355328) {ρ : Type} (k : Bool → Option ρ) : P.qj a b k = k (decide (a = b)) := by
 rw [P.atl]
 unfold P.ajp
 by_cases hl : a.length = b.length
 ·rw [au (by omega), P.avg]
  unfold P.asz P.bxn P.bwn P.b0e
  refine bnb (fun i => (a, b, diff a b i, (a.length : Int), (i : Int))) a.length (fun i hi next hn => ?_) (fun next => ?_) (Nat.zero_le _) (by omega)
  ·simp only [P.aly, toNat_cast]
   simp (disch := omega) only [ah, bg, d9, au, bq, ak, ji, o9, vo, nu]
   rw [← bc8]
   exact hn
  ·simp only [P.aly]
   rw [bg (by omega)]
   congr 1
   have := (bdl a b ha hb a.length).2
   by_cases hab : a = b
   ·rw [decide_eq_true hab, beq_iff_eq, this]
    subst hab; exact fun _ _ => rfl
   ·rw [decide_eq_false hab, beq_eq_false_iff_ne]
    intro h0
    refine hab (List.ext_getElem hl (fun i h1 h2 => ?_))
    have := this.1 h0 i h1
    rw [getD_lt h1, getD_lt h2] at this
    exact this
 ·rw [d9 (by omega), decide_eq_false (fun e => hl (by rw [e]))]
def joined (l : List (List Int)) (i : Nat) : List Int := (l.take i).flatten
theorem an0 (l : List (List Int)) (i : Nat) (h : i < l.length) : joined l (i + 1) = joined l i ++ l.getD i [] := by
 unfold joined
 rw [← ais l [] i h, List.flatten_append]; simp
theorem aq6 (l : List (List Int)) : joined l l.length = l.flatten := by unfold joined; rw [List.take_length]
theorem av0 (l : List (List Int)) (i : Nat) : (joined l i).length ≤ l.flatten.length := by
 unfold joined
 have : l.flatten = (l.take i).flatten ++ (l.drop i).flatten := by rw [← List.flatten_append, List.take_append_drop]
 rw [this, List.length_append]; omega
theorem yg (l : List (List Int)) (h : l.length ≤ 140737488355328) (h2 : l.flatten.length ≤ 140737488355328) {ρ : Type} (k : List Int → Option ρ) : P.yg l k = k l.flatten := by
 rw [P.bhk]
 unfold P.al0
 rw [P.ayi]
 unfold P.awe P.by2 P.bxk P.b0j
 refine bnb (fun i => (l, (i : Int), joined l i)) l.length (fun i hi next hn => ?_) (fun next => ?_) (Nat.zero_le _) (by omega)
 ·have e := an0 l i hi
  have h3 := av0 l (i + 1)
  rw [e, List.length_append] at h3
  simp only [P.aog, toNat_cast]
  simp (disch := omega) only [ah, bg, d9, au, bq, ak, ji, o9, vo, nu]
  rw [← e]
  exact hn
 ·simp only [P.aog]
  rw [bg (by omega), aq6]
theorem nk (n : Nat) (h : n ≤ 140737488355328) {ρ : Type} (k : List Int → Option ρ) : P.nk (n : Int) k = k [] := by
 rw [P.agi]
 unfold P.ace
 rw [bg (by omega), show IntKind.i64.wrap ((0 : Int) - (0 : Int)) = 0 by decide]
 rw [nu (by omega) (by omega)]
 by_cases h0 : n = 0
 ·subst h0; rw [bg (by omega)]
 ·rw [ah (by omega), ah (by omega), ah (by omega)]; rfl
theorem iq (l : List (List Int)) (h : l.length ≤ 140737488355328) (h2 : l.flatten.length ≤ 140737488355328) {ρ : Type} (k : List Int → Option ρ) : P.iq l k = k l.flatten := by
 rw [P.ae1]
 unfold P.aa1
 rw [P.aie]
 unfold P.afb P.zk6 P.zs6 P.zu6
 refine bnb (fun i => (l, ((joined l i).length : Int), l, (l.length : Int), (i : Int))) l.length (fun i hi next hn => ?_) (fun next => ?_) (Nat.zero_le _) (by omega)
 ·have e := an0 l i hi
  have h3 := av0 l (i + 1)
  have e2 : ((joined l i).length : Int) + ((l.getD i []).length : Int) = ((joined l (i + 1)).length : Int) := by rw [e, List.length_append]; omega
  simp only [P.abd, toNat_cast, e2]
  simp (disch := omega) only [ah, bg, d9, au, bq, ak, ji, o9, vo, nu]
  exact hn
 ·simp only [P.abd]
  rw [bg (by omega), aq6, nk _ h2, P.ah7]
  unfold P.ad2 P.zk7 P.zs7 P.zu7
  refine bnb (fun i => (l, (l.length : Int), (i : Int), joined l i)) l.length (fun i hi next hn => ?_) (fun next => ?_) (Nat.zero_le _) (by omega)
  ·have e := an0 l i hi
   have h3 := av0 l (i + 1)
   rw [e, List.length_append] at h3
   simp only [P.aa3, toNat_cast]
   simp (disch := omega) only [ah, bg, d9, au, bq, ak, ji, o9, vo, nu]
   rw [← e]
   exact hn
  ·simp only [P.aa3]
   rw [bg (by omega), aq6]
theorem eu (l : List (List Int)) (h : l.length ≤ 140737488355328) (h2 : l.flatten.length ≤ 140737488355328) {ρ : Type} (k : List Int → Option ρ) : P.eu l k = k l.flatten := by
 rw [P.as7]
 unfold P.aje
 exact iq l h h2 k
end Q
end

section
/- lmots: digits. -/
namespace Q
open Go Go.Abs
set_option linter.unusedVariables false
set_option linter.unusedSimpArgs false
theorem oz (N s : Nat) (hN : N < 18446744073709551616) (hs : s ≤ 65536) {ρ : Type} (k : List Int → Option ρ) : P.oz (N : Int) (s : Int) k = k (bsw 8 s N).reverse := by
 rw [P.bnx]
 unfold P.ar8
 simp only [toNat_cast]
 simp (disch := omega) only [ah, bg, d9, au, bq, ak, ji, o9, vo, nu]
 rw [P.bes]
 unfold P.bdi P.bxu P.bxj P.b2b
 refine qo (fun j => (((N / 2 ^ (8 * j) : Nat) : Int), (s : Int) - 1 - (j : Int), List.replicate (s - j) 0 ++ (bsw 8 j N).reverse)) s (by simp [bsw]) (fun j hj next hn' => ?_) (fun next => ?_) (by omega)
 ·simp only [P.axb, List.length_append, List.length_replicate, List.length_reverse, aay]
  rw [show (s : Int) - 1 - (j : Int) = ((s - 1 - j : Nat) : Int) by omega]
  simp only [toNat_cast]
  have hd := Nat.div_le_self N (2 ^ (8 * j))
  have hb : bits .and .u64 ((N / 2 ^ (8 * j) : Nat) : Int) 255 = ((N / 2 ^ (8 * j) % 2 ^ 8 : Nat) : Int) := by
   rw [show (255 : Int) = ((2 ^ 8 - 1 : Nat) : Int) from rfl, au6 _ _ (by omega) (by omega), Nat.and_two_pow_sub_one_eq_mod]
  have hd2 : (((N / 2 ^ (8 * j) : Nat) : Int)).fdiv ((2 : Int) ^ 8) = ((N / 2 ^ (8 * (j + 1)) : Nat) : Int) := by
   rw [show ((2 : Int) ^ 8) = (2 : Int) ^ min 8 8 from rfl, fdiv_pow _ 8 8 (by omega), Nat.div_div_eq_div_mul, ← Nat.pow_add, Nat.mul_succ]
  rw [hb, hd2, u8n _ (by omega)]
  rw [bav, List.reverse_append, List.reverse_singleton, List.singleton_append] at hn'
  have hset : (List.replicate (s - j) (0 : Int) ++ (bsw 8 j N).reverse).set (s - 1 - j) ((N / 2 ^ (8 * j) % 2 ^ 8 : Nat) : Int) = List.replicate (s - (j + 1)) 0 ++ ((N / 2 ^ (8 * j) % 2 ^ 8 : Nat) : Int) :: (bsw 8 j N).reverse := by
   rw [show s - j = (s - (j + 1)) + 1 by omega, List.replicate_succ', List.append_assoc, List.set_append_right _ _ (by simp; omega), List.length_replicate, show s - 1 - j - (s - (j + 1)) = 0 by omega]
   rfl
  rw [hset]
  simp (disch := omega) only [ah, bg, d9, au, bq, ak, ji, o9, vo, nu]
  rw [show ((s - 1 - j : Nat) : Int) - 1 = (s : Int) - 1 - ((j + 1 : Nat) : Int) by omega]
  exact hn'
 ·simp only [P.axb]
  rw [bg (by omega), Nat.sub_self]; rfl
def Kind (w p s : Nat) : Prop := (w = 1 ∧ p = 265 ∧ s = 7) ∨ (w = 2 ∧ p = 133 ∧ s = 6) ∨ (w = 4 ∧ p = 67 ∧ s = 4) ∨ (w = 8 ∧ p = 34 ∧ s = 0)
def sumTo (D : List Int) : Nat → Nat
 | 0 => 0
 | i + 1 => sumTo D i + (D.getD i 0).toNat
theorem sumTo_le (D : List Int) (w : Nat) (h : In (2 ^ w) D) : ∀ i, sumTo D i ≤ i * (2 ^ w - 1)
 | 0 => by simp [sumTo]
 | i + 1 => by
  have ih := sumTo_le D w h i
  have hp : ((2 : Int) ^ w) = ((2 ^ w : Nat) : Int) := by simp
  have := h.getD i (by rw [hp]; have := p2 w; omega)
  rw [hp] at this
  rw [Nat.succ_mul]; simp only [sumTo]; omega
theorem aqr (b : List Int) (w c : Int) : In (2 ^ w.toNat) (uf b w c) := by
 unfold uf
 split
 ·refine In.map (fun i _ => ⟨Int.natCast_nonneg _, ?_⟩)
  have := Nat.mod_lt (T 8 b.reverse / 2 ^ (8 * b.length - w.toNat * (i + 1))) (p2 w.toNat)
  have hp : ((2 : Int) ^ w.toNat) = ((2 ^ w.toNat : Nat) : Int) := by simp
  rw [hp]; unfold dg; omega
 ·exact In.nil
def left (w s : Nat) (b : List Int) : Nat := ((256 / w) * (2 ^ w - 1) - sumTo (uf b w ((256 / w : Nat) : Int)) (256 / w)) * 2 ^ s
def bt7 (w p s : Nat) (b : List Int) : List Int := uf (b ++ (bsw 8 2 (left w s b)).reverse) w p
theorem aeh {w p s : Nat} (h : Kind w p s) : 1 ≤ w ∧ w ≤ 8 ∧ (256 / w) * w = 256 ∧ 256 / w ≤ p ∧ w * p = 272 - s ∧ s ≤ 7 ∧ (256 / w) * (2 ^ w - 1) * 2 ^ s < 65536 ∧ p ≤ 265 ∧ 2 ^ w ≤ 256 ∧ 2 ^ s ≤ 128 ∧ (256 / w) * (2 ^ w - 1) < 65536 := by
 rcases h with ⟨rfl, rfl, rfl⟩ | ⟨rfl, rfl, rfl⟩ | ⟨rfl, rfl, rfl⟩ | ⟨rfl, rfl, rfl⟩ <;> decide
theorem bmu {w p s : Nat} (h : Kind w p s) (b : List Int) : left w s b < 65536 := by
 have f := aeh h
 unfold left
 have : ((256 / w) * (2 ^ w - 1) - sumTo (uf b w ((256 / w : Nat) : Int)) (256 / w)) * 2 ^ s ≤ (256 / w) * (2 ^ w - 1) * 2 ^ s := Nat.mul_le_mul (by omega) (Nat.le_refl _)
 omega
theorem aec (b : List Int) (w c : Nat) (h1 : 1 ≤ w) (h2 : w ≤ 24) (h : c * w ≤ b.length * 8) : uf b (w : Int) (c : Int) = (List.range c).map (dg w b.length (T 8 b.reverse)) := by
 unfold uf
 rw [if_pos (by refine ⟨by omega, by omega, by omega, ?_⟩; rw [← Int.natCast_mul]; omega)]
 simp only [toNat_cast]
theorem bkh {w p s : Nat} (hk : Kind w p s) (b e : List Int) (hb : b.length = 32) (he : e.length = 2) :
    uf (b ++ e) w p = uf b w ((256 / w : Nat) : Int) ++ uf e w ((p - 256 / w : Nat) : Int) := by
 obtain ⟨f1, f2, f3, f4, f5, f6, f7, f8, f9, f10, f11⟩ := aeh hk
 have hpw : p * w = 272 - s := by rw [Nat.mul_comm]; exact f5
 rw [aec _ w p f1 (by omega) (by rw [List.length_append]; omega), aec _ w _ f1 (by omega) (by omega), aec _ w _ f1 (by omega) (by rw [Nat.sub_mul]; omega)]
 rw [show p = 256 / w + (p - 256 / w) by omega, List.range_add, List.map_append, List.map_map, show 256 / w + (p - 256 / w) - 256 / w = p - 256 / w by omega]
 have hT : T 8 (b ++ e).reverse = T 8 e.reverse + 2 ^ 16 * T 8 b.reverse := by
  rw [List.reverse_append, auu, List.length_reverse, he]
 have hlt := bs1 8 e.reverse
 rw [List.length_reverse, he] at hlt
 congr 1
 ·refine List.map_congr_left (fun i hi => ?_)
  have hi := List.mem_range.1 hi
  have : w * (i + 1) ≤ w * (256 / w) := Nat.mul_le_mul (Nat.le_refl _) hi
  rw [Nat.mul_comm w (256 / w), f3] at this
  unfold dg
  rw [hT, List.length_append, hb, he, show 8 * (32 + 2) - w * (i + 1) = 16 + (8 * 32 - w * (i + 1)) by omega, Nat.pow_add, ← Nat.div_div_eq_div_mul, Nat.add_mul_div_left _ _ (p2 _), Nat.div_eq_of_lt hlt, Nat.zero_add]
 ·refine List.map_congr_left (fun j hj => ?_)
  have hj := List.mem_range.1 hj
  have h3 : w * (256 / w + (j + 1)) ≤ w * p := Nat.mul_le_mul (Nat.le_refl _) (by omega)
  rw [Nat.mul_add, Nat.mul_comm w (256 / w), f3] at h3
  simp only [Function.comp]
  unfold dg
  rw [hT, List.length_append, hb, he, Nat.add_assoc, Nat.mul_add w (256 / w) (j + 1), Nat.mul_comm w (256 / w), f3, show 8 * (32 + 2) - (256 + w * (j + 1)) = 8 * 2 - w * (j + 1) by omega]
  congr 1
  rw [← axz (T 8 e.reverse + 2 ^ 16 * T 8 b.reverse) (8 * 2 - w * (j + 1)) w 16 (by have h4 : w * (j + 1) = w * j + w := Nat.mul_succ w j; omega), Nat.add_mul_mod_self_left, Nat.mod_eq_of_lt hlt]
end Q
end
