/-
  HssSigns, part 21: an interpreter of my own over abstract values, the pure functions, the walks and the plain law.
-/

import Derived.Test.YtmipokjdajiimaaGreatDoorHssSignsH
import Derived.Laws.Bits64
import Derived.Test.YtmipokjdajiimaaGreatDoorHssSignsL
import Derived.Test.YtmipokjdajiimaaGreatDoorHssSignsJ
import Derived.Test.YtmipokjdajiimaaGreatDoorHssSignsK
import Derived.Test.YtmipokjdajiimaaGreatDoorHssSignsI

section
/- Small laws for the plain proofs. -/
namespace Q
open Go Go.Abs
set_option linter.unusedVariables false
def In (m : Int) (l : List Int) : Prop := ∀ x, x ∈ l → 0 ≤ x ∧ x < m
theorem wf_u8 {n : Int} (h : wfI .u8 n) : 0 ≤ n ∧ n < 256 := by
 simp [wfI, Lit.wf, IntKind.min, IntKind.max, IntKind.signed, IntKind.bits] at h; omega
theorem wf_u64 {n : Int} (h : wfI .u64 n) : 0 ≤ n ∧ n < 18446744073709551616 := by
 simp [wfI, Lit.wf, IntKind.min, IntKind.max, IntKind.signed, IntKind.bits] at h; omega
theorem bre {l : List Int} (h : ∀ x, x ∈ l → wfI .u8 x) : In 256 l := fun x hx => wf_u8 (h x hx)
theorem In.tail {m x : Int} {l : List Int} (h : In m (x :: l)) : In m l := fun y hy => h y (List.mem_cons_of_mem _ hy)
theorem In.app {m : Int} {l r : List Int} (h1 : In m l) (h2 : In m r) : In m (l ++ r) := fun y hy => (List.mem_append.1 hy).elim (h1 y) (h2 y)
theorem In.left {m : Int} {l r : List Int} (h : In m (l ++ r)) : In m l := fun y hy => h y (List.mem_append_left _ hy)
theorem In.right {m : Int} {l r : List Int} (h : In m (l ++ r)) : In m r := fun y hy => h y (List.mem_append_right _ hy)
theorem In.take {m : Int} {l : List Int} (h : In m l) (n : Nat) : In m (l.take n) := fun y hy => h y (List.mem_of_mem_take hy)
theorem In.drop {m : Int} {l : List Int} (h : In m l) (n : Nat) : In m (l.drop n) := fun y hy => h y (List.mem_of_mem_drop hy)
theorem In.nil {m : Int} : In m [] := fun y hy => by simp at hy
theorem In.rev {m : Int} {l : List Int} (h : In m l) : In m l.reverse := fun y hy => h y (by simpa using hy)
theorem In.getD {m : Int} {l : List Int} (h : In m l) (i : Nat) (hm : 0 < m) : 0 ≤ l.getD i 0 ∧ l.getD i 0 < m := by
 rw [List.getD_eq_getElem?_getD]
 by_cases hi : i < l.length
 ·rw [List.getElem?_eq_getElem hi]; exact h _ (List.getElem_mem hi)
 ·rw [List.getElem?_eq_none (by omega)]; exact ⟨Int.le_refl 0, hm⟩
theorem In.map {m : Int} {α : Type} {l : List α} {f : α → Int} (h : ∀ a, a ∈ l → 0 ≤ f a ∧ f a < m) : In m (l.map f) := fun y hy => by
 obtain ⟨a, ha, rfl⟩ := List.mem_map.1 hy
 exact h a ha
theorem gq {α : Type} {a b : Int} (h : ¬ a = b) (x y : α) : br (a != b) x y = x := by rw [bne_iff_ne.2 h]; exact ny x y
theorem dz {α : Type} {a b : Int} (h : a = b) (x y : α) : br (a != b) x y = y := by rw [bne_eq_false_iff_eq.2 h]; exact um x y
theorem d9 {α : Type} {a b : Int} (h : a = b) (x y : α) : br (a == b) x y = x := by rw [beq_iff_eq.2 h]; exact ny x y
theorem dh {α : Type} {a b : Int} (h : ¬ a = b) (x y : α) : br (a == b) x y = y := by rw [beq_eq_false_iff_ne.2 h]; exact um x y
theorem jk {α : Type} (b : Bool) (x y : α) : br (!b) x y = br b y x := by cases b <;> simp
theorem bmx {X Y ρ : Type} {stp : X → (X → Option ρ) → (Y → Option ρ) → Option ρ} {K : Y → Option ρ} {r : Option ρ} (S : Nat → X) (n : Nat)
    (hstep : ∀ i, i < n → ∀ next, next (S (i + 1)) = r → stp (S i) next K = r) (hend : ∀ next, stp (S n) next K = r) {i : Nat} (hi : i ≤ n) (hn : n ≤ 18446744073709551616) : lp stp (S i) K = r := by
 have key : ∀ m i, m + i = n → lpN stp K m (S i) = r ∧ ∀ q, m ≤ q → lpN stp K q (S i) = r := by
  intro m
  induction m with
  | zero =>
   intro i hi
   have : i = n := by omega
   subst this
   refine ⟨hend _, fun q _ => ?_⟩
   cases q with
   | zero => exact hend _
   | succ q => exact hend _
  | succ m ih =>
   intro i hi
   refine ⟨hstep i (by omega) _ (ih (i + 1) (by omega)).1, fun q hq => ?_⟩
   cases q with
   | zero => omega
   | succ q => exact hstep i (by omega) _ ((ih (i + 1) (by omega)).2 q (by omega))
 exact (key (n - i) i (by omega)).2 FU (by rw [bwn]; omega)
theorem getD_lt {α : Type} {l : List α} {d : α} {i : Nat} (h : i < l.length) : l.getD i d = l[i] := by
 rw [List.getD_eq_getElem?_getD, List.getElem?_eq_getElem h]; rfl
theorem br3 {α : Type} {l : List α} {d : α} {i : Nat} (h : l.length ≤ i) : l.getD i d = d := by
 rw [List.getD_eq_getElem?_getD, List.getElem?_eq_none h]; rfl
theorem toNat_cast (n : Nat) : ((n : Int)).toNat = n := Int.toNat_natCast n
theorem bko (f : Nat → Int) (i n : Nat) (h : i < n) (d : Int) : ((List.range i).map f ++ List.replicate (n - i) d).set i (f i) = (List.range (i + 1)).map f ++ List.replicate (n - (i + 1)) d := by
 rw [List.set_append_right _ _ (by simp), show n - i = (n - (i + 1)) + 1 by omega, List.replicate_succ]
 simp [List.range_succ]
theorem amx {α : Type} (f : Nat → α) (i : Nat) : (List.range i).map f ++ [f i] = (List.range (i + 1)).map f := by simp [List.range_succ]
theorem ai2 {α : Type} (l : List α) (d : α) (i : Nat) (h : i < l.length) : l.take i ++ [l.getD i d] = l.take (i + 1) := by
 rw [getD_lt h, List.take_add_one, List.getElem?_eq_getElem h]; rfl
theorem acw {α : Type} (l : List α) (d : α) (i : Nat) (h : i < l.length) : l.drop i = l.getD i d :: l.drop (i + 1) := by
 rw [getD_lt h]; exact List.drop_eq_getElem_cons h
end Q
end

section
/- The bit operations as numbers. -/
namespace Q
open Go Go.Abs
set_option linter.unusedVariables false
theorem bz3 (x y : Nat) (hx : x < 256) (hy : y < 256) : bits .or .u8 (x : Int) (y : Int) = ((x ||| y : Nat) : Int) := by
 have h1 : x ||| y < 256 := Nat.or_lt_two_pow (n := 8) hx hy
 have e : bits .or .u8 (x : Int) (y : Int) = IntKind.u8.wrap ((BitVec.ofInt 8 (x : Int) ||| BitVec.ofInt 8 (y : Int)).toNat : Int) := rfl
 have e2 : (BitVec.ofInt 8 (x : Int) ||| BitVec.ofInt 8 (y : Int)).toNat = x ||| y := by
  rw [BitVec.toNat_or, BitVec.toNat_ofInt, BitVec.toNat_ofInt]; congr 1 <;> omega
 rw [e, e2]; exact IntWalk.u8_in _ ⟨by omega, by omega⟩
theorem bvn (x y : Nat) (hx : x < 256) (hy : y < 256) : bits .xor .u8 (x : Int) (y : Int) = ((x ^^^ y : Nat) : Int) := by
 have h1 : x ^^^ y < 256 := Nat.xor_lt_two_pow (n := 8) hx hy
 have e : bits .xor .u8 (x : Int) (y : Int) = IntKind.u8.wrap ((BitVec.ofInt 8 (x : Int) ^^^ BitVec.ofInt 8 (y : Int)).toNat : Int) := rfl
 have e2 : (BitVec.ofInt 8 (x : Int) ^^^ BitVec.ofInt 8 (y : Int)).toNat = x ^^^ y := by
  rw [BitVec.toNat_xor, BitVec.toNat_ofInt, BitVec.toNat_ofInt]; congr 1 <;> omega
 rw [e, e2]; exact IntWalk.u8_in _ ⟨by omega, by omega⟩
theorem btt (x y : Nat) (hx : x < 256) (hy : y < 256) : bits .and .u8 (x : Int) (y : Int) = ((x &&& y : Nat) : Int) := by
 have h1 : x &&& y < 256 := Nat.and_lt_two_pow (n := 8) x hy
 have e : bits .and .u8 (x : Int) (y : Int) = IntKind.u8.wrap ((BitVec.ofInt 8 (x : Int) &&& BitVec.ofInt 8 (y : Int)).toNat : Int) := rfl
 have e2 : (BitVec.ofInt 8 (x : Int) &&& BitVec.ofInt 8 (y : Int)).toNat = x &&& y := by
  rw [BitVec.toNat_and, BitVec.toNat_ofInt, BitVec.toNat_ofInt]; congr 1 <;> omega
 rw [e, e2]; exact IntWalk.u8_in _ ⟨by omega, by omega⟩
theorem bl7 (x y : Nat) (hx : x < 18446744073709551616) (hy : y < 18446744073709551616) : bits .or .u64 (x : Int) (y : Int) = ((x ||| y : Nat) : Int) := by
 have h1 : x ||| y < 18446744073709551616 := Nat.or_lt_two_pow (n := 64) hx hy
 have e : bits .or .u64 (x : Int) (y : Int) = IntKind.u64.wrap ((BitVec.ofInt 64 (x : Int) ||| BitVec.ofInt 64 (y : Int)).toNat : Int) := rfl
 have e2 : (BitVec.ofInt 64 (x : Int) ||| BitVec.ofInt 64 (y : Int)).toNat = x ||| y := by
  rw [BitVec.toNat_or, BitVec.toNat_ofInt, BitVec.toNat_ofInt]; congr 1 <;> omega
 rw [e, e2]; exact IntWalk.u64_in _ ⟨by omega, by omega⟩
theorem avk (x y : Nat) (hx : x < 18446744073709551616) (hy : y < 18446744073709551616) : bits .and .u64 (x : Int) (y : Int) = ((x &&& y : Nat) : Int) := by
 have h1 : x &&& y < 18446744073709551616 := Nat.and_lt_two_pow (n := 64) x hy
 have e : bits .and .u64 (x : Int) (y : Int) = IntKind.u64.wrap ((BitVec.ofInt 64 (x : Int) &&& BitVec.ofInt 64 (y : Int)).toNat : Int) := rfl
 have e2 : (BitVec.ofInt 64 (x : Int) &&& BitVec.ofInt 64 (y : Int)).toNat = x &&& y := by
  rw [BitVec.toNat_and, BitVec.toNat_ofInt, BitVec.toNat_ofInt]; congr 1 <;> omega
 rw [e, e2]; exact IntWalk.u64_in _ ⟨by omega, by omega⟩
theorem brl (x y : Nat) (hx : x < 4294967296) (hy : y < 4294967296) : bits .and .u32 (x : Int) (y : Int) = ((x &&& y : Nat) : Int) := by
 have h1 : x &&& y < 4294967296 := Nat.and_lt_two_pow (n := 32) x hy
 have e : bits .and .u32 (x : Int) (y : Int) = IntKind.u32.wrap ((BitVec.ofInt 32 (x : Int) &&& BitVec.ofInt 32 (y : Int)).toNat : Int) := rfl
 have e2 : (BitVec.ofInt 32 (x : Int) &&& BitVec.ofInt 32 (y : Int)).toNat = x &&& y := by
  rw [BitVec.toNat_and, BitVec.toNat_ofInt, BitVec.toNat_ofInt]; congr 1 <;> omega
 rw [e, e2]; exact IntWalk.u32_in _ ⟨by omega, by omega⟩
theorem u8m (n : Int) : IntKind.u8.wrap n = n % 256 := by simp [IntKind.wrap, IntKind.bits, IntKind.signed]
theorem btk (n : Int) : IntKind.u32.wrap n = n % 4294967296 := by simp [IntKind.wrap, IntKind.bits, IntKind.signed]
theorem bn5 (n : Int) : IntKind.u64.wrap n = n % 18446744073709551616 := by simp [IntKind.wrap, IntKind.bits, IntKind.signed]
theorem xor_zero {x y : Nat} : x ^^^ y = 0 ↔ x = y := by
 constructor
 ·intro h
  have : (x ^^^ y) ^^^ y = x := by rw [Nat.xor_assoc, Nat.xor_self, Nat.xor_zero]
  rw [h, Nat.zero_xor] at this
  exact this.symm
 ·rintro rfl; exact Nat.xor_self _
theorem bh5 (a x i : Nat) (hx : x < 2 ^ i) : (a * 2 ^ i) ||| x = a * 2 ^ i + x := by
 rw [← Nat.shiftLeft_eq, Nat.shiftLeft_add_eq_or_of_lt hx]
end Q
end

section
/- Numbers and their digits, the lowest first. -/
namespace Q
open Go Go.Abs
set_option linter.unusedVariables false
def T (w : Nat) : List Int → Nat
 | [] => 0
 | x :: l => x.toNat % 2 ^ w + 2 ^ w * T w l
theorem p2 (n : Nat) : 0 < 2 ^ n := Nat.pow_pos (by omega)
theorem bsm (w : Nat) : ∀ l : List Int, T w l < 2 ^ (w * l.length)
 | [] => by simp [T]
 | x :: l => by
  have ih := bsm w l
  have h1 := Nat.mod_lt x.toNat (p2 w)
  rw [List.length_cons, Nat.mul_succ, Nat.add_comm, Nat.pow_add]
  simp only [T]
  have : 2 ^ w * (T w l + 1) ≤ 2 ^ w * 2 ^ (w * l.length) := Nat.mul_le_mul (Nat.le_refl _) ih
  rw [Nat.mul_add] at this
  omega
theorem bbc (w : Nat) : ∀ a b : List Int, T w (a ++ b) = T w a + 2 ^ (w * a.length) * T w b
 | [], b => by simp [T]
 | x :: a, b => by
  rw [List.cons_append, T, T, bbc w a b, List.length_cons, Nat.mul_succ, Nat.add_comm (w * a.length) w, Nat.pow_add, Nat.mul_add, Nat.mul_assoc]
  omega
theorem bxg (w : Nat) (l : List Int) (k : Nat) (h : k ≤ l.length) : T w l = T w (l.take k) + 2 ^ (w * k) * T w (l.drop k) := by
 have := bbc w (l.take k) (l.drop k)
 rw [List.take_append_drop, List.length_take, Nat.min_eq_left h] at this
 exact this
theorem azp (w : Nat) (l : List Int) (k : Nat) (h : k ≤ l.length) : T w (l.drop k) = T w l / 2 ^ (w * k) := by
 have := bsm w (l.take k)
 rw [List.length_take, Nat.min_eq_left h] at this
 rw [bxg w l k h, Nat.add_mul_div_left _ _ (p2 _), Nat.div_eq_of_lt this, Nat.zero_add]
theorem bv5 (w : Nat) (l : List Int) (k : Nat) : T w l / 2 ^ (w * k) % 2 ^ w = (l.getD k 0).toNat % 2 ^ w := by
 by_cases h : k < l.length
 ·rw [← azp w l k (by omega), acw l 0 k h, T, Nat.add_mul_mod_self_left, Nat.mod_mod]
 ·rw [br3 (by omega), Nat.div_eq_of_lt]
  ·rfl
  ·exact Nat.lt_of_lt_of_le (bsm w l) (Nat.pow_le_pow_right (by omega) (Nat.mul_le_mul (Nat.le_refl _) (by omega)))
theorem qy {X Y ρ : Type} {stp : X → (X → Option ρ) → (Y → Option ρ) → Option ρ} {K : Y → Option ρ} {r : Option ρ} (S : Nat → X) (n : Nat) {x : X} (hx : x = S 0)
    (hstep : ∀ i, i < n → ∀ next, next (S (i + 1)) = r → stp (S i) next K = r) (hend : ∀ next, stp (S n) next K = r) (hn : n ≤ 18446744073709551616) : lp stp x K = r := by
 rw [hx]; exact bmx S n hstep hend (Nat.zero_le _) hn
def bsw (w n X : Nat) : List Int := (List.range n).map fun i => ((X / 2 ^ (w * i) % 2 ^ w : Nat) : Int)
@[simp] theorem ab1 (w n X : Nat) : (bsw w n X).length = n := by simp [bsw]
theorem bji (w n X i : Nat) (h : i < n) : (bsw w n X).getD i 0 = ((X / 2 ^ (w * i) % 2 ^ w : Nat) : Int) := by
 rw [getD_lt (by simpa using h)]; simp [bsw]
theorem bim (w n X : Nat) : bsw w (n + 1) X = bsw w n X ++ [((X / 2 ^ (w * n) % 2 ^ w : Nat) : Int)] := by simp [bsw, List.range_succ]
theorem be5 (w n X : Nat) : In (2 ^ w) (bsw w n X) := by
 refine In.map (fun i _ => ⟨Int.natCast_nonneg _, ?_⟩)
 have := Nat.mod_lt (X / 2 ^ (w * i)) (p2 w)
 have e : ((2 : Int) ^ w) = ((2 ^ w : Nat) : Int) := by simp
 rw [e]; omega
theorem awt (X h w m : Nat) (hm : h + w ≤ m) : X % 2 ^ m / 2 ^ h % 2 ^ w = X / 2 ^ h % 2 ^ w := by
 have e : (2 : Nat) ^ m = 2 ^ h * (2 ^ w * 2 ^ (m - (h + w))) := by rw [← Nat.pow_add, ← Nat.pow_add]; congr 1; omega
 rw [e, Nat.mod_mul_right_div_self, Nat.mod_mul_right_mod]
theorem bhd (X h w a b : Nat) (hb : a + b ≤ w) : X / 2 ^ h % 2 ^ w / 2 ^ a % 2 ^ b = X / 2 ^ (h + a) % 2 ^ b := by
 rw [awt _ _ _ _ hb, Nat.div_div_eq_div_mul, ← Nat.pow_add]
theorem bo2 (X h w a : Nat) : X / 2 ^ h % 2 ^ w + 2 ^ w * (X / 2 ^ (h + w) % 2 ^ a) = X / 2 ^ h % 2 ^ (w + a) := by
 rw [Nat.pow_add 2 w a, Nat.mod_mul, Nat.pow_add, Nat.div_div_eq_div_mul]
end Q
end

section
/- hss: a number's digits, each by its own width: pure. -/
namespace Q
open Go Go.Abs
set_option linter.unusedVariables false
set_option linter.unusedSimpArgs false
def sm : List Nat → Nat
 | [] => 0
 | h :: r => h + sm r
def vec : List Nat → Nat → List Nat
 | [], _ => []
 | h :: r, n => (n / 2 ^ sm r % 2 ^ h) :: vec r n
theorem vec_len : ∀ (hs : List Nat) (n : Nat), (vec hs n).length = hs.length
 | [], n => rfl
 | h :: r, n => by simp [vec, vec_len r n]
theorem blz : ∀ (hs : List Nat) (i : Nat), i < hs.length → sm (hs.drop i) = hs.getD i 0 + sm (hs.drop (i + 1))
 | [], i, hi => by simp at hi
 | h :: r, 0, hi => by simp [sm]
 | h :: r, i + 1, hi => by simpa using blz r i (by simpa using hi)
theorem bnt : ∀ (hs : List Nat) (n i : Nat), i < hs.length → (vec hs n).getD i 0 = n / 2 ^ sm (hs.drop (i + 1)) % 2 ^ hs.getD i 0
 | [], n, i, hi => by simp at hi
 | h :: r, n, 0, hi => by simp [vec]
 | h :: r, n, i + 1, hi => by simpa [vec] using bnt r n i (by simpa using hi)
theorem bmv : ∀ (a b : List Nat), sm (a ++ b) = sm a + sm b
 | [], b => by simp [sm]
 | h :: r, b => by simp [sm, bmv r b]; omega
theorem bnw (hs : List Nat) (i : Nat) : sm (hs.take i) + sm (hs.drop i) = sm hs := by rw [← bmv, List.take_append_drop]
theorem akw (p : Nat → Prop) : ∀ N, (∀ i, i < N → p i) ∨ ∃ i, i < N ∧ ¬ p i ∧ ∀ j, j < i → p j
 | 0 => .inl (fun i h => by omega)
 | N + 1 => by
  rcases akw p N with h | ⟨i, h1, h2, h3⟩
  ·by_cases hp : p N
   ·exact .inl (fun i hi => by
      by_cases e : i = N
      ·rw [e]; exact hp
      ·exact h i (by omega))
   ·exact .inr ⟨N, by omega, hp, h⟩
  ·exact .inr ⟨i, by omega, h2, h3⟩
end Q
end

section
/- bits: Unpack. -/
namespace Q
open Go Go.Abs
set_option linter.unusedVariables false
set_option linter.unusedSimpArgs false
def Such (n : Nat) (w c : Int) : Prop := 1 ≤ w ∧ w ≤ 24 ∧ 0 ≤ c ∧ c * w ≤ n * 8
instance (n : Nat) (w c : Int) : Decidable (Such n w c) := inferInstanceAs (Decidable (_ ∧ _))
theorem bnr (n : Nat) (w c : Int) (hn : n ≤ 1000000) {ρ : Type} (k : Bool → Option ρ) :
    br (decide (w ≥ (1 : Int))) (br (decide (w ≤ (24 : Int))) (br (decide (c ≥ (0 : Int))) (br (decide (w = (0 : Int))) none
     (k (decide (c ≤ IntKind.i64.wrap ((IntKind.i64.wrap ((↑n : Int) * (8 : Int))).tdiv w))))) (k false)) (k false)) (k false) = k (decide (Such n w c)) := by
 by_cases h1 : w ≥ 1
 ·by_cases h2 : w ≤ 24
  ·by_cases h3 : c ≥ 0
   ·rw [aj h1, aj h2, aj h3, bq (by omega)]
    congr 1
    have e0 : ((n : Int) * 8).tdiv w = (n : Int) * 8 / w := Int.tdiv_eq_ediv_of_nonneg (by omega)
    have e1 : (n : Int) * 8 / w ≤ n * 8 := Int.ediv_le_self _ (by omega)
    have e2 : 0 ≤ (n : Int) * 8 / w := Int.ediv_nonneg (by omega) (by omega)
    rw [o9 (x := (n : Int) * 8) (by omega) (by omega), e0, o9 (by omega) (by omega)]
    apply decide_eq_decide.2
    rw [Int.le_ediv_iff_mul_le (by omega)]
    unfold Such
    omega
   ·rw [aj h1, aj h2, bq h3, decide_eq_false (fun h => h3 h.2.2.1)]
  ·rw [aj h1, bq h2, decide_eq_false (fun h => h2 h.2.1)]
 ·rw [bq h1, decide_eq_false (fun h => h1 h.1)]
theorem abk (b : List Int) (w c : Int) (hn : b.length ≤ 1000000) {ρ : Type} (k : Bool → Option ρ) : P.abk b w c k = k (decide (Such b.length w c)) := by
 rw [P.atv]; exact bnr b.length w c hn k
theorem adl (b : List Int) (w c : Int) (hn : b.length ≤ 1000000) {ρ : Type} (k : Bool → Option ρ) : P.adl b w c k = k (decide (Such b.length w c)) := by
 rw [P.av7]; exact bnr b.length w c hn k
theorem fdiv_pow (a n m : Nat) (h : n ≤ m) : (a : Int).fdiv ((2 : Int) ^ min n m) = ((a / 2 ^ n : Nat) : Int) := by
 rw [Nat.min_eq_left h, show ((2 : Int) ^ n) = ((2 ^ n : Nat) : Int) by simp, ← Int.ofNat_fdiv]
theorem mul_pow (a n m : Nat) (h : n ≤ m) : (a : Int) * ((2 : Int) ^ min n m) = ((a * 2 ^ n : Nat) : Int) := by
 rw [Nat.min_eq_left h, show ((2 : Int) ^ n) = ((2 ^ n : Nat) : Int) by simp, ← Int.natCast_mul]
theorem ab0 (a : Nat) (h : a < 18446744073709551616) : IntKind.u64.wrap (a : Int) = (a : Int) := by rw [bn5]; omega
theorem bjf (a : Nat) (h : a < 4294967296) : IntKind.u32.wrap (a : Int) = (a : Int) := by rw [btk]; omega
theorem u8n (a : Nat) (h : a < 256) : IntKind.u8.wrap (a : Int) = (a : Int) := by rw [u8m]; omega
theorem bgk {a b : Nat} (h : a ≤ b) : 2 ^ a ≤ 2 ^ b := Nat.pow_le_pow_right (by omega) h
theorem bny (w : Nat) (h : w ≤ 24) : IntKind.u64.wrap (IntKind.u64.wrap ((1 : Int) * (2 : Int) ^ min w 64) - (1 : Int)) = ((2 ^ w - 1 : Nat) : Int) := by
 have h1 := p2 w
 have h2 : 2 ^ w ≤ 2 ^ 24 := bgk h
 rw [show (1 : Int) = ((1 : Nat) : Int) from rfl, mul_pow 1 w 64 (by omega), ab0 _ (by omega), show ((1 * 2 ^ w : Nat) : Int) - ((1 : Nat) : Int) = ((2 ^ w - 1 : Nat) : Int) by omega, ab0 _ (by omega)]
theorem bjt (x w : Nat) (hx : x < 18446744073709551616) (h : w ≤ 24) : bits .and .u64 (x : Int) (IntKind.u64.wrap (IntKind.u64.wrap ((1 : Int) * (2 : Int) ^ min w 64) - (1 : Int))) = ((x % 2 ^ w : Nat) : Int) := by
 have h2 : 2 ^ w ≤ 2 ^ 24 := bgk h
 rw [bny w h, avk _ _ hx (by omega), Nat.and_two_pow_sub_one_eq_mod]
def zh (n : Nat) : Nat := (n + 7) / 8
theorem bh9 (n : Nat) : n ≤ 8 * zh n := by unfold zh; omega
theorem bja (n : Nat) : 8 * zh n < n + 8 := by unfold zh; omega
theorem byte_at {b : List Int} (hb : In 256 b) (t : Nat) : ∃ x : Nat, b.getD t 0 = (x : Int) ∧ x < 256 ∧ x = (b.getD t 0).toNat % 2 ^ 8 := by
 have := hb.getD t (by omega)
 exact ⟨(b.getD t 0).toNat, by omega, by omega, by omega⟩
end Q
end

section
/- Words of 32 and of 64 bits. -/
namespace Q
open Go Go.Abs
set_option linter.unusedVariables false
set_option linter.unusedSimpArgs false
theorem ofI {w : Nat} (x : BitVec w) : BitVec.ofInt w (x.toNat : Int) = x := by simp
theorem aus (x : BitVec 32) : x.toNat < 4294967296 := x.isLt
theorem brz (x : BitVec 64) : x.toNat < 18446744073709551616 := x.isLt
theorem bcz (x y : BitVec 32) : bits .xor .u32 (x.toNat : Int) (y.toNat : Int) = ((x ^^^ y).toNat : Int) := by
 have e : bits .xor .u32 (x.toNat : Int) (y.toNat : Int) = IntKind.u32.wrap ((BitVec.ofInt 32 (x.toNat : Int) ^^^ BitVec.ofInt 32 (y.toNat : Int)).toNat : Int) := rfl
 rw [e, ofI, ofI, bjf _ (aus _)]
theorem bze (x y : BitVec 32) : bits .and .u32 (x.toNat : Int) (y.toNat : Int) = ((x &&& y).toNat : Int) := by
 have e : bits .and .u32 (x.toNat : Int) (y.toNat : Int) = IntKind.u32.wrap ((BitVec.ofInt 32 (x.toNat : Int) &&& BitVec.ofInt 32 (y.toNat : Int)).toNat : Int) := rfl
 rw [e, ofI, ofI, bjf _ (aus _)]
theorem b6v (x y : BitVec 32) : bits .or .u32 (x.toNat : Int) (y.toNat : Int) = ((x ||| y).toNat : Int) := by
 have e : bits .or .u32 (x.toNat : Int) (y.toNat : Int) = IntKind.u32.wrap ((BitVec.ofInt 32 (x.toNat : Int) ||| BitVec.ofInt 32 (y.toNat : Int)).toNat : Int) := rfl
 rw [e, ofI, ofI, bjf _ (aus _)]
theorem add32 (x y : BitVec 32) : IntKind.u32.wrap ((x.toNat : Int) + (y.toNat : Int)) = ((x + y).toNat : Int) := by
 rw [btk, BitVec.toNat_add]; omega
theorem akn (x y : BitVec 64) : bits .xor .u64 (x.toNat : Int) (y.toNat : Int) = ((x ^^^ y).toNat : Int) := by
 have e : bits .xor .u64 (x.toNat : Int) (y.toNat : Int) = IntKind.u64.wrap ((BitVec.ofInt 64 (x.toNat : Int) ^^^ BitVec.ofInt 64 (y.toNat : Int)).toNat : Int) := rfl
 rw [e, ofI, ofI, ab0 _ (brz _)]
theorem bj7 (x y : BitVec 64) : bits .and .u64 (x.toNat : Int) (y.toNat : Int) = ((x &&& y).toNat : Int) := by
 have e : bits .and .u64 (x.toNat : Int) (y.toNat : Int) = IntKind.u64.wrap ((BitVec.ofInt 64 (x.toNat : Int) &&& BitVec.ofInt 64 (y.toNat : Int)).toNat : Int) := rfl
 rw [e, ofI, ofI, ab0 _ (brz _)]
theorem b0m (x y : BitVec 64) : bits .or .u64 (x.toNat : Int) (y.toNat : Int) = ((x ||| y).toNat : Int) := by
 have e : bits .or .u64 (x.toNat : Int) (y.toNat : Int) = IntKind.u64.wrap ((BitVec.ofInt 64 (x.toNat : Int) ||| BitVec.ofInt 64 (y.toNat : Int)).toNat : Int) := rfl
 rw [e, ofI, ofI, ab0 _ (brz _)]
theorem akm (x y : BitVec 64) : IntKind.u64.wrap ((x.toNat : Int) + (y.toNat : Int)) = ((x + y).toNat : Int) := by
 rw [bn5, BitVec.toNat_add]; omega
theorem bk7 (x y : Nat) (hx : x < 18446744073709551616) (hy : y < 18446744073709551616) : bits .xor .u64 (x : Int) (y : Int) = ((x ^^^ y : Nat) : Int) := by
 have := akn (BitVec.ofNat 64 x) (BitVec.ofNat 64 y)
 rw [BitVec.toNat_xor, BitVec.toNat_ofNat, BitVec.toNat_ofNat, Nat.mod_eq_of_lt (by omega), Nat.mod_eq_of_lt (by omega)] at this
 exact this
/- words of 32 bits as numbers of 64 -/
theorem nlt (x : BitVec 32) : x.toNat < 18446744073709551616 := by have := aus x; omega
theorem bqp (x y : BitVec 32) : bits .xor .u64 (x.toNat : Int) (y.toNat : Int) = ((x ^^^ y).toNat : Int) := by rw [bk7 _ _ (nlt x) (nlt y), BitVec.toNat_xor]
theorem nand (x y : BitVec 32) : bits .and .u64 (x.toNat : Int) (y.toNat : Int) = ((x &&& y).toNat : Int) := by rw [avk _ _ (nlt x) (nlt y), BitVec.toNat_and]
theorem nor (x y : BitVec 32) : bits .or .u64 (x.toNat : Int) (y.toNat : Int) = ((x ||| y).toNat : Int) := by rw [bl7 _ _ (nlt x) (nlt y), BitVec.toNat_or]
theorem bkn (n : Nat) (h : n < 18446744073709551616) : bits .and .u64 (n : Int) 4294967295 = ((n % 4294967296 : Nat) : Int) := by
 rw [show (4294967295 : Int) = ((2 ^ 32 - 1 : Nat) : Int) from rfl, avk _ _ h (by omega), Nat.and_two_pow_sub_one_eq_mod]
theorem bpb (n : Nat) (h : n < 18446744073709551616) : bits .and .u64 (n : Int) 18446744073709551615 = (n : Int) := by
 rw [show (18446744073709551615 : Int) = ((2 ^ 64 - 1 : Nat) : Int) from rfl, avk _ _ h (by omega), Nat.and_two_pow_sub_one_eq_mod, Nat.mod_eq_of_lt (by omega)]
def rr {w : Nat} (x : BitVec w) (n : Nat) : BitVec w := (x >>> n) ||| (x <<< (w - n))
theorem awd {w : Nat} (x : BitVec w) (n : Nat) : (x >>> n).toNat = x.toNat / 2 ^ n := by rw [BitVec.toNat_ushiftRight, Nat.shiftRight_eq_div_pow]
theorem avl {w : Nat} (x : BitVec w) (n : Nat) : (x <<< n).toNat = x.toNat * 2 ^ n % 2 ^ w := by rw [BitVec.toNat_shiftLeft, Nat.shiftLeft_eq]
theorem br7 (x : BitVec 32) (n : Nat) (h : n ≤ 32) : (x.toNat : Int).fdiv ((2 : Int) ^ min n 32) = ((x >>> n).toNat : Int) := by rw [fdiv_pow _ _ _ h, awd]
theorem bz1 (x : BitVec 32) (n : Nat) (h : n ≤ 32) : IntKind.u32.wrap ((x.toNat : Int) * (2 : Int) ^ min n 32) = ((x <<< n).toNat : Int) := by
 rw [mul_pow _ _ _ h, btk, avl]; omega
theorem bmu (x : BitVec 64) (n : Nat) (h : n ≤ 64) : (x.toNat : Int).fdiv ((2 : Int) ^ min n 64) = ((x >>> n).toNat : Int) := by rw [fdiv_pow _ _ _ h, awd]
theorem bt9 (x : BitVec 64) (n : Nat) (h : n ≤ 64) : IntKind.u64.wrap ((x.toNat : Int) * (2 : Int) ^ min n 64) = ((x <<< n).toNat : Int) := by
 rw [mul_pow _ _ _ h, bn5, avl]; omega
theorem b6y (x : BitVec 32) (n : Nat) (h : n ≤ 64) : (x.toNat : Int).fdiv ((2 : Int) ^ min n 64) = ((x >>> n).toNat : Int) := by rw [fdiv_pow _ _ _ h, awd]
theorem nshl (x : BitVec 32) (n : Nat) (h : n ≤ 32) : bits .and .u64 (IntKind.u64.wrap ((x.toNat : Int) * (2 : Int) ^ min n 64)) 4294967295 = ((x <<< n).toNat : Int) := by
 have h1 := aus x
 have h2 : 2 ^ n ≤ 2 ^ 32 := bgk h
 have h3 : x.toNat * 2 ^ n ≤ 4294967295 * 2 ^ 32 := Nat.mul_le_mul (by omega) h2
 rw [mul_pow _ _ _ (by omega), ab0 _ (by omega), bkn _ (by omega), avl]
theorem bxe {w : Nat} (e f g : BitVec w) : (e &&& f) ^^^ ((BitVec.allOnes w ^^^ e) &&& g) = g ^^^ (e &&& (f ^^^ g)) := by
 ext i hi
 simp
 cases e[i] <;> cases f[i] <;> cases g[i] <;> rfl
theorem bqo {w : Nat} (a b c : BitVec w) : ((a &&& b) ^^^ (a &&& c)) ^^^ (b &&& c) = (a &&& b) ||| (c &&& (a ||| b)) := by
 ext i hi
 simp
 cases a[i] <;> cases b[i] <;> cases c[i] <;> rfl
end Q
end

section
/- SHA-2: what a block does. -/
namespace Q
open Go Go.Abs
set_option linter.unusedVariables false
set_option linter.unusedSimpArgs false
structure Par (w : Nat) where
 rounds : Nat
 a : Nat × Nat × Nat
 b : Nat × Nat × Nat
 c : Nat × Nat × Nat
 d : Nat × Nat × Nat
 K : Nat → BitVec w
section
variable {w : Nat}
def hi (t : Nat × Nat × Nat) (x : BitVec w) : BitVec w := rr x t.1 ^^^ rr x t.2.1 ^^^ rr x t.2.2
def lo (t : Nat × Nat × Nat) (x : BitVec w) : BitVec w := rr x t.1 ^^^ rr x t.2.1 ^^^ (x >>> t.2.2)
def cv (l : List (BitVec w)) : List Int := l.map fun x => (x.toNat : Int)
@[simp] theorem uj (l : List (BitVec w)) : (cv l).length = l.length := by simp [cv]
theorem afr (l : List (BitVec w)) (i : Nat) : (cv l).getD i 0 = ((l.getD i 0).toNat : Int) := by
 unfold cv
 rw [List.getD_eq_getElem?_getD, List.getD_eq_getElem?_getD, List.getElem?_map]
 cases l[i]? <;> simp
theorem ayy (l : List (BitVec w)) (i : Nat) (x : BitVec w) : (cv l).set i (x.toNat : Int) = cv (l.set i x) := by simp [cv, List.map_set]
theorem afk (l r : List (BitVec w)) : cv l ++ cv r = cv (l ++ r) := by simp [cv]
def btl (p : Par w) (t : Nat) (wt : BitVec w) (v : List (BitVec w)) : BitVec w :=
 v.getD 7 0 + hi p.d (v.getD 4 0) + (v.getD 6 0 ^^^ (v.getD 4 0 &&& (v.getD 5 0 ^^^ v.getD 6 0))) + p.K t + wt
def b3j (p : Par w) (v : List (BitVec w)) : BitVec w := hi p.c (v.getD 0 0) + ((v.getD 0 0 &&& v.getD 1 0) ||| (v.getD 2 0 &&& (v.getD 0 0 ||| v.getD 1 0)))
def rnd (p : Par w) (t : Nat) (wt : BitVec w) (v : List (BitVec w)) : List (BitVec w) :=
 [btl p t wt v + b3j p v, v.getD 0 0, v.getD 1 0, v.getD 2 0, v.getD 3 0 + btl p t wt v, v.getD 4 0, v.getD 5 0, v.getD 6 0]
def bvu (p : Par w) (l : List (BitVec w)) : BitVec w := lo p.b (l.getD (l.length - 2) 0) + l.getD (l.length - 7) 0 + lo p.a (l.getD (l.length - 15) 0) + l.getD (l.length - 16) 0
def sched (p : Par w) (l : List (BitVec w)) : Nat → List (BitVec w)
 | 0 => l
 | n + 1 => sched p l n ++ [bvu p (sched p l n)]
theorem av8 (p : Par w) (l : List (BitVec w)) : ∀ n, (sched p l n).length = l.length + n
 | 0 => rfl
 | n + 1 => by simp only [sched, List.length_append, av8 p l n, List.length_singleton]; omega
theorem bbp (p : Par w) (l : List (BitVec w)) (n i : Nat) (hi : i < l.length + n) : ∀ m, (sched p l (n + m)).getD i 0 = (sched p l n).getD i 0
 | 0 => rfl
 | m + 1 => by
  rw [← Nat.add_assoc]
  simp only [sched]
  rw [List.getD_eq_getElem?_getD, List.getElem?_append_left (by rw [av8]; omega), ← List.getD_eq_getElem?_getD, bbp p l n i hi m]
def W (p : Par w) (l : List (BitVec w)) (t : Nat) : BitVec w := (sched p l t).getD t 0
theorem bqn (p : Par w) (l : List (BitVec w)) (hl : 0 < l.length) (n t : Nat) (h : t < l.length + n) : (sched p l n).getD t 0 = W p l t := by
 unfold W
 by_cases hn : n ≤ t
 ·have := bbp p l n t h (t - n)
  rw [show n + (t - n) = t by omega] at this
  exact this.symm
 ·have := bbp p l t t (by omega) (n - t)
  rw [show t + (n - t) = n by omega] at this
  exact this
theorem bho (p : Par w) (l : List (BitVec w)) (hl : l.length = 16) (t : Nat) : W p l (t + 16) = W p l t + lo p.a (W p l (t + 1)) + W p l (t + 9) + lo p.b (W p l (t + 14)) := by
 have e := bqn p l (by omega) (t + 1) (t + 16) (by omega)
 rw [← e]
 simp only [sched]
 have hlen := av8 p l t
 rw [List.getD_eq_getElem?_getD, List.getElem?_append_right (by rw [hlen]; omega), hlen, show t + 16 - (l.length + t) = 0 by omega]
 simp only [List.getElem?_cons_zero, Option.getD_some]
 unfold bvu
 rw [hlen, show l.length + t - 2 = t + 14 by omega, show l.length + t - 7 = t + 9 by omega, show l.length + t - 15 = t + 1 by omega, show l.length + t - 16 = t by omega,
  bqn p l (by omega) t _ (by omega), bqn p l (by omega) t _ (by omega), bqn p l (by omega) t _ (by omega), bqn p l (by omega) t _ (by omega)]
 ac_rfl
def runs (p : Par w) (l : List (BitVec w)) (v : List (BitVec w)) : Nat → List (BitVec w)
 | 0 => v
 | t + 1 => rnd p t (W p l t) (runs p l v t)
theorem aml (p : Par w) (l v : List (BitVec w)) (hv : v.length = 8) : ∀ t, (runs p l v t).length = 8
 | 0 => hv
 | t + 1 => rfl
def bqx (p : Par w) (l v : List (BitVec w)) : List (BitVec w) := (List.range 8).map fun i => (runs p l v p.rounds).getD i 0 + v.getD i 0
def ku (w : Nat) (b : List Int) (n : Nat) : List (BitVec w) := (List.range n).map fun t => BitVec.ofNat w (T 8 ((b.take ((t + 1) * (w / 8))).drop (t * (w / 8))).reverse)
def awv (p : Par w) (v : List (BitVec w)) (b : List Int) : List (BitVec w) := bqx p (ku w b 16) v
theorem bj3 (p : Par w) (v : List (BitVec w)) (b : List Int) : (awv p v b).length = 8 := by simp [awv, bqx]
theorem aw5 (b : List Int) (n : Nat) : ku w b (n + 1) = ku w b n ++ [BitVec.ofNat w (T 8 ((b.take ((n + 1) * (w / 8))).drop (n * (w / 8))).reverse)] := by simp [ku, List.range_succ]
theorem pz (b : List Int) (n : Nat) : (ku w b n).length = n := by simp [ku]
def win (p : Par w) (l : List (BitVec w)) (t : Nat) : List (BitVec w) := (List.range 16).map fun j => W p l (t + (j + 16 - t % 16) % 16)
theorem atj (p : Par w) (l : List (BitVec w)) (t i : Nat) (hi : i < 16) : (win p l t).getD ((t + i) % 16) 0 = W p l (t + i) := by
 unfold win
 rw [getD_lt (by simp; omega)]
 simp only [List.getElem_map, List.getElem_range]
 congr 1
 omega
theorem bi9 (p : Par w) (l : List (BitVec w)) (t : Nat) : (win p l t).set (t % 16) (W p l (t + 16)) = win p l (t + 1) := by
 unfold win
 refine List.ext_getElem (by simp) (fun j h1 h2 => ?_)
 simp only [List.length_map, List.length_range] at h2
 rw [List.getElem_set]
 by_cases h : t % 16 = j
 ·rw [if_pos h]
  simp only [List.getElem_map, List.getElem_range]
  congr 1
  omega
 ·rw [if_neg h]
  simp only [List.getElem_map, List.getElem_range]
  congr 1
  omega
theorem win_zero (p : Par w) (b : List Int) : win p (ku w b 16) 0 = ku w b 16 := by
 unfold win
 refine List.ext_getElem (by simp [ku]) (fun j h1 h2 => ?_)
 rw [pz] at h2
 simp only [List.getElem_map, List.getElem_range]
 rw [show 0 + (j + 16 - 0 % 16) % 16 = j by omega, ← bqn p _ (by rw [pz]; omega) 0 j (by rw [pz]; omega)]
 exact getD_lt (by rw [show sched p (ku w b 16) 0 = ku w b 16 from rfl, pz]; exact h2)
end
theorem bg9 : ∀ x, x ∈ P.roots256 → 0 ≤ x ∧ x < 4294967296 := by decide +kernel
theorem bfu : ∀ x, x ∈ P.roots512 → 0 ≤ x ∧ x < 18446744073709551616 := by decide +kernel
def p32 : Par 32 := ⟨64, (7, 18, 3), (17, 19, 10), (2, 13, 22), (6, 11, 25), fun t => BitVec.ofInt 32 (P.roots256.getD t 0)⟩
def p64 : Par 64 := ⟨80, (1, 8, 7), (19, 61, 6), (28, 34, 39), (14, 18, 41), fun t => BitVec.ofInt 64 (P.roots512.getD t 0)⟩
theorem K32 (t : Nat) : P.roots256.getD t 0 = ((p32.K t).toNat : Int) := by
 have := In.getD (m := 4294967296) bg9 t (by omega)
 simp only [p32, BitVec.toNat_ofInt]
 omega
theorem K64 (t : Nat) : P.roots512.getD t 0 = ((p64.K t).toNat : Int) := by
 have := In.getD (m := 18446744073709551616) bfu t (by omega)
 simp only [p64, BitVec.toNat_ofInt]
 omega
end Q
end

section
/- bits: Unpack, as the document has it. -/
namespace Q
open Go Go.Abs
set_option linter.unusedVariables false
set_option linter.unusedSimpArgs false
theorem td8 (p : Nat) : (p : Int).tdiv 8 = ((p / 8 : Nat) : Int) := by rw [Int.tdiv_eq_ediv_of_nonneg (by omega)]; omega
theorem tm8 (p : Nat) : (p : Int).tmod 8 = ((p % 8 : Nat) : Int) := by rw [Int.tmod_eq_emod_of_nonneg (by omega)]; omega
theorem wmul (i w : Nat) (h : w * i ≤ 9223372036854775807) : IntKind.i64.wrap ((i : Int) * (w : Int)) = ((w * i : Nat) : Int) := by
 rw [← Int.natCast_mul, Nat.mul_comm, o9 (by omega) (by omega)]
theorem bvg (x s : Nat) (hx : x < 256) (hs : s ≤ 8) : bits .and .u8 ((x : Int).fdiv ((2 : Int) ^ min s 8)) 1 = ((x / 2 ^ s % 2 : Nat) : Int) := by
 have := Nat.div_le_self x (2 ^ s)
 rw [fdiv_pow x s 8 hs, show (1 : Int) = ((1 : Nat) : Int) from rfl, btt _ _ (by omega) (by omega), Nat.and_one_is_mod]
theorem bst (v x : Nat) (hv : v < 16777216) (hx : x < 2) : IntKind.u32.wrap (IntKind.u32.wrap ((v : Int) * 2) + IntKind.u32.wrap (x : Int)) = ((x + 2 * v : Nat) : Int) := by
 rw [bjf x (by omega), show (v : Int) * 2 = ((v * 2 : Nat) : Int) by omega, bjf _ (by omega), ← Int.natCast_add, bjf _ (by omega)]; omega
theorem bt3 (V h j : Nat) : V / 2 ^ h % 2 + 2 * (V / 2 ^ (h + 1) % 2 ^ j) = V / 2 ^ h % 2 ^ (j + 1) := by
 have := bo2 V h 1 j
 rw [Nat.add_comm j 1]; exact this
end Q
end

section
/- bits: Digits. -/
namespace Q
open Go Go.Abs
set_option linter.unusedVariables false
set_option linter.unusedSimpArgs false
def dg (w L N : Nat) (i : Nat) : Int := ((N / 2 ^ (8 * L - w * (i + 1)) % 2 ^ w : Nat) : Int)
def ru (b : List Int) (w c : Int) : List Int := if Such b.length w c then (List.range c.toNat).map (dg w.toNat b.length (T 8 b.reverse)) else []
theorem bpk (b : List Int) (t : Nat) (h : t ≤ b.length) : T 8 (b.take t).reverse = T 8 b.reverse / 2 ^ (8 * (b.length - t)) := by
 rw [List.reverse_take, azp 8 _ _ (by simp)]
theorem bcu (b : List Int) (t : Nat) (h : t < b.length) : T 8 (b.take (t + 1)).reverse = (b.getD t 0).toNat % 2 ^ 8 + 256 * T 8 (b.take t).reverse := by
 rw [← ai2 b 0 t h, List.reverse_append, List.reverse_singleton, List.singleton_append, T]
theorem bpq (b : List Int) (q : Nat) (h : q < b.length) : (b.getD q 0).toNat % 2 ^ 8 = T 8 b.reverse / 2 ^ (8 * (b.length - 1 - q)) % 2 ^ 8 := by
 rw [bv5]
 congr 2
 rw [getD_lt h, getD_lt (by simp; omega), List.getElem_reverse]
 congr 1; omega
theorem su (b : List Int) (w c : Int) (hb : In 256 b) (hn : b.length ≤ 1000000) {ρ : Type} (k : List Int → Option ρ) : P.su b w c k = k (ru b w c) := by
 rw [P.amz]
 unfold P.ahf
 rw [abk b w c hn, jk]
 unfold ru
 by_cases hs : Such b.length w c
 rotate_left
 ·rw [decide_eq_false hs, um, if_neg hs]
 rw [decide_eq_true hs, ny, if_pos hs]
 obtain ⟨h1, h2, h3, h4⟩ := hs
 obtain ⟨w, rfl⟩ := Int.eq_ofNat_of_zero_le (show 0 ≤ w by omega)
 obtain ⟨c, rfl⟩ := Int.eq_ofNat_of_zero_le h3
 have h4 : c * w ≤ b.length * 8 := by exact_mod_cast h4
 have hc : c ≤ c * w := Nat.le_mul_of_pos_right c (by omega)
 simp only [toNat_cast, List.length_replicate]
 simp (disch := omega) only [aj, bq, gq, dz, d9, dh, jk, ny, um, o9]
 rw [P.arn]
 unfold P.am2 P.by1 P.bwb P.b3t
 refine qy (fun i => (b.drop (zh (w * i)), (w : Int), ((T 8 (b.take (zh (w * i))).reverse % 2 ^ 64 : Nat) : Int), ((8 * zh (w * i) - w * i : Nat) : Int), (c : Int), (i : Int), ((List.range i).map (dg w b.length (T 8 b.reverse))) ++ List.replicate (c - i) 0)) c (by simp [zh, T, bsw]) (fun i hi next hn' => ?_) (fun next => ?_) (by omega)
 ·have hwi : w * (i + 1) = w * i + w := Nat.mul_succ w i
  have hwc : w * (i + 1) ≤ b.length * 8 := Nat.le_trans (Nat.mul_le_mul (Nat.le_refl w) hi) (by rw [Nat.mul_comm]; exact h4)
  have c1 := bh9 (w * i)
  have c2 := bja (w * i)
  have c3 := bh9 (w * (i + 1))
  have c4 := bja (w * (i + 1))
  have c5 : zh (w * i) ≤ zh (w * (i + 1)) := by unfold zh; omega
  simp only [P.aiu]
  rw [aj (by omega), P.asl]
  unfold P.am0 P.bxk P.bt6 P.bz2
  refine qy (fun j => (b.drop (zh (w * i) + j), (w : Int), ((T 8 (b.take (zh (w * i) + j)).reverse % 2 ^ 64 : Nat) : Int), ((8 * (zh (w * i) + j) - w * i : Nat) : Int), (i : Int), (c : Int), (i : Int), ((List.range i).map (dg w b.length (T 8 b.reverse))) ++ List.replicate (c - i) 0)) (zh (w * (i + 1)) - zh (w * i)) rfl (fun j hj next2 hn2 => ?_) (fun next2 => ?_) (by omega)
  ·have ht : zh (w * i) + j < b.length := by omega
   obtain ⟨x, hx, hx2, hx3⟩ := byte_at hb (zh (w * i) + j)
   have est := bcu b (zh (w * i) + j) ht
   rw [← hx3] at est
   simp only [P.aib, List.length_drop, toNat_cast]
   rw [List.take_of_length_le (l := b.drop (zh (w * i) + j)) (by simp), List.drop_drop]
   have e0 : (b.drop (zh (w * i) + j)).getD 0 0 = (x : Int) := by
    rw [← hx, acw b 0 _ ht]; rfl
   have e1 : IntKind.u64.wrap (((T 8 (b.take (zh (w * i) + j)).reverse % 2 ^ 64 : Nat) : Int) * 2 ^ 8) = ((T 8 (b.take (zh (w * i) + j)).reverse % 2 ^ 56 * 2 ^ 8 : Nat) : Int) := by
    rw [bn5]; omega
   rw [e0, e1, ab0 x (by omega), bl7 _ _ (by omega) (by omega), bh5 _ _ _ (by omega)]
   simp (disch := omega) only [aj, bq, gq, dz, d9, dh, jk, ny, um, o9]
   rw [Nat.add_assoc, show ((8 * (zh (w * i) + j) - w * i : Nat) : Int) + 8 = ((8 * (zh (w * i) + (j + 1)) - w * i : Nat) : Int) by omega,
    show T 8 (b.take (zh (w * i) + j)).reverse % 2 ^ 56 * 2 ^ 8 + x = T 8 (b.take (zh (w * i) + (j + 1))).reverse % 2 ^ 64 by rw [← Nat.add_assoc, est]; omega]
   exact hn2
  ·have et : zh (w * i) + (zh (w * (i + 1)) - zh (w * i)) = zh (w * (i + 1)) := by omega
   simp only [P.aib, toNat_cast]
   rw [et, bq (by omega), show ((8 * zh (w * (i + 1)) - w * i : Nat) : Int) - (w : Int) = ((8 * zh (w * (i + 1)) - w * (i + 1) : Nat) : Int) by omega,
    o9 (x := ((8 * zh (w * (i + 1)) - w * (i + 1) : Nat) : Int)) (by omega) (by omega)]
   simp only [toNat_cast]
   have hq : T 8 (b.take (zh (w * (i + 1)))).reverse % 2 ^ 64 / 2 ^ (8 * zh (w * (i + 1)) - w * (i + 1)) < 18446744073709551616 := by
    have := Nat.div_le_self (T 8 (b.take (zh (w * (i + 1)))).reverse % 2 ^ 64) (2 ^ (8 * zh (w * (i + 1)) - w * (i + 1)))
    omega
   rw [fdiv_pow _ _ 64 (by omega), bjt _ w hq (by omega), awt _ _ _ _ (by omega)]
   have hw2 : 2 ^ w ≤ 2 ^ 24 := bgk (by omega)
   have hmod := Nat.mod_lt (T 8 (b.take (zh (w * (i + 1)))).reverse / 2 ^ (8 * zh (w * (i + 1)) - w * (i + 1))) (p2 w)
   rw [bjf _ (by omega)]
   have ed : ((T 8 (b.take (zh (w * (i + 1)))).reverse / 2 ^ (8 * zh (w * (i + 1)) - w * (i + 1)) % 2 ^ w : Nat) : Int) = dg w b.length (T 8 b.reverse) i := by
    unfold dg
    rw [bpk b _ (by omega), Nat.div_div_eq_div_mul, ← Nat.pow_add]
    congr 4; omega
   rw [ed]
   simp only [List.length_append, List.length_map, List.length_range, List.length_replicate]
   simp (disch := omega) only [aj, bq, gq, dz, d9, dh, jk, ny, um, o9]
   rw [bko _ _ _ hi]
   exact hn'
 ·simp only [P.aiu]
  rw [bq (by omega), Nat.sub_self]
  simp
theorem vw (b : List Int) (w c : Int) (hb : In 256 b) (hn : b.length ≤ 1000000) {ρ : Type} (k : List Int → Option ρ) : P.vw b w c k = k (ru b w c) := by
 rw [P.aq1]
 unfold P.ail
 rw [adl b w c hn, jk]
 unfold ru
 by_cases hs : Such b.length w c
 rotate_left
 ·rw [decide_eq_false hs, um, if_neg hs]
 rw [decide_eq_true hs, ny, if_pos hs]
 obtain ⟨h1, h2, h3, h4⟩ := hs
 obtain ⟨w, rfl⟩ := Int.eq_ofNat_of_zero_le (show 0 ≤ w by omega)
 obtain ⟨c, rfl⟩ := Int.eq_ofNat_of_zero_le h3
 have h4 : c * w ≤ b.length * 8 := by exact_mod_cast h4
 have hc : c ≤ c * w := Nat.le_mul_of_pos_right c (by omega)
 simp only [toNat_cast]
 rw [P.auo]
 unfold P.aq0 P.byh P.bt8 P.b1u
 refine qy (fun i => (b, (w : Int), (c : Int), (i : Int), (List.range i).map (dg w b.length (T 8 b.reverse)))) c (by simp) (fun i hi next hn' => ?_) (fun next => ?_) (by omega)
 ·have hwi : w * (i + 1) = w * i + w := Nat.mul_succ w i
  have hwc : w * (i + 1) ≤ b.length * 8 := Nat.le_trans (Nat.mul_le_mul (Nat.le_refl w) hi) (by rw [Nat.mul_comm]; exact h4)
  simp only [P.ajo]
  rw [aj (by omega), P.auc]
  unfold P.apn P.byf P.bvj P.b3g
  refine qy (fun j => (b, (w : Int), (c : Int), (i : Int), ((T 8 b.reverse / 2 ^ (8 * b.length - (w * i + j)) % 2 ^ j : Nat) : Int), (j : Int), (List.range i).map (dg w b.length (T 8 b.reverse)))) w (by simp [Nat.mod_one]) (fun j hj next2 hn2 => ?_) (fun next2 => ?_) (by omega)
  ·obtain ⟨x, hx, hx2, hx3⟩ := byte_at hb ((w * i + j) / 8)
   simp only [P.aj0]
   rw [wmul i w (by omega), ← Int.natCast_add, o9 (x := ((w * i + j : Nat) : Int)) (by omega) (by omega), td8, tm8, o9 (x := (((w * i + j) / 8 : Nat) : Int)) (by omega) (by omega),
    show (7 : Int) - (((w * i + j) % 8 : Nat) : Int) = ((7 - (w * i + j) % 8 : Nat) : Int) by omega, o9 (x := ((7 - (w * i + j) % 8 : Nat) : Int)) (by omega) (by omega)]
   simp only [toNat_cast]
   have hv := Nat.mod_lt (T 8 b.reverse / 2 ^ (8 * b.length - (w * i + j))) (p2 j)
   have hv2 : 2 ^ j ≤ 2 ^ 24 := bgk (by omega)
   rw [hx, bvg x _ hx2 (by omega), bst _ _ (by omega) (by omega), hx3, bpq b _ (by omega)]
   have e := bhd (T 8 b.reverse) (8 * (b.length - 1 - (w * i + j) / 8)) 8 (7 - (w * i + j) % 8) 1 (by omega)
   rw [Nat.pow_one, show 8 * (b.length - 1 - (w * i + j) / 8) + (7 - (w * i + j) % 8) = 8 * b.length - (w * i + (j + 1)) by omega] at e
   rw [e, show 8 * b.length - (w * i + j) = 8 * b.length - (w * i + (j + 1)) + 1 by omega, bt3]
   simp (disch := omega) only [aj, bq, gq, dz, d9, dh, jk, ny, um, o9]
   exact hn2
  ·simp only [P.aj0, List.length_map, List.length_range]
   simp (disch := omega) only [aj, bq, gq, dz, d9, dh, jk, ny, um, o9]
   have ed : ((T 8 b.reverse / 2 ^ (8 * b.length - (w * i + w)) % 2 ^ w : Nat) : Int) = dg w b.length (T 8 b.reverse) i := by unfold dg; rw [hwi]
   rw [ed, amx]
   exact hn'
 ·simp only [P.ajo]
  rw [bq (by omega)]
end Q
end

section
/- bits: numbers as bytes and back. -/
namespace Q
open Go Go.Abs
set_option linter.unusedVariables false
set_option linter.unusedSimpArgs false
theorem bow (w n m X : Nat) (hm : m ≤ n) (hX : X < 2 ^ (w * m)) : bsw w m X ++ List.replicate (n - m) 0 = bsw w n X := by
 refine List.ext_getElem (by simp; omega) (fun i h1 h2 => ?_)
 have hi : i < n := by simpa using h2
 rw [← getD_lt (d := 0) h2, bji _ _ _ _ hi]
 by_cases him : i < m
 ·rw [List.getElem_append_left (by simpa using him), ← getD_lt (d := 0), bji _ _ _ _ him]
 ·rw [List.getElem_append_right (by simp; omega), List.getElem_replicate, Nat.div_eq_of_lt]
  ·rfl
  ·exact Nat.lt_of_lt_of_le hX (bgk (Nat.mul_le_mul (Nat.le_refl _) (by omega)))
theorem aes (N s : Nat) (hN : N < 18446744073709551616) (hs : s ≤ 65536) {ρ : Type} (k : List Int → Option ρ) : P.aes (N : Int) (s : Int) k = k (bsw 8 s N) := by
 rw [P.azq]
 unfold P.aoj
 have em : (bif decide ((8 : Int) < (s : Int)) then (8 : Int) else (s : Int)) = ((min s 8 : Nat) : Int) := by
  by_cases h : (8 : Int) < (s : Int)
  ·rw [decide_eq_true h]; simp only [cond_true]; omega
  ·rw [decide_eq_false h]; simp only [cond_false]; omega
 simp only [toNat_cast]
 rw [em]
 simp (disch := omega) only [aj, bq, gq, dz, d9, dh, jk, ny, um, o9]
 rw [P.bcm]
 unfold P.aze P.bxm P.bu5 P.b31
 refine qy (fun i => ((N : Int), ((min s 8 : Nat) : Int), (i : Int), bsw 8 i N ++ List.replicate (s - i) 0)) (min s 8) (by simp [bsw]) (fun i hi next hn' => ?_) (fun next => ?_) (by omega)
 ·simp only [P.ar6, List.length_append, ab1, List.length_replicate, toNat_cast]
  rw [show (8 : Int) * (i : Int) = ((8 * i : Nat) : Int) by omega, o9 (x := ((8 * i : Nat) : Int)) (by omega) (by omega)]
  simp only [toNat_cast]
  rw [fdiv_pow N _ 64 (by omega), u8m]
  simp (disch := omega) only [aj, bq, gq, dz, d9, dh, jk, ny, um, o9]
  rw [List.set_append_right _ _ (by simp), ab1, Nat.sub_self, show s - i = (s - (i + 1)) + 1 by omega, List.replicate_succ, List.set_cons_zero]
  rw [bim, List.append_assoc, List.singleton_append] at hn'
  exact hn'
 ·simp only [P.ar6]
  rw [bq (by omega)]
  by_cases h : s ≤ 8
  ·rw [Nat.min_eq_left h, Nat.sub_self]; simp
  ·rw [Nat.min_eq_right (by omega), bow 8 s 8 N (by omega) (by omega)]
theorem bl8 {f : Nat → Int} (n q : Nat) (v : Int) : ((List.range n).map f).set q v = (List.range n).map (fun j => if j = q then v else f j) := by
 refine List.ext_getElem (by simp) (fun i h1 h2 => ?_)
 simp only [List.getElem_set, List.getElem_map, List.getElem_range]
 by_cases h : q = i
 ·rw [if_pos h, if_pos h.symm]
 ·rw [if_neg h, if_neg (fun e => h e.symm)]
theorem bi6 {f : Nat → Int} (n q : Nat) (h : q < n) : ((List.range n).map f).getD q 0 = f q := by
 rw [getD_lt (by simpa using h)]; simp
theorem bpz (l : List Int) : l = (List.range l.length).map (fun j => l.getD j 0) := by
 refine List.ext_getElem (by simp) (fun i h1 h2 => ?_)
 simp only [List.getElem_map, List.getElem_range]
 rw [getD_lt h1]
theorem gu (N s : Nat) (hN : N < 18446744073709551616) (hs : s ≤ 65536) {ρ : Type} (k : List Int → Option ρ) : P.gu (N : Int) (s : Int) k = k (bsw 8 s N).reverse := by
 rw [P.az6]
 unfold P.aoo
 rw [aes N s hN hs, P.ax3]
 unfold P.as4 P.by0 P.bvs P.b2i
 simp only [ab1]
 rw [o9 (by omega) (by omega)]
 have hfin : (bsw 8 s N).reverse = (List.range s).map (fun q => (bsw 8 s N).getD (s - 1 - q) 0) := by
  refine List.ext_getElem (by simp) (fun i h1 h2 => ?_)
  have hi : i < s := by simpa using h2
  rw [List.getElem_reverse, List.getElem_map, List.getElem_range, getD_lt (by simp; omega)]
  congr 1; simp
 have h0 : bsw 8 s N = (List.range s).map (fun q => if q < 0 ∨ s - 0 ≤ q then (bsw 8 s N).getD (s - 1 - q) 0 else (bsw 8 s N).getD q 0) := by
  have e := bpz (bsw 8 s N)
  rw [ab1] at e
  refine e.trans (List.map_congr_left (fun q hq => ?_))
  have := List.mem_range.1 hq
  rw [if_neg (by omega)]
 generalize bsw 8 s N = l at h0 hfin
 refine qy (fun i => ((i : Int), (s : Int) - 1 - (i : Int), (List.range s).map (fun q => if q < i ∨ s - i ≤ q then l.getD (s - 1 - q) 0 else l.getD q 0))) (s / 2) (by rw [← h0]; simp) (fun i hi next hn' => ?_) (fun next => ?_) (by omega)
 ·simp only [P.akz, List.length_map, List.length_range, List.length_set]
  rw [show (s : Int) - 1 - (i : Int) = ((s - 1 - i : Nat) : Int) by omega]
  simp only [toNat_cast]
  rw [bi6 _ _ (by omega), bi6 _ _ (by omega), if_neg (by omega), if_neg (by omega), bl8, bl8]
  have e : (List.range s).map (fun q => if q < i + 1 ∨ s - (i + 1) ≤ q then l.getD (s - 1 - q) 0 else l.getD q 0) = (List.range s).map (fun j => if j = s - 1 - i then l.getD i 0 else if j = i then l.getD (s - 1 - i) 0 else if j < i ∨ s - i ≤ j then l.getD (s - 1 - j) 0 else l.getD j 0) := by
   refine List.map_congr_left (fun q hq => ?_)
   have := List.mem_range.1 hq
   by_cases a1 : q = s - 1 - i
   ·subst a1; rw [if_pos (by omega), if_pos rfl]; congr 1; omega
   ·rw [if_neg a1]
    by_cases a2 : q = i
    ·subst a2; rw [if_pos (by omega), if_pos rfl]
    ·rw [if_neg a2]
     by_cases a3 : q < i ∨ s - i ≤ q
     ·rw [if_pos (by omega), if_pos a3]
     ·rw [if_neg (by omega), if_neg a3]
  rw [e] at hn'
  simp (disch := omega) only [aj, bq, gq, dz, d9, dh, jk, ny, um, o9]
  rw [show ((s - 1 - i : Nat) : Int) - 1 = (s : Int) - 1 - ((i + 1 : Nat) : Int) by omega]
  exact hn'
 ·simp only [P.akz]
  rw [bq (by omega), hfin]
  congr 1
  refine List.map_congr_left (fun q hq => ?_)
  have := List.mem_range.1 hq
  by_cases a3 : q < s / 2 ∨ s - s / 2 ≤ q
  ·rw [if_pos a3]
  ·rw [if_neg a3]; congr 1; omega
theorem jo (b : List Int) (hb : In 256 b) (hn : b.length ≤ 1000000) {ρ : Type} (k : Int → Option ρ) : P.jo b k = k ((T 8 b.reverse % 2 ^ 64 : Nat) : Int) := by
 rw [P.aw9]
 unfold P.ak7
 rw [P.ayd]
 unfold P.aw0 P.zk7 P.zs7 P.zu7
 refine qy (fun i => (((T 8 (b.take i).reverse % 2 ^ 64 : Nat) : Int), b, (b.length : Int), (i : Int))) b.length (by simp [T]) (fun i hi next hn' => ?_) (fun next => ?_) (by omega)
 ·obtain ⟨x, hx, hx2, hx3⟩ := byte_at hb i
  have est := bcu b i hi
  rw [← hx3] at est
  simp only [P.anj, toNat_cast]
  have e1 : IntKind.u64.wrap (((T 8 (b.take i).reverse % 2 ^ 64 : Nat) : Int) * 2 ^ 8) = ((T 8 (b.take i).reverse % 2 ^ 56 * 2 ^ 8 : Nat) : Int) := by
   rw [bn5]; omega
  rw [hx, e1, ab0 x (by omega), bl7 _ _ (by omega) (by omega), bh5 _ _ _ (by omega),
   show T 8 (b.take i).reverse % 2 ^ 56 * 2 ^ 8 + x = T 8 (b.take (i + 1)).reverse % 2 ^ 64 by rw [est]; omega]
  simp (disch := omega) only [aj, bq, gq, dz, d9, dh, jk, ny, um, o9]
  exact hn'
 ·simp only [P.anj]
  rw [bq (by omega), List.take_length]
end Q
end

section
/- SHA-2: the program's engine of 32 bits. -/
namespace Q
open Go Go.Abs
set_option linter.unusedVariables false
set_option linter.unusedSimpArgs false
theorem aiq (rd : Int) (t0 t1 t2 t3 : List Int) (x : BitVec 32) (m : Int) (n : Nat) (hm : m = (n : Int)) (hn : n ≤ 32) {ρ : Type} (k : Int → Option ρ) :
    P.av 32 rd t0 t1 t2 t3 (x.toNat : Int) m k = k ((rr x n).toNat : Int) := by
 subst hm
 rw [P.aa7]
 unfold P.u6
 rw [bq (by omega), o9 (by omega) (by omega), bq (by omega), show (32 : Int) - (n : Int) = ((32 - n : Nat) : Int) by omega]
 simp only [toNat_cast]
 rw [br7 _ _ hn, bz1 _ _ (by omega), b6v]
 rfl
theorem bmw (rd : Int) (x : BitVec 32) {ρ : Type} (k : Int → Option ρ) : P.jg 32 rd [7, 18, 3] [17, 19, 10] [2, 13, 22] [6, 11, 25] (x.toNat : Int) 3 k = k ((hi p32.d x).toNat : Int) := by
 rw [P.zf]
 unfold P.sj
 simp only [List.getD_cons_zero, List.getD_cons_succ]
 rw [bq (by decide), bq (by decide), bq (by decide), aj (by decide), aiq _ _ _ _ _ _ _ 6 (by rfl) (by omega), aiq _ _ _ _ _ _ _ 11 (by rfl) (by omega), aiq _ _ _ _ _ _ _ 25 (by rfl) (by omega), bcz, bcz]
 rfl
theorem bnk (rd : Int) (x : BitVec 32) {ρ : Type} (k : Int → Option ρ) : P.jg 32 rd [7, 18, 3] [17, 19, 10] [2, 13, 22] [6, 11, 25] (x.toNat : Int) 2 k = k ((hi p32.c x).toNat : Int) := by
 rw [P.zf]
 unfold P.sj
 simp only [List.getD_cons_zero, List.getD_cons_succ]
 rw [bq (by decide), bq (by decide), aj (by decide), aiq _ _ _ _ _ _ _ 2 (by rfl) (by omega), aiq _ _ _ _ _ _ _ 13 (by rfl) (by omega), aiq _ _ _ _ _ _ _ 22 (by rfl) (by omega), bcz, bcz]
 rfl
theorem boa (rd : Int) (x : BitVec 32) {ρ : Type} (k : Int → Option ρ) : P.jl 32 rd [7, 18, 3] [17, 19, 10] [2, 13, 22] [6, 11, 25] (x.toNat : Int) 0 k = k ((lo p32.a x).toNat : Int) := by
 rw [P.zw]
 unfold P.uf
 simp only [List.getD_cons_zero, List.getD_cons_succ]
 rw [aj (by decide), aiq _ _ _ _ _ _ _ 7 (by rfl) (by omega), aiq _ _ _ _ _ _ _ 18 (by rfl) (by omega), bq (by decide), bcz, show (3 : Int).toNat = 3 from rfl, br7 _ _ (by omega), bcz]
 rfl
theorem bon (rd : Int) (x : BitVec 32) {ρ : Type} (k : Int → Option ρ) : P.jl 32 rd [7, 18, 3] [17, 19, 10] [2, 13, 22] [6, 11, 25] (x.toNat : Int) 1 k = k ((lo p32.b x).toNat : Int) := by
 rw [P.zw]
 unfold P.uf
 simp only [List.getD_cons_zero, List.getD_cons_succ]
 rw [bq (by decide), aj (by decide), aiq _ _ _ _ _ _ _ 17 (by rfl) (by omega), aiq _ _ _ _ _ _ _ 19 (by rfl) (by omega), bq (by decide), bcz, show (10 : Int).toNat = 10 from rfl, br7 _ _ (by omega), bcz]
 rfl
theorem bo8 (t : Nat) (h : t < 64) {ρ : Type} (k : Int → Option ρ) : P.ni (t : Int) k = k ((p32.K t).toNat : Int) := by
 rw [P.am8]
 unfold P.agr
 rw [aj (by omega), aj (by omega), toNat_cast, K32]
theorem v8 {w : Nat} (v : List (BitVec w)) (hv : v.length = 8) : v = [v.getD 0 0, v.getD 1 0, v.getD 2 0, v.getD 3 0, v.getD 4 0, v.getD 5 0, v.getD 6 0, v.getD 7 0] := by
 match v, hv with
 | [a, b, c, d, e, f, g, h], _ => rfl
theorem b55 (t : Nat) : ((t : Nat) : Int).tmod 16 = ((t % 16 : Nat) : Int) := by
 rw [Int.tmod_eq_emod_of_nonneg (by omega)]; rfl
theorem bvz (b : List Int) (hb : In 256 b) (hl : b.length = 16 * 4) (rd : Int) (t0 t1 t2 t3 h1 h2 : List Int) {ρ : Type} (k0 : List Int → Int → Int → Int → Int → List Int → List Int → List Int → List Int → List Int → List Int → List Int → Option ρ) :
    P.yt b 4 0 32 rd t0 t1 t2 t3 h1 h2 (List.replicate 16 0) k0 = k0 b 4 16 32 rd t0 t1 t2 t3 h1 h2 (cv (ku 32 b 16)) := by
 rw [P.afv]
 unfold P.acj P.bxv P.bw0 P.b0x
 refine qy (fun i => (b, 4, (i : Int), 32, rd, t0, t1, t2, t3, h1, h2, cv (ku 32 b i) ++ List.replicate (16 - i) 0)) 16 (by simp [ku, cv]) (fun i hi next hn' => ?_) (fun next => ?_) (by omega)
 ·simp only [P.yh, toNat_cast]
  have e1 : IntKind.i64.wrap ((i : Int) * 4) = ((i * 4 : Nat) : Int) := by rw [o9 (by omega) (by omega)]; omega
  have e2 : IntKind.i64.wrap (IntKind.i64.wrap ((i : Int) + 1) * 4) = (((i + 1) * 4 : Nat) : Int) := by rw [o9 (x := (i : Int) + 1) (by omega) (by omega), o9 (by omega) (by omega)]; omega
  rw [e1, e2]
  simp only [toNat_cast]
  have hlen : ((b.take ((i + 1) * 4)).drop (i * 4)).length = 4 := by simp; omega
  rw [aj (by omega), aj (by omega), aj (by omega), aj (by omega), jo _ ((hb.take _).drop _) (by omega), aj (by omega), aj (by omega)]
  have e3 : IntKind.u32.wrap ((T 8 ((b.take ((i + 1) * 4)).drop (i * 4)).reverse % 2 ^ 64 : Nat) : Int) = (((BitVec.ofNat 32 (T 8 ((b.take ((i + 1) * 4)).drop (i * 4)).reverse)).toNat : Nat) : Int) := by
   rw [btk, BitVec.toNat_ofNat]; omega
  have e4 : IntKind.i64.wrap ((i : Int) + 1) = ((i + 1 : Nat) : Int) := by rw [o9 (by omega) (by omega)]; omega
  rw [e3, e4]
  have e5 : (cv (ku 32 b i) ++ List.replicate (16 - i) (0 : Int)).set i (((BitVec.ofNat 32 (T 8 ((b.take ((i + 1) * 4)).drop (i * 4)).reverse)).toNat : Nat) : Int) = cv (ku 32 b (i + 1)) ++ List.replicate (16 - (i + 1)) 0 := by
   rw [List.set_append_right _ _ (by simp [pz]), uj, pz, Nat.sub_self, show 16 - i = (16 - (i + 1)) + 1 by omega, List.replicate_succ, List.set_cons_zero, aw5, ← afk, List.append_assoc]
   rfl
  rw [e5]
  exact hn'
 ·simp only [P.yh]
  rw [bq (by omega)]
  simp
theorem bs6 (l v : List (BitVec 32)) (hv : v.length = 8) (h2 h1 : List Int) {ρ : Type} (k0 : Int → Int → List Int → List Int → List Int → Int → Int → List Int → List Int → List Int → List Int → List Int → Option ρ) (hl : l.length = 16) :
    P.qp 64 0 (cv (win p32 l 0)) h2 h1 32 64 [7, 18, 3] [17, 19, 10] [2, 13, 22] [6, 11, 25] (cv v) k0 =
     k0 64 64 (cv (win p32 l 64)) h2 h1 32 64 [7, 18, 3] [17, 19, 10] [2, 13, 22] [6, 11, 25] (cv (runs p32 l v 64)) := by
 rw [P.afn]
 unfold P.abt P.bx8 P.bv1 P.b04
 refine qy (fun t => (64, (t : Int), cv (win p32 l t), h2, h1, 32, 64, [7, 18, 3], [17, 19, 10], [2, 13, 22], [6, 11, 25], cv (runs p32 l v t))) 64 rfl (fun t ht next hn' => ?_) (fun next => ?_) (by omega)
 ·simp only [P.wu]
  have e1 : IntKind.i64.wrap ((t : Int) + 1) = ((t + 1 : Nat) : Int) := by rw [o9 (by omega) (by omega)]; omega
  have e9 : IntKind.i64.wrap ((t : Int) + 9) = ((t + 9 : Nat) : Int) := by rw [o9 (by omega) (by omega)]; omega
  have e14 : IntKind.i64.wrap ((t : Int) + 14) = ((t + 14 : Nat) : Int) := by rw [o9 (by omega) (by omega)]; omega
  simp only [e1, e9, e14, b55, toNat_cast, afr]
  have g0 := atj p32 l t 0 (by omega)
  rw [Nat.add_zero] at g0
  rw [g0, atj p32 l t 1 (by omega), atj p32 l t 9 (by omega), atj p32 l t 14 (by omega)]
  have hV := v8 _ (aml p32 l v hv t)
  rw [aj (by omega), aj (by omega), aj (by omega), bmw, bo8 t ht, bnk, aj (by omega), aj (by omega), boa, aj (by omega), aj (by omega), aj (by omega), aj (by omega), bon, aj (by omega), aj (by omega)]
  simp only [add32, bcz, bze, b6v]
  rw [← bho p32 l hl t, ayy, bi9]
  have hr : cv (runs p32 l v (t + 1)) = (((List.take 1 (cv (runs p32 l v t))).append (List.take 7 (List.take 7 (List.drop 0 (cv (runs p32 l v t)))) ++ List.drop (1 + min 7 (List.take 7 (List.drop 0 (cv (runs p32 l v t)))).length) (cv (runs p32 l v t)))).set 4
      (((runs p32 l v t).getD 3 0 + btl p32 t (W p32 l t) (runs p32 l v t)).toNat : Int)).set 0 ((btl p32 t (W p32 l t) (runs p32 l v t) + b3j p32 (runs p32 l v t)).toNat : Int) := by
   rw [hV]
   rfl
  have h3 : ((List.take 1 (cv (runs p32 l v t))).append (List.take 7 (List.take 7 (List.drop 0 (cv (runs p32 l v t)))) ++ List.drop (1 + min 7 (List.take 7 (List.drop 0 (cv (runs p32 l v t)))).length) (cv (runs p32 l v t)))).getD 4 0 = (((runs p32 l v t).getD 3 0).toNat : Int) := by
   rw [hV]
   rfl
  rw [h3, add32]
  rw [hr] at hn'
  exact hn'
 ·simp only [P.wu]
  rw [bq (by omega)]
  rfl
theorem bsn (v u : List (BitVec 32)) (hv : v.length = 8) (hu : u.length = 8) (h2 : List Int) {ρ : Type} (k0 : Int → List Int → List Int → List Int → Option ρ) :
    P.qw 0 (cv v) h2 (cv u) k0 = k0 8 (cv v) h2 (cv ((List.range 8).map fun i => u.getD i 0 + v.getD i 0)) := by
 rw [P.afi]
 unfold P.abl P.bys P.bwq P.b4d
 have hs : ∀ i, i ≤ 8 → (((List.range i).map fun i => u.getD i 0 + v.getD i 0) ++ u.drop i).length = 8 := fun i hi => by simp; omega
 refine qy (fun i => ((i : Int), cv v, h2, cv (((List.range i).map fun i => u.getD i 0 + v.getD i 0) ++ u.drop i))) 8 (by simp) (fun i hi next hn' => ?_) (fun next => ?_) (by omega)
 ·simp only [P.xq, toNat_cast, afr]
  have e1 : IntKind.i64.wrap ((i : Int) + 1) = ((i + 1 : Nat) : Int) := by rw [o9 (by omega) (by omega)]; omega
  have e2 : (((List.range i).map fun i => u.getD i 0 + v.getD i 0) ++ u.drop i).getD i 0 = u.getD i 0 := by
   rw [List.getD_eq_getElem?_getD, List.getElem?_append_right (by simp), List.getElem?_drop, List.length_map, List.length_range, List.getD_eq_getElem?_getD]
   congr 2
   omega
  rw [e1, e2, add32, ayy]
  have e3 : (((List.range i).map fun i => u.getD i 0 + v.getD i 0) ++ u.drop i).set i (u.getD i 0 + v.getD i 0) = ((List.range (i + 1)).map fun i => u.getD i 0 + v.getD i 0) ++ u.drop (i + 1) := by
   rw [List.set_append_right _ _ (by simp), List.length_map, List.length_range, Nat.sub_self, List.range_succ, List.map_append, List.append_assoc, List.drop_eq_getElem_cons (by omega), List.set_cons_zero]
   rfl
  rw [e3]
  simp (disch := omega) only [aj, bq, gq, dz, d9, dh, jk, ny, um, o9]
  exact hn'
 ·simp only [P.xq]
  rw [bq (by omega), List.drop_eq_nil_of_le (by omega), List.append_nil]
  rfl
theorem bnh (v : List (BitVec 32)) (hv : v.length = 8) (b : List Int) (hb : In 256 b) (hl : b.length = 16 * 4) {ρ : Type} (k : List Int → Option ρ) :
    P.ko 32 64 [7, 18, 3] [17, 19, 10] [2, 13, 22] [6, 11, 25] (cv v) b k = k (cv (awv p32 v b)) := by
 rw [P.aco]
 unfold P.wo
 rw [show IntKind.i64.wrap ((32 : Int).tdiv 8) = 4 from rfl]
 have := bvz b hb hl 64 [7, 18, 3] [17, 19, 10] [2, 13, 22] [6, 11, 25] (cv v) (List.replicate 8 0) (fun (q0 : List Int) (q1 q2 q3 q4 : Int) (q5 q6 q7 q8 q9 q10 q11 : List Int) =>
  P.qp q4 (0 : Int) q11 q10 q9 q3 q4 q5 q6 q7 q8 q9
   fun (q12 q13 : Int) (q14 q15 q16 : List Int) (q17 q18 : Int) (q19 q20 q21 q22 q23 : List Int) =>
   P.qw (0 : Int) q16 q15 q23 fun (q24 : Int) (q25 q26 q27 : List Int) => k q27)
 refine this.trans ?_
 rw [← win_zero p32, bs6 _ v hv _ _ _ (pz b 16), bsn v _ hv (aml _ _ _ hv _)]
 rfl
end Q
end

section
/- SHA-2: the document's block of words of 32 bits. -/
namespace Q
open Go Go.Abs
set_option linter.unusedVariables false
set_option linter.unusedSimpArgs false
theorem aft (b : List Int) (hb : In 256 b) (hn : b.length ≤ 1000000) {ρ : Type} (k : Int → Option ρ) : P.aft b k = k ((T 8 b.reverse % 2 ^ 64 : Nat) : Int) := by
 rw [P.ay9]
 unfold P.aoc
 rw [P.bbm]
 unfold P.bab P.byr P.bw6 P.bz9
 refine qy (fun i => (b, ((T 8 (b.take i).reverse % 2 ^ 64 : Nat) : Int), (i : Int))) b.length (by simp [T]) (fun i hi next hn' => ?_) (fun next => ?_) (by omega)
 ·obtain ⟨x, hx, hx2, hx3⟩ := byte_at hb i
  have est := bcu b i hi
  rw [← hx3] at est
  simp only [P.ase, toNat_cast]
  have e1 : IntKind.u64.wrap (IntKind.u64.wrap (((T 8 (b.take i).reverse % 2 ^ 64 : Nat) : Int) * 256) + IntKind.u64.wrap (x : Int)) = ((T 8 (b.take (i + 1)).reverse % 2 ^ 64 : Nat) : Int) := by
   rw [bn5, bn5, bn5, est]; omega
  rw [hx, e1]
  simp (disch := omega) only [aj, bq, gq, dz, d9, dh, jk, ny, um, o9]
  exact hn'
 ·simp only [P.ase]
  rw [bq (by omega), List.take_length]
theorem al6 (x m : Int) (n : Nat) (hm : m = (n : Int)) (hn : n ≤ 32) : ∃ q, ∀ {ρ : Type} (k : Int → Option ρ), P.yc x m false k = k q := by
 subst hm
 refine ⟨bits .or .u64 (x.fdiv ((2 : Int) ^ min ((n : Int)).toNat 64)) (bits .and .u64 (IntKind.u64.wrap (x * (2 : Int) ^ min ((32 : Int) - (n : Int)).toNat 64)) 4294967295), fun k => ?_⟩
 rw [P.ahx]
 unfold P.ad8
 rw [um, bq (by omega), o9 (by omega) (by omega), bq (by omega)]
theorem bk3 (x a b c : Int) (l m n : Nat) (ha : a = (l : Int)) (hb : b = (m : Int)) (hc : c = (n : Int)) (h1 : l ≤ 32) (h2 : m ≤ 32) (h3 : n ≤ 32) : ∃ q, ∀ {ρ : Type} (k : Int → Option ρ), P.xu x a b c false false k = k q := by
 obtain ⟨q1, e1⟩ := al6 x a l ha h1
 obtain ⟨q2, e2⟩ := al6 x b m hb h2
 obtain ⟨q3, e3⟩ := al6 x c n hc h3
 refine ⟨bits .xor .u64 (bits .xor .u64 q1 q2) q3, fun k => ?_⟩
 rw [P.aer]
 unfold P.abv
 rw [bq (by omega), jk, um, e3, e1, e2]
theorem bi5 (x a b c : Int) (l m n : Nat) (ha : a = (l : Int)) (hb : b = (m : Int)) (hc : c = (n : Int)) (h1 : l ≤ 32) (h2 : m ≤ 32) (h3 : n ≤ 32) : ∃ q, ∀ {ρ : Type} (k : Int → Option ρ), P.xu x a b c true false k = k q := by
 obtain ⟨q1, e1⟩ := al6 x a l ha h1
 obtain ⟨q2, e2⟩ := al6 x b m hb h2
 refine ⟨bits .xor .u64 (bits .xor .u64 q1 q2) (x.fdiv ((2 : Int) ^ min c.toNat 64)), fun k => ?_⟩
 rw [P.aer]
 unfold P.abv
 rw [bq (by omega), jk, ny, e1, e2]
theorem alu (x : BitVec 32) (m : Int) (n : Nat) (hm : m = (n : Int)) (hn : n ≤ 32) {ρ : Type} (k : Int → Option ρ) : P.yc (x.toNat : Int) m false k = k ((rr x n).toNat : Int) := by
 subst hm
 rw [P.ahx]
 unfold P.ad8
 rw [um, bq (by omega), o9 (by omega) (by omega), bq (by omega), show (32 : Int) - (n : Int) = ((32 - n : Nat) : Int) by omega]
 simp only [toNat_cast]
 rw [b6y _ _ (by omega), nshl _ _ (by omega), nor]
 rfl
theorem bqi (x : BitVec 32) (t : Nat × Nat × Nat) (a b c : Int) (ha : a = (t.1 : Int)) (hb : b = (t.2.1 : Int)) (hc : c = (t.2.2 : Int)) (h1 : t.1 ≤ 32) (h2 : t.2.1 ≤ 32) (h3 : t.2.2 ≤ 32) {ρ : Type} (k : Int → Option ρ) :
    P.xu (x.toNat : Int) a b c false false k = k ((hi t x).toNat : Int) := by
 rw [P.aer]
 unfold P.abv
 rw [bq (by omega), jk, um, alu _ _ _ hc h3, alu _ _ _ ha h1, alu _ _ _ hb h2, bqp, bqp]
 rfl
theorem bqm (x : BitVec 32) (t : Nat × Nat × Nat) (a b c : Int) (ha : a = (t.1 : Int)) (hb : b = (t.2.1 : Int)) (hc : c = (t.2.2 : Int)) (h1 : t.1 ≤ 32) (h2 : t.2.1 ≤ 32) (h3 : t.2.2 ≤ 32) {ρ : Type} (k : Int → Option ρ) :
    P.xu (x.toNat : Int) a b c true false k = k ((lo t x).toNat : Int) := by
 rw [P.aer]
 unfold P.abv
 rw [bq (by omega), jk, ny, alu _ _ _ ha h1, alu _ _ _ hb h2, bqp, hc]
 simp only [toNat_cast]
 rw [b6y _ _ (by omega), bqp]
 rfl
theorem b2h (a b c d : BitVec 32) : bits .and .u64 (IntKind.u64.wrap (IntKind.u64.wrap (IntKind.u64.wrap ((a.toNat : Int) + (b.toNat : Int)) + (c.toNat : Int)) + (d.toNat : Int))) 4294967295 = ((a + b + c + d).toNat : Int) := by
 have ha := aus a
 have hb := aus b
 have hc := aus c
 have hd := aus d
 rw [← Int.natCast_add, ab0 _ (by omega), ← Int.natCast_add, ab0 _ (by omega), ← Int.natCast_add, ab0 _ (by omega), bkn _ (by omega), BitVec.toNat_add, BitVec.toNat_add, BitVec.toNat_add]
 omega
theorem b4n (a b : BitVec 32) : bits .and .u64 (IntKind.u64.wrap ((a.toNat : Int) + (b.toNat : Int))) 4294967295 = ((a + b).toNat : Int) := by
 have ha := aus a
 have hb := aus b
 rw [← Int.natCast_add, ab0 _ (by omega), bkn _ (by omega), BitVec.toNat_add]
theorem bz8 (d a b c e f : BitVec 32) : bits .and .u64 (IntKind.u64.wrap ((d.toNat : Int) + IntKind.u64.wrap (IntKind.u64.wrap (IntKind.u64.wrap (IntKind.u64.wrap ((a.toNat : Int) + (b.toNat : Int)) + (c.toNat : Int)) + (e.toNat : Int)) + (f.toNat : Int)))) 4294967295 = ((d + (a + b + c + e + f)).toNat : Int) := by
 have hd := aus d
 have ha := aus a
 have hb := aus b
 have hc := aus c
 have he := aus e
 have hf := aus f
 rw [← Int.natCast_add, ab0 _ (by omega), ← Int.natCast_add, ab0 _ (by omega), ← Int.natCast_add, ab0 _ (by omega), ← Int.natCast_add, ab0 _ (by omega), ← Int.natCast_add, ab0 _ (by omega), bkn _ (by omega), BitVec.toNat_add, BitVec.toNat_add, BitVec.toNat_add, BitVec.toNat_add, BitVec.toNat_add]
 omega
theorem b2y (a b c e f g h : BitVec 32) : bits .and .u64 (IntKind.u64.wrap (IntKind.u64.wrap (IntKind.u64.wrap (IntKind.u64.wrap (IntKind.u64.wrap ((a.toNat : Int) + (b.toNat : Int)) + (c.toNat : Int)) + (e.toNat : Int)) + (f.toNat : Int)) + IntKind.u64.wrap ((g.toNat : Int) + (h.toNat : Int)))) 4294967295 = (((a + b + c + e + f) + (g + h)).toNat : Int) := by
 have ha := aus a
 have hb := aus b
 have hc := aus c
 have he := aus e
 have hf := aus f
 have hg := aus g
 have hh := aus h
 rw [← Int.natCast_add, ab0 _ (by omega), ← Int.natCast_add, ab0 _ (by omega), ← Int.natCast_add, ab0 _ (by omega), ← Int.natCast_add, ab0 _ (by omega), ← Int.natCast_add (g.toNat), ab0 _ (by omega), ← Int.natCast_add, ab0 _ (by omega), bkn _ (by omega), BitVec.toNat_add, BitVec.toNat_add, BitVec.toNat_add, BitVec.toNat_add, BitVec.toNat_add, BitVec.toNat_add]
 omega
theorem b2a (e f g : BitVec 32) : bits .xor .u64 (bits .and .u64 (e.toNat : Int) (f.toNat : Int)) (bits .and .u64 (bits .xor .u64 4294967295 (e.toNat : Int)) (g.toNat : Int)) = ((g ^^^ (e &&& (f ^^^ g))).toNat : Int) := by
 rw [show (4294967295 : Int) = ((BitVec.allOnes 32).toNat : Int) from rfl, nand, bqp, nand, bqp, bxe]
theorem bw3 (a b c : BitVec 32) : bits .xor .u64 (bits .xor .u64 (bits .and .u64 (a.toNat : Int) (b.toNat : Int)) (bits .and .u64 (a.toNat : Int) (c.toNat : Int))) (bits .and .u64 (b.toNat : Int) (c.toNat : Int)) = (((a &&& b) ||| (c &&& (a ||| b))).toNat : Int) := by
 rw [nand, nand, nand, bqp, bqp, bqo]
def auj (b : List Int) (t : Nat) : List (BitVec 32) := (List.range t).map (W p32 (ku 32 b 16))
theorem azs (b : List Int) (t : Nat) : auj b (t + 1) = auj b t ++ [W p32 (ku 32 b 16) t] := by simp [auj, List.range_succ]
theorem bep (b : List Int) (t : Nat) : (auj b t).length = t := by simp [auj]
theorem ap2 (b : List Int) (t i : Nat) (h : i < t) : (auj b t).getD i 0 = W p32 (ku 32 b 16) i := by
 unfold auj
 rw [getD_lt (by simpa using h)]; simp
theorem brn (b : List Int) (t : Nat) (h : t < 16) : W p32 (ku 32 b 16) t = BitVec.ofNat 32 (T 8 ((b.take ((t + 1) * 4)).drop (t * 4)).reverse) := by
 rw [← bqn p32 _ (by rw [pz]; omega) 0 t (by rw [pz]; omega), show sched p32 (ku 32 b 16) 0 = ku 32 b 16 from rfl, getD_lt (by rw [pz]; exact h)]
 simp [ku]
theorem bll (b : List Int) (hb : In 256 b) (hl : b.length = 16 * 4) {ρ : Type} (k : List Int → Option ρ) : P.abd b false 64 4294967295 k = k (cv (auj b 64)) := by
 rw [P.alo]
 unfold P.agd
 rw [um, P.amc]
 unfold P.ala P.bwh P.btb P.byv
 refine qy (fun t => (b, false, 64, 4294967295, 4, (t : Int), cv (auj b t))) 64 rfl (fun t ht next hn' => ?_) (fun next => ?_) (by omega)
 ·simp only [P.afe, toNat_cast]
  have e1 : IntKind.i64.wrap ((t : Int) + 1) = ((t + 1 : Nat) : Int) := by rw [o9 (by omega) (by omega)]; omega
  rw [aj (by omega)]
  have hlen := bep b t
  by_cases h16 : t < 16
  ·have e2 : IntKind.i64.wrap ((t : Int) * 4) = ((t * 4 : Nat) : Int) := by rw [o9 (by omega) (by omega)]; omega
   have e3 : IntKind.i64.wrap (IntKind.i64.wrap ((t : Int) * 4) + 4) = (((t + 1) * 4 : Nat) : Int) := by rw [e2, o9 (by omega) (by omega)]; omega
   have hl2 : ((b.take ((t + 1) * 4)).drop (t * 4)).length = 4 := by simp; omega
   rw [aj (by omega), e3, e2, aj (by omega), aj (by omega), aj (by omega)]
   simp only [toNat_cast]
   have hT := bsm 8 ((b.take ((t + 1) * 4)).drop (t * 4)).reverse
   rw [List.length_reverse, hl2] at hT
   have e4 : ((T 8 ((b.take ((t + 1) * 4)).drop (t * 4)).reverse % 2 ^ 64 : Nat) : Int) = ((W p32 (ku 32 b 16) t).toNat : Int) := by
    rw [brn b t h16, BitVec.toNat_ofNat, Nat.mod_eq_of_lt (by omega), Nat.mod_eq_of_lt (by omega)]
   rw [aft _ ((hb.take _).drop _) (by omega), aj (by rw [uj]; omega), e4, e1, show [((W p32 (ku 32 b 16) t).toNat : Int)] = cv [W p32 (ku 32 b 16) t] from rfl, afk, ← azs]
   exact hn'
  ·have e15 : IntKind.i64.wrap ((t : Int) - 15) = ((t - 15 : Nat) : Int) := by rw [o9 (by omega) (by omega)]; omega
   have e2 : IntKind.i64.wrap ((t : Int) - 2) = ((t - 2 : Nat) : Int) := by rw [o9 (by omega) (by omega)]; omega
   have e7 : IntKind.i64.wrap ((t : Int) - 7) = ((t - 7 : Nat) : Int) := by rw [o9 (by omega) (by omega)]; omega
   have e16 : IntKind.i64.wrap ((t : Int) - 16) = ((t - 16 : Nat) : Int) := by rw [o9 (by omega) (by omega)]; omega
   simp only [e15, e2, e7, e16, toNat_cast, afr, uj, hlen]
   rw [ap2 b t _ (by omega), ap2 b t _ (by omega), ap2 b t _ (by omega), ap2 b t _ (by omega)]
   rw [bq (by omega), aj (by omega), aj (by omega), bqm _ p32.a _ _ _ (by rfl) (by rfl) (by rfl) (by decide) (by decide) (by decide), aj (by omega), aj (by omega), bqm _ p32.b _ _ _ (by rfl) (by rfl) (by rfl) (by decide) (by decide) (by decide), um]
   have hW := bho p32 (ku 32 b 16) (pz b 16) (t - 16)
   rw [show t - 16 + 16 = t by omega, show t - 16 + 1 = t - 15 by omega, show t - 16 + 9 = t - 7 by omega, show t - 16 + 14 = t - 2 by omega] at hW
   have hW2 : lo p32.b (W p32 (ku 32 b 16) (t - 2)) + W p32 (ku 32 b 16) (t - 7) + lo p32.a (W p32 (ku 32 b 16) (t - 15)) + W p32 (ku 32 b 16) (t - 16) = W p32 (ku 32 b 16) t := by rw [hW]; ac_rfl
   rw [aj (by omega), aj (by omega), aj (by omega), aj (by omega), aj (by omega), b2h, hW2, e1, show [((W p32 (ku 32 b 16) t).toNat : Int)] = cv [W p32 (ku 32 b 16) t] from rfl, afk, ← azs]
   exact hn'
 ·simp only [P.afe]
  rw [bq (by omega)]
theorem bq9 (b : List Int) (v : List (BitVec 32)) (hv : v.length = 8) (h0 h1 : List Int) {ρ : Type} (k0 : Bool → Int → Int → Int → List Int → List Int → List Int → List Int → List Int → List Int → Option ρ) :
    P.ado false 64 4294967295 0 h0 h1 P.roots256 P.roots512 (cv (auj b 64)) (cv v) k0 = k0 false 64 4294967295 64 h0 h1 P.roots256 P.roots512 (cv (auj b 64)) (cv (runs p32 (ku 32 b 16) v 64)) := by
 rw [P.aki]
 unfold P.ajt P.bv0 P.bti P.bxu
 refine qy (fun t => (false, 64, 4294967295, (t : Int), h0, h1, P.roots256, P.roots512, cv (auj b 64), cv (runs p32 (ku 32 b 16) v t))) 64 rfl (fun t ht next hn' => ?_) (fun next => ?_) (by omega)
 ·simp only [P.ad5]
  have e1 : IntKind.i64.wrap ((t : Int) + 1) = ((t + 1 : Nat) : Int) := by rw [o9 (by omega) (by omega)]; omega
  have hlen := bep b 64
  simp only [e1, toNat_cast, afr, uj, hlen]
  rw [ap2 b 64 t ht, K32]
  rw [aj (by omega), bqi _ p32.c _ _ _ (by rfl) (by rfl) (by rfl) (by decide) (by decide) (by decide), bqi _ p32.d _ _ _ (by rfl) (by rfl) (by rfl) (by decide) (by decide) (by decide), um]
  rw [aj (by omega), aj (by omega), aj (by omega), aj (by omega), b2a, bw3, b2y, bz8]
  exact hn'
 ·simp only [P.ad5]
  rw [bq (by omega)]
  rfl
theorem bs3 (v u : List (BitVec 32)) (hv : v.length = 8) (hu : u.length = 8) (h1 : List Int) {ρ : Type} (k0 : Int → Int → List Int → List Int → List Int → Option ρ) :
    P.ad4 4294967295 0 (cv v) h1 (cv u) k0 = k0 4294967295 8 (cv v) h1 (cv ((List.range 8).map fun i => u.getD i 0 + v.getD i 0)) := by
 rw [P.akh]
 unfold P.aj6 P.bwo P.btd P.byk
 refine qy (fun i => (4294967295, (i : Int), cv v, h1, cv (((List.range i).map fun i => u.getD i 0 + v.getD i 0) ++ u.drop i))) 8 (by simp) (fun i hi next hn' => ?_) (fun next => ?_) (by omega)
 ·simp only [P.ad9, toNat_cast, afr]
  have e1 : IntKind.i64.wrap ((i : Int) + 1) = ((i + 1 : Nat) : Int) := by rw [o9 (by omega) (by omega)]; omega
  have e2 : (((List.range i).map fun i => u.getD i 0 + v.getD i 0) ++ u.drop i).getD i 0 = u.getD i 0 := by
   rw [List.getD_eq_getElem?_getD, List.getElem?_append_right (by simp), List.getElem?_drop, List.length_map, List.length_range, List.getD_eq_getElem?_getD]
   congr 2
   omega
  rw [e1, e2, b4n, ayy]
  have e3 : (((List.range i).map fun i => u.getD i 0 + v.getD i 0) ++ u.drop i).set i (u.getD i 0 + v.getD i 0) = ((List.range (i + 1)).map fun i => u.getD i 0 + v.getD i 0) ++ u.drop (i + 1) := by
   rw [List.set_append_right _ _ (by simp), List.length_map, List.length_range, Nat.sub_self, List.range_succ, List.map_append, List.append_assoc, List.drop_eq_getElem_cons (by omega), List.set_cons_zero]
   rfl
  rw [e3]
  simp (disch := omega) only [aj, bq, gq, dz, d9, dh, jk, ny, um, o9]
  exact hn'
 ·simp only [P.ad9]
  rw [bq (by omega), List.drop_eq_nil_of_le (by omega), List.append_nil]
  rfl
theorem blq (v : List (BitVec 32)) (hv : v.length = 8) (b : List Int) (hb : In 256 b) (hl : b.length = 16 * 4) {ρ : Type} (k : List Int → Option ρ) : P.acz (cv v) b false k = k (cv (awv p32 v b)) := by
 rw [P.aky]
 unfold P.agb
 have hr1 : ∀ (k : List Int → Option ρ), P.vv k = k P.roots256 := fun k => by rw [P.ahj]; kernel_rfl
 have hr2 : ∀ (k : List Int → Option ρ), P.vo k = k P.roots512 := fun k => by rw [P.ag8]; kernel_rfl
 rw [hr1, hr2, um, bll b hb hl, bq9 b v hv, bs3 v _ hv (aml _ _ _ hv _)]
 rfl
end Q
end

section
/- SHA-2: the program's engine of 64 bits. -/
namespace Q
open Go Go.Abs
set_option linter.unusedVariables false
set_option linter.unusedSimpArgs false
theorem ah8 (rd : Int) (t0 t1 t2 t3 : List Int) (x : BitVec 64) (m : Int) (n : Nat) (hm : m = (n : Int)) (hn : n ≤ 64) {ρ : Type} (k : Int → Option ρ) :
    P.ay 64 rd t0 t1 t2 t3 (x.toNat : Int) m k = k ((rr x n).toNat : Int) := by
 subst hm
 rw [P.aa6]
 unfold P.uz
 rw [bq (by omega), o9 (by omega) (by omega), bq (by omega), show (64 : Int) - (n : Int) = ((64 - n : Nat) : Int) by omega]
 simp only [toNat_cast]
 rw [bmu _ _ hn, bt9 _ _ (by omega), b0m]
 rfl
theorem bmf (rd : Int) (x : BitVec 64) {ρ : Type} (k : Int → Option ρ) : P.jf 64 rd [1, 8, 7] [19, 61, 6] [28, 34, 39] [14, 18, 41] (x.toNat : Int) 3 k = k ((hi p64.d x).toNat : Int) := by
 rw [P.ze]
 unfold P.rz
 simp only [List.getD_cons_zero, List.getD_cons_succ]
 rw [bq (by decide), bq (by decide), bq (by decide), aj (by decide), ah8 _ _ _ _ _ _ _ 14 (by rfl) (by omega), ah8 _ _ _ _ _ _ _ 18 (by rfl) (by omega), ah8 _ _ _ _ _ _ _ 41 (by rfl) (by omega), akn, akn]
 rfl
theorem bnc (rd : Int) (x : BitVec 64) {ρ : Type} (k : Int → Option ρ) : P.jf 64 rd [1, 8, 7] [19, 61, 6] [28, 34, 39] [14, 18, 41] (x.toNat : Int) 2 k = k ((hi p64.c x).toNat : Int) := by
 rw [P.ze]
 unfold P.rz
 simp only [List.getD_cons_zero, List.getD_cons_succ]
 rw [bq (by decide), bq (by decide), aj (by decide), ah8 _ _ _ _ _ _ _ 28 (by rfl) (by omega), ah8 _ _ _ _ _ _ _ 34 (by rfl) (by omega), ah8 _ _ _ _ _ _ _ 39 (by rfl) (by omega), akn, akn]
 rfl
theorem bpo (rd : Int) (x : BitVec 64) {ρ : Type} (k : Int → Option ρ) : P.jm 64 rd [1, 8, 7] [19, 61, 6] [28, 34, 39] [14, 18, 41] (x.toNat : Int) 0 k = k ((lo p64.a x).toNat : Int) := by
 rw [P.zx]
 unfold P.tu
 simp only [List.getD_cons_zero, List.getD_cons_succ]
 rw [aj (by decide), ah8 _ _ _ _ _ _ _ 1 (by rfl) (by omega), ah8 _ _ _ _ _ _ _ 8 (by rfl) (by omega), bq (by decide), akn, show (7 : Int).toNat = 7 from rfl, bmu _ _ (by omega), akn]
 rfl
theorem bof (rd : Int) (x : BitVec 64) {ρ : Type} (k : Int → Option ρ) : P.jm 64 rd [1, 8, 7] [19, 61, 6] [28, 34, 39] [14, 18, 41] (x.toNat : Int) 1 k = k ((lo p64.b x).toNat : Int) := by
 rw [P.zx]
 unfold P.tu
 simp only [List.getD_cons_zero, List.getD_cons_succ]
 rw [bq (by decide), aj (by decide), ah8 _ _ _ _ _ _ _ 19 (by rfl) (by omega), ah8 _ _ _ _ _ _ _ 61 (by rfl) (by omega), bq (by decide), akn, show (6 : Int).toNat = 6 from rfl, bmu _ _ (by omega), akn]
 rfl
theorem bpv (t : Nat) (h : t < 80) {ρ : Type} (k : Int → Option ρ) : P.nk (t : Int) k = k ((p64.K t).toNat : Int) := by
 rw [P.amy]
 unfold P.agp
 rw [aj (by omega), aj (by omega), toNat_cast, K64]
theorem bxj (b : List Int) (hb : In 256 b) (hl : b.length = 16 * 8) (rd : Int) (t0 t1 t2 t3 h1 h2 : List Int) {ρ : Type} (k0 : List Int → Int → Int → Int → Int → List Int → List Int → List Int → List Int → List Int → List Int → List Int → Option ρ) :
    P.yu b 8 0 64 rd t0 t1 t2 t3 h1 h2 (List.replicate 16 0) k0 = k0 b 8 16 64 rd t0 t1 t2 t3 h1 h2 (cv (ku 64 b 16)) := by
 rw [P.afz]
 unfold P.acn P.bxl P.bxf P.b0s
 refine qy (fun i => (b, 8, (i : Int), 64, rd, t0, t1, t2, t3, h1, h2, cv (ku 64 b i) ++ List.replicate (16 - i) 0)) 16 (by simp [ku, cv]) (fun i hi next hn' => ?_) (fun next => ?_) (by omega)
 ·simp only [P.yj, toNat_cast]
  have e1 : IntKind.i64.wrap ((i : Int) * 8) = ((i * 8 : Nat) : Int) := by rw [o9 (by omega) (by omega)]; omega
  have e2 : IntKind.i64.wrap (IntKind.i64.wrap ((i : Int) + 1) * 8) = (((i + 1) * 8 : Nat) : Int) := by rw [o9 (x := (i : Int) + 1) (by omega) (by omega), o9 (by omega) (by omega)]; omega
  rw [e1, e2]
  simp only [toNat_cast]
  have hlen : ((b.take ((i + 1) * 8)).drop (i * 8)).length = 8 := by simp; omega
  rw [aj (by omega), aj (by omega), aj (by omega), aj (by omega), jo _ ((hb.take _).drop _) (by omega), aj (by omega), aj (by omega)]
  have e3 : ((T 8 ((b.take ((i + 1) * 8)).drop (i * 8)).reverse % 2 ^ 64 : Nat) : Int) = (((BitVec.ofNat 64 (T 8 ((b.take ((i + 1) * 8)).drop (i * 8)).reverse)).toNat : Nat) : Int) := by
   rw [BitVec.toNat_ofNat]
  have e4 : IntKind.i64.wrap ((i : Int) + 1) = ((i + 1 : Nat) : Int) := by rw [o9 (by omega) (by omega)]; omega
  rw [e3, e4]
  have e5 : (cv (ku 64 b i) ++ List.replicate (16 - i) (0 : Int)).set i (((BitVec.ofNat 64 (T 8 ((b.take ((i + 1) * 8)).drop (i * 8)).reverse)).toNat : Nat) : Int) = cv (ku 64 b (i + 1)) ++ List.replicate (16 - (i + 1)) 0 := by
   rw [List.set_append_right _ _ (by simp [pz]), uj, pz, Nat.sub_self, show 16 - i = (16 - (i + 1)) + 1 by omega, List.replicate_succ, List.set_cons_zero, aw5, ← afk, List.append_assoc]
   rfl
  rw [e5]
  exact hn'
 ·simp only [P.yj]
  rw [bq (by omega)]
  simp
theorem bsi (l v : List (BitVec 64)) (hv : v.length = 8) (h2 h1 : List Int) {ρ : Type} (k0 : Int → Int → List Int → List Int → List Int → Int → Int → List Int → List Int → List Int → List Int → List Int → Option ρ) (hl : l.length = 16) :
    P.qo 80 0 (cv (win p64 l 0)) h2 h1 64 80 [1, 8, 7] [19, 61, 6] [28, 34, 39] [14, 18, 41] (cv v) k0 =
     k0 80 80 (cv (win p64 l 80)) h2 h1 64 80 [1, 8, 7] [19, 61, 6] [28, 34, 39] [14, 18, 41] (cv (runs p64 l v 80)) := by
 rw [P.afl]
 unfold P.abe P.bxs P.bt1 P.b07
 refine qy (fun t => (80, (t : Int), cv (win p64 l t), h2, h1, 64, 80, [1, 8, 7], [19, 61, 6], [28, 34, 39], [14, 18, 41], cv (runs p64 l v t))) 80 rfl (fun t ht next hn' => ?_) (fun next => ?_) (by omega)
 ·simp only [P.xg]
  have e1 : IntKind.i64.wrap ((t : Int) + 1) = ((t + 1 : Nat) : Int) := by rw [o9 (by omega) (by omega)]; omega
  have e9 : IntKind.i64.wrap ((t : Int) + 9) = ((t + 9 : Nat) : Int) := by rw [o9 (by omega) (by omega)]; omega
  have e14 : IntKind.i64.wrap ((t : Int) + 14) = ((t + 14 : Nat) : Int) := by rw [o9 (by omega) (by omega)]; omega
  simp only [e1, e9, e14, b55, toNat_cast, afr]
  have g0 := atj p64 l t 0 (by omega)
  rw [Nat.add_zero] at g0
  rw [g0, atj p64 l t 1 (by omega), atj p64 l t 9 (by omega), atj p64 l t 14 (by omega)]
  have hV := v8 _ (aml p64 l v hv t)
  rw [aj (by omega), aj (by omega), aj (by omega), bmf, bpv t ht, bnc, aj (by omega), aj (by omega), bpo, aj (by omega), aj (by omega), aj (by omega), aj (by omega), bof, aj (by omega), aj (by omega)]
  simp only [akm, akn, bj7, b0m]
  rw [← bho p64 l hl t, ayy, bi9]
  have hr : cv (runs p64 l v (t + 1)) = (((List.take 1 (cv (runs p64 l v t))).append (List.take 7 (List.take 7 (List.drop 0 (cv (runs p64 l v t)))) ++ List.drop (1 + min 7 (List.take 7 (List.drop 0 (cv (runs p64 l v t)))).length) (cv (runs p64 l v t)))).set 4
      (((runs p64 l v t).getD 3 0 + btl p64 t (W p64 l t) (runs p64 l v t)).toNat : Int)).set 0 ((btl p64 t (W p64 l t) (runs p64 l v t) + b3j p64 (runs p64 l v t)).toNat : Int) := by
   rw [hV]
   rfl
  have h3 : ((List.take 1 (cv (runs p64 l v t))).append (List.take 7 (List.take 7 (List.drop 0 (cv (runs p64 l v t)))) ++ List.drop (1 + min 7 (List.take 7 (List.drop 0 (cv (runs p64 l v t)))).length) (cv (runs p64 l v t)))).getD 4 0 = (((runs p64 l v t).getD 3 0).toNat : Int) := by
   rw [hV]
   rfl
  rw [h3, akm]
  rw [hr] at hn'
  exact hn'
 ·simp only [P.xg]
  rw [bq (by omega)]
  rfl
theorem bsp (v u : List (BitVec 64)) (hv : v.length = 8) (hu : u.length = 8) (h2 : List Int) {ρ : Type} (k0 : Int → List Int → List Int → List Int → Option ρ) :
    P.qg 0 (cv v) h2 (cv u) k0 = k0 8 (cv v) h2 (cv ((List.range 8).map fun i => u.getD i 0 + v.getD i 0)) := by
 rw [P.afb]
 unfold P.abq P.bx7 P.bwy P.b36
 have hs : ∀ i, i ≤ 8 → (((List.range i).map fun i => u.getD i 0 + v.getD i 0) ++ u.drop i).length = 8 := fun i hi => by simp; omega
 refine qy (fun i => ((i : Int), cv v, h2, cv (((List.range i).map fun i => u.getD i 0 + v.getD i 0) ++ u.drop i))) 8 (by simp) (fun i hi next hn' => ?_) (fun next => ?_) (by omega)
 ·simp only [P.xk, toNat_cast, afr]
  have e1 : IntKind.i64.wrap ((i : Int) + 1) = ((i + 1 : Nat) : Int) := by rw [o9 (by omega) (by omega)]; omega
  have e2 : (((List.range i).map fun i => u.getD i 0 + v.getD i 0) ++ u.drop i).getD i 0 = u.getD i 0 := by
   rw [List.getD_eq_getElem?_getD, List.getElem?_append_right (by simp), List.getElem?_drop, List.length_map, List.length_range, List.getD_eq_getElem?_getD]
   congr 2
   omega
  rw [e1, e2, akm, ayy]
  have e3 : (((List.range i).map fun i => u.getD i 0 + v.getD i 0) ++ u.drop i).set i (u.getD i 0 + v.getD i 0) = ((List.range (i + 1)).map fun i => u.getD i 0 + v.getD i 0) ++ u.drop (i + 1) := by
   rw [List.set_append_right _ _ (by simp), List.length_map, List.length_range, Nat.sub_self, List.range_succ, List.map_append, List.append_assoc, List.drop_eq_getElem_cons (by omega), List.set_cons_zero]
   rfl
  rw [e3]
  simp (disch := omega) only [aj, bq, gq, dz, d9, dh, jk, ny, um, o9]
  exact hn'
 ·simp only [P.xk]
  rw [bq (by omega), List.drop_eq_nil_of_le (by omega), List.append_nil]
  rfl
theorem bkx (v : List (BitVec 64)) (hv : v.length = 8) (b : List Int) (hb : In 256 b) (hl : b.length = 16 * 8) {ρ : Type} (k : List Int → Option ρ) :
    P.j6 64 80 [1, 8, 7] [19, 61, 6] [28, 34, 39] [14, 18, 41] (cv v) b k = k (cv (awv p64 v b)) := by
 rw [P.aci]
 unfold P.xw
 rw [show IntKind.i64.wrap ((64 : Int).tdiv 8) = 8 from rfl]
 have := bxj b hb hl 80 [1, 8, 7] [19, 61, 6] [28, 34, 39] [14, 18, 41] (cv v) (List.replicate 8 0) (fun (q0 : List Int) (q1 q2 q3 q4 : Int) (q5 q6 q7 q8 q9 q10 q11 : List Int) =>
  P.qo q4 (0 : Int) q11 q10 q9 q3 q4 q5 q6 q7 q8 q9
   fun (q12 q13 : Int) (q14 q15 q16 : List Int) (q17 q18 : Int) (q19 q20 q21 q22 q23 : List Int) =>
   P.qg (0 : Int) q16 q15 q23 fun (q24 : Int) (q25 q26 q27 : List Int) => k q27)
 refine this.trans ?_
 rw [← win_zero p64, bsi _ v hv _ _ _ (pz b 16), bsp v _ hv (aml _ _ _ hv _)]
 rfl
end Q
end

section
/- SHA-2: the document's block of words of 64 bits. -/
namespace Q
open Go Go.Abs
set_option linter.unusedVariables false
set_option linter.unusedSimpArgs false
theorem amd (x : BitVec 64) (m : Int) (n : Nat) (hm : m = (n : Int)) (hn : n ≤ 64) {ρ : Type} (k : Int → Option ρ) : P.yc (x.toNat : Int) m true k = k ((rr x n).toNat : Int) := by
 subst hm
 rw [P.ahx]
 unfold P.ad8
 rw [ny, bq (by omega), o9 (by omega) (by omega), bq (by omega), show (64 : Int) - (n : Int) = ((64 - n : Nat) : Int) by omega]
 simp only [toNat_cast]
 rw [bmu _ _ hn, bt9 _ _ (by omega), b0m]
 rfl
theorem bq3 (x : BitVec 64) (t : Nat × Nat × Nat) (a b c : Int) (ha : a = (t.1 : Int)) (hb : b = (t.2.1 : Int)) (hc : c = (t.2.2 : Int)) (h1 : t.1 ≤ 64) (h2 : t.2.1 ≤ 64) (h3 : t.2.2 ≤ 64) {ρ : Type} (k : Int → Option ρ) :
    P.xu (x.toNat : Int) a b c false true k = k ((hi t x).toNat : Int) := by
 rw [P.aer]
 unfold P.abv
 rw [bq (by omega), jk, um, amd _ _ _ hc h3, amd _ _ _ ha h1, amd _ _ _ hb h2, akn, akn]
 rfl
theorem bqe (x : BitVec 64) (t : Nat × Nat × Nat) (a b c : Int) (ha : a = (t.1 : Int)) (hb : b = (t.2.1 : Int)) (hc : c = (t.2.2 : Int)) (h1 : t.1 ≤ 64) (h2 : t.2.1 ≤ 64) (h3 : t.2.2 ≤ 64) {ρ : Type} (k : Int → Option ρ) :
    P.xu (x.toNat : Int) a b c true true k = k ((lo t x).toNat : Int) := by
 rw [P.aer]
 unfold P.abv
 rw [bq (by omega), jk, ny, amd _ _ _ ha h1, amd _ _ _ hb h2, akn, hc]
 simp only [toNat_cast]
 rw [bmu _ _ h3, akn]
 rfl
theorem bzg (a b c d : BitVec 64) : bits .and .u64 (IntKind.u64.wrap (IntKind.u64.wrap (IntKind.u64.wrap ((a.toNat : Int) + (b.toNat : Int)) + (c.toNat : Int)) + (d.toNat : Int))) 18446744073709551615 = ((a + b + c + d).toNat : Int) := by
 rw [akm, akm, akm, bpb _ (brz _)]
theorem b0z (a b : BitVec 64) : bits .and .u64 (IntKind.u64.wrap ((a.toNat : Int) + (b.toNat : Int))) 18446744073709551615 = ((a + b).toNat : Int) := by
 rw [akm, bpb _ (brz _)]
theorem b3x (d a b c e f : BitVec 64) : bits .and .u64 (IntKind.u64.wrap ((d.toNat : Int) + IntKind.u64.wrap (IntKind.u64.wrap (IntKind.u64.wrap (IntKind.u64.wrap ((a.toNat : Int) + (b.toNat : Int)) + (c.toNat : Int)) + (e.toNat : Int)) + (f.toNat : Int)))) 18446744073709551615 = ((d + (a + b + c + e + f)).toNat : Int) := by
 rw [akm, akm, akm, akm, akm, bpb _ (brz _)]
theorem b3v (a b c e f g h : BitVec 64) : bits .and .u64 (IntKind.u64.wrap (IntKind.u64.wrap (IntKind.u64.wrap (IntKind.u64.wrap (IntKind.u64.wrap ((a.toNat : Int) + (b.toNat : Int)) + (c.toNat : Int)) + (e.toNat : Int)) + (f.toNat : Int)) + IntKind.u64.wrap ((g.toNat : Int) + (h.toNat : Int)))) 18446744073709551615 = (((a + b + c + e + f) + (g + h)).toNat : Int) := by
 rw [akm, akm, akm, akm, akm, akm, bpb _ (brz _)]
theorem b28 (e f g : BitVec 64) : bits .xor .u64 (bits .and .u64 (e.toNat : Int) (f.toNat : Int)) (bits .and .u64 (bits .xor .u64 18446744073709551615 (e.toNat : Int)) (g.toNat : Int)) = ((g ^^^ (e &&& (f ^^^ g))).toNat : Int) := by
 rw [show (18446744073709551615 : Int) = ((BitVec.allOnes 64).toNat : Int) from rfl, bj7, akn, bj7, akn, bxe]
theorem buq (a b c : BitVec 64) : bits .xor .u64 (bits .xor .u64 (bits .and .u64 (a.toNat : Int) (b.toNat : Int)) (bits .and .u64 (a.toNat : Int) (c.toNat : Int))) (bits .and .u64 (b.toNat : Int) (c.toNat : Int)) = (((a &&& b) ||| (c &&& (a ||| b))).toNat : Int) := by
 rw [bj7, bj7, bj7, akn, akn, bqo]
def auk (b : List Int) (t : Nat) : List (BitVec 64) := (List.range t).map (W p64 (ku 64 b 16))
theorem azg (b : List Int) (t : Nat) : auk b (t + 1) = auk b t ++ [W p64 (ku 64 b 16) t] := by simp [auk, List.range_succ]
theorem bc8 (b : List Int) (t : Nat) : (auk b t).length = t := by simp [auk]
theorem aqn (b : List Int) (t i : Nat) (h : i < t) : (auk b t).getD i 0 = W p64 (ku 64 b 16) i := by
 unfold auk
 rw [getD_lt (by simpa using h)]; simp
theorem bs5 (b : List Int) (t : Nat) (h : t < 16) : W p64 (ku 64 b 16) t = BitVec.ofNat 64 (T 8 ((b.take ((t + 1) * 8)).drop (t * 8)).reverse) := by
 rw [← bqn p64 _ (by rw [pz]; omega) 0 t (by rw [pz]; omega), show sched p64 (ku 64 b 16) 0 = ku 64 b 16 from rfl, getD_lt (by rw [pz]; exact h)]
 simp [ku]
theorem bmm (b : List Int) (hb : In 256 b) (hl : b.length = 16 * 8) {ρ : Type} (k : List Int → Option ρ) : P.abd b true 80 18446744073709551615 k = k (cv (auk b 80)) := by
 rw [P.alo]
 unfold P.agd
 rw [ny, P.amc]
 unfold P.ala P.bwh P.btb P.byv
 refine qy (fun t => (b, true, 80, 18446744073709551615, 8, (t : Int), cv (auk b t))) 80 rfl (fun t ht next hn' => ?_) (fun next => ?_) (by omega)
 ·simp only [P.afe, toNat_cast]
  have e1 : IntKind.i64.wrap ((t : Int) + 1) = ((t + 1 : Nat) : Int) := by rw [o9 (by omega) (by omega)]; omega
  rw [aj (by omega)]
  have hlen := bc8 b t
  by_cases h16 : t < 16
  ·have e2 : IntKind.i64.wrap ((t : Int) * 8) = ((t * 8 : Nat) : Int) := by rw [o9 (by omega) (by omega)]; omega
   have e3 : IntKind.i64.wrap (IntKind.i64.wrap ((t : Int) * 8) + 8) = (((t + 1) * 8 : Nat) : Int) := by rw [e2, o9 (by omega) (by omega)]; omega
   have hl2 : ((b.take ((t + 1) * 8)).drop (t * 8)).length = 8 := by simp; omega
   rw [aj (by omega), e3, e2, aj (by omega), aj (by omega), aj (by omega)]
   simp only [toNat_cast]
   have hT := bsm 8 ((b.take ((t + 1) * 8)).drop (t * 8)).reverse
   rw [List.length_reverse, hl2] at hT
   have e4 : ((T 8 ((b.take ((t + 1) * 8)).drop (t * 8)).reverse % 2 ^ 64 : Nat) : Int) = ((W p64 (ku 64 b 16) t).toNat : Int) := by
    rw [bs5 b t h16, BitVec.toNat_ofNat]
   rw [aft _ ((hb.take _).drop _) (by omega), aj (by rw [uj]; omega), e4, e1, show [((W p64 (ku 64 b 16) t).toNat : Int)] = cv [W p64 (ku 64 b 16) t] from rfl, afk, ← azg]
   exact hn'
  ·have e15 : IntKind.i64.wrap ((t : Int) - 15) = ((t - 15 : Nat) : Int) := by rw [o9 (by omega) (by omega)]; omega
   have e2 : IntKind.i64.wrap ((t : Int) - 2) = ((t - 2 : Nat) : Int) := by rw [o9 (by omega) (by omega)]; omega
   have e7 : IntKind.i64.wrap ((t : Int) - 7) = ((t - 7 : Nat) : Int) := by rw [o9 (by omega) (by omega)]; omega
   have e16 : IntKind.i64.wrap ((t : Int) - 16) = ((t - 16 : Nat) : Int) := by rw [o9 (by omega) (by omega)]; omega
   simp only [e15, e2, e7, e16, toNat_cast, afr, uj, hlen]
   rw [aqn b t _ (by omega), aqn b t _ (by omega), aqn b t _ (by omega), aqn b t _ (by omega)]
   obtain ⟨q1, m1⟩ := bi5 ((W p64 (ku 64 b 16) (t - 15)).toNat : Int) 7 18 3 7 18 3 rfl rfl rfl (by omega) (by omega) (by omega)
   obtain ⟨q2, m2⟩ := bi5 ((W p64 (ku 64 b 16) (t - 2)).toNat : Int) 17 19 10 17 19 10 rfl rfl rfl (by omega) (by omega) (by omega)
   rw [bq (by omega), aj (by omega), aj (by omega), m1, aj (by omega), aj (by omega), m2, ny, aj (by omega), aj (by omega), bqe _ p64.a _ _ _ (by rfl) (by rfl) (by rfl) (by decide) (by decide) (by decide), aj (by omega), aj (by omega), bqe _ p64.b _ _ _ (by rfl) (by rfl) (by rfl) (by decide) (by decide) (by decide)]
   have hW := bho p64 (ku 64 b 16) (pz b 16) (t - 16)
   rw [show t - 16 + 16 = t by omega, show t - 16 + 1 = t - 15 by omega, show t - 16 + 9 = t - 7 by omega, show t - 16 + 14 = t - 2 by omega] at hW
   have hW2 : lo p64.b (W p64 (ku 64 b 16) (t - 2)) + W p64 (ku 64 b 16) (t - 7) + lo p64.a (W p64 (ku 64 b 16) (t - 15)) + W p64 (ku 64 b 16) (t - 16) = W p64 (ku 64 b 16) t := by rw [hW]; ac_rfl
   rw [aj (by omega), aj (by omega), aj (by omega), aj (by omega), aj (by omega), bzg, hW2, e1, show [((W p64 (ku 64 b 16) t).toNat : Int)] = cv [W p64 (ku 64 b 16) t] from rfl, afk, ← azg]
   exact hn'
 ·simp only [P.afe]
  rw [bq (by omega)]
theorem bta (b : List Int) (v : List (BitVec 64)) (hv : v.length = 8) (h0 h1 : List Int) {ρ : Type} (k0 : Bool → Int → Int → Int → List Int → List Int → List Int → List Int → List Int → List Int → Option ρ) :
    P.ado true 80 18446744073709551615 0 h0 h1 P.roots256 P.roots512 (cv (auk b 80)) (cv v) k0 = k0 true 80 18446744073709551615 80 h0 h1 P.roots256 P.roots512 (cv (auk b 80)) (cv (runs p64 (ku 64 b 16) v 80)) := by
 rw [P.aki]
 unfold P.ajt P.bv0 P.bti P.bxu
 refine qy (fun t => (true, 80, 18446744073709551615, (t : Int), h0, h1, P.roots256, P.roots512, cv (auk b 80), cv (runs p64 (ku 64 b 16) v t))) 80 rfl (fun t ht next hn' => ?_) (fun next => ?_) (by omega)
 ·simp only [P.ad5]
  have e1 : IntKind.i64.wrap ((t : Int) + 1) = ((t + 1 : Nat) : Int) := by rw [o9 (by omega) (by omega)]; omega
  have hlen := bc8 b 80
  simp only [e1, toNat_cast, afr, uj, hlen]
  rw [aqn b 80 t ht, K64]
  obtain ⟨q1, m1⟩ := bk3 (((runs p64 (ku 64 b 16) v t).getD 0 0).toNat : Int) 2 13 22 2 13 22 rfl rfl rfl (by omega) (by omega) (by omega)
  obtain ⟨q2, m2⟩ := bk3 (((runs p64 (ku 64 b 16) v t).getD 4 0).toNat : Int) 6 11 25 6 11 25 rfl rfl rfl (by omega) (by omega) (by omega)
  rw [aj (by omega), m1, m2, ny, bq3 _ p64.c _ _ _ (by rfl) (by rfl) (by rfl) (by decide) (by decide) (by decide), bq3 _ p64.d _ _ _ (by rfl) (by rfl) (by rfl) (by decide) (by decide) (by decide)]
  rw [aj (by omega), aj (by omega), aj (by omega), aj (by omega), b28, buq, b3v, b3x]
  exact hn'
 ·simp only [P.ad5]
  rw [bq (by omega)]
  rfl
theorem bsy (v u : List (BitVec 64)) (hv : v.length = 8) (hu : u.length = 8) (h1 : List Int) {ρ : Type} (k0 : Int → Int → List Int → List Int → List Int → Option ρ) :
    P.ad4 18446744073709551615 0 (cv v) h1 (cv u) k0 = k0 18446744073709551615 8 (cv v) h1 (cv ((List.range 8).map fun i => u.getD i 0 + v.getD i 0)) := by
 rw [P.akh]
 unfold P.aj6 P.bwo P.btd P.byk
 refine qy (fun i => (18446744073709551615, (i : Int), cv v, h1, cv (((List.range i).map fun i => u.getD i 0 + v.getD i 0) ++ u.drop i))) 8 (by simp) (fun i hi next hn' => ?_) (fun next => ?_) (by omega)
 ·simp only [P.ad9, toNat_cast, afr]
  have e1 : IntKind.i64.wrap ((i : Int) + 1) = ((i + 1 : Nat) : Int) := by rw [o9 (by omega) (by omega)]; omega
  have e2 : (((List.range i).map fun i => u.getD i 0 + v.getD i 0) ++ u.drop i).getD i 0 = u.getD i 0 := by
   rw [List.getD_eq_getElem?_getD, List.getElem?_append_right (by simp), List.getElem?_drop, List.length_map, List.length_range, List.getD_eq_getElem?_getD]
   congr 2
   omega
  rw [e1, e2, b0z, ayy]
  have e3 : (((List.range i).map fun i => u.getD i 0 + v.getD i 0) ++ u.drop i).set i (u.getD i 0 + v.getD i 0) = ((List.range (i + 1)).map fun i => u.getD i 0 + v.getD i 0) ++ u.drop (i + 1) := by
   rw [List.set_append_right _ _ (by simp), List.length_map, List.length_range, Nat.sub_self, List.range_succ, List.map_append, List.append_assoc, List.drop_eq_getElem_cons (by omega), List.set_cons_zero]
   rfl
  rw [e3]
  simp (disch := omega) only [aj, bq, gq, dz, d9, dh, jk, ny, um, o9]
  exact hn'
 ·simp only [P.ad9]
  rw [bq (by omega), List.drop_eq_nil_of_le (by omega), List.append_nil]
  rfl
theorem bk6 (v : List (BitVec 64)) (hv : v.length = 8) (b : List Int) (hb : In 256 b) (hl : b.length = 16 * 8) {ρ : Type} (k : List Int → Option ρ) : P.acz (cv v) b true k = k (cv (awv p64 v b)) := by
 rw [P.aky]
 unfold P.agb
 have hr1 : ∀ (k : List Int → Option ρ), P.vv k = k P.roots256 := fun k => by rw [P.ahj]; kernel_rfl
 have hr2 : ∀ (k : List Int → Option ρ), P.vo k = k P.roots512 := fun k => by rw [P.ag8]; kernel_rfl
 rw [hr1, hr2, ny, bmm b hb hl, bta b v hv, bsy v _ hv (aml _ _ _ hv _)]
 rfl
end Q
end

section
/- bits, the first part: texts. -/
namespace Q
open Go Go.Abs
set_option linter.unusedVariables false
set_option linter.unusedSimpArgs false
theorem bnn {a b : List Int} (hl : a.length = b.length) (hs : a.length ≤ 140737488355328) {ρ : Type} (k0 : List Int → List Int → Int → Option ρ) (k1 : Bool → Option ρ) :
    ∀ (m i : Nat), i + m = a.length → ∀ {stp : (List Int × List Int × Int) → ((List Int × List Int × Int) → Option ρ) → ((List Int × List Int × Int) ⊕ Bool → Option ρ) → Option ρ} {K : (List Int × List Int × Int) ⊕ Bool → Option ρ},
     (∀ (j : Nat) next, stp (a, b, (j : Int)) next K = br (decide ((j : Int) < (a.length : Int))) (br (a.getD j 0 != b.getD j 0) (k1 false) (next (a, b, ((j + 1 : Nat) : Int)))) (k0 a b (j : Int))) →
     lp stp (a, b, (i : Int)) K = if a.drop i = b.drop i then k0 a b (a.length : Int) else k1 false := by
 intro m i hm stp K hst
 refine b2e (P := fun x => ∃ j : Nat, x = (a, b, (j : Int)) ∧ j ≤ a.length ∧ (if a.drop j = b.drop j then k0 a b (a.length : Int) else k1 false) = (if a.drop i = b.drop i then k0 a b (a.length : Int) else k1 false)) (μ := fun x => ((a.length : Int) - x.2.2).toNat) ?_ ⟨i, rfl, by omega, rfl⟩ (by simp only; omega)
 rintro _ ⟨j, rfl, hj, he⟩ next hn
 rw [hst, ← he]
 by_cases hji : j < a.length
 ·rw [aj (by omega), acw a 0 j hji, acw b 0 j (by omega)]
  by_cases hab : a.getD j 0 = b.getD j 0
  ·rw [dz hab, hn _ ⟨j + 1, rfl, by omega, ?_⟩ (by simp only; omega), ← he, acw a 0 j hji, acw b 0 j (by omega)]
   ·rw [← he, acw a 0 j hji, acw b 0 j (by omega)]
    simp only [hab, List.cons.injEq, true_and]
  ·rw [gq hab, if_neg (by simp only [List.cons.injEq]; exact fun h => hab h.1)]
 ·have : j = a.length := by omega
  subst this
  rw [bq (by omega), if_pos (by rw [List.drop_eq_nil_of_le (Nat.le_refl _), List.drop_eq_nil_of_le (by omega)])]
theorem y8 (a b : List Int) (h : a.length ≤ 140737488355328) {ρ : Type} (k : Bool → Option ρ) : P.y8 a b k = k (decide (a = b)) := by
 rw [P.axo]
 unfold P.alr
 by_cases hl : a.length = b.length
 ·rw [dz (by omega), P.ayc]
  unfold P.axk P.bxo P.bwi P.b7d
  have := bnn hl h (fun _ _ _ => k true) k a.length 0 (by omega) (stp := (fun x next ex => P.anp x.1 x.2.1 x.2.2 (fun v0 v1 v5 => next (v0, v1, v5)) (fun v0 v1 v5 => ex (.inl (v0, v1, v5))) (fun v4 => ex (.inr v4)))) (K := Sum.elim (fun _ => k true) k) (by
   intro j next
   simp only [P.anp, Sum.elim_inl, Sum.elim_inr]
   by_cases hj : (j : Int) < (a.length : Int)
   ·simp only [aj hj]
    simp (disch := omega) only [aj, bq, gq, dz, d9, dh, jk, ny, um, o9, toNat_cast]
    rfl
   ·simp only [bq hj])
  simp only [List.drop_zero] at this
  refine this.trans ?_
  by_cases hab : a = b
  ·rw [if_pos hab, decide_eq_true hab]
  ·rw [if_neg hab, decide_eq_false hab]
 ·rw [gq (by omega), decide_eq_false (fun e => hl (by rw [e]))]
end Q
end

section
/- bits: the law's own test. -/
namespace Q
open Go Go.Abs
set_option linter.unusedVariables false
set_option linter.unusedSimpArgs false
end Q
end

section
/- bits: Same, Join. -/
namespace Q
open Go Go.Abs
set_option linter.unusedVariables false
set_option linter.unusedSimpArgs false
def diff (a b : List Int) (i : Nat) : Int := (List.range i).foldl (fun acc j => bits .or .u8 acc (bits .xor .u8 (a.getD j 0) (b.getD j 0))) 0
theorem bes (a b : List Int) (i : Nat) : diff a b (i + 1) = bits .or .u8 (diff a b i) (bits .xor .u8 (a.getD i 0) (b.getD i 0)) := by
 simp [diff, List.range_succ]
theorem bds (a b : List Int) (ha : In 256 a) (hb : In 256 b) : ∀ i, (0 ≤ diff a b i ∧ diff a b i < 256) ∧ (diff a b i = 0 ↔ ∀ j, j < i → a.getD j 0 = b.getD j 0)
 | 0 => ⟨⟨by simp [diff], by simp [diff]⟩, by simp [diff]⟩
 | i + 1 => by
  obtain ⟨h1, h2⟩ := bds a b ha hb i
  rw [bes]
  have hx := ha.getD i (by omega)
  have hy := hb.getD i (by omega)
  obtain ⟨d, hd⟩ := Int.eq_ofNat_of_zero_le h1.1
  obtain ⟨x, hx'⟩ := Int.eq_ofNat_of_zero_le hx.1
  obtain ⟨y, hy'⟩ := Int.eq_ofNat_of_zero_le hy.1
  rw [hd, hx', hy', bvn x y (by omega) (by omega), bz3 d _ (by omega) (Nat.xor_lt_two_pow (n := 8) (show x < 2 ^ 8 by omega) (show y < 2 ^ 8 by omega))]
  have hb : d ||| (x ^^^ y) < 256 := Nat.or_lt_two_pow (n := 8) (show d < 2 ^ 8 by omega) (Nat.xor_lt_two_pow (n := 8) (show x < 2 ^ 8 by omega) (show y < 2 ^ 8 by omega))
  refine ⟨⟨by omega, by omega⟩, ?_⟩
  rw [show (((d ||| (x ^^^ y) : Nat) : Int) = 0 ↔ (d ||| (x ^^^ y)) = 0) by omega, Nat.or_eq_zero_iff, xor_zero]
  constructor
  ·rintro ⟨h0, hxy⟩ j hj
   by_cases hji : j = i
   ·subst hji; rw [hx', hy', hxy]
   ·exact h2.1 (by omega) j (by omega)
  ·intro h
   refine ⟨?_, ?_⟩
   ·have := h2.2 (fun j hj => h j (by omega)); omega
   ·have := h i (by omega); rw [hx', hy'] at this; omega
theorem abz (a b : List Int) (ha : In 256 a) (hb : In 256 b) (h : a.length ≤ 140737488355328) {ρ : Type} (k : Bool → Option ρ) : P.abz a b k = k (decide (a = b)) := by
 rw [P.asq]
 unfold P.akc
 by_cases hl : a.length = b.length
 ·rw [dz (by omega), P.axv]
  unfold P.as9 P.byl P.zs12 P.b1m
  refine bmx (fun i => (a, b, diff a b i, (a.length : Int), (i : Int))) a.length (fun i hi next hn => ?_) (fun next => ?_) (Nat.zero_le _) (by omega)
  ·simp only [P.alb, toNat_cast]
   simp (disch := omega) only [aj, bq, gq, dz, d9, dh, jk, ny, um, o9]
   rw [← bes]
   exact hn
  ·simp only [P.alb]
   rw [bq (by omega)]
   congr 1
   have := (bds a b ha hb a.length).2
   by_cases hab : a = b
   ·rw [decide_eq_true hab, beq_iff_eq, this]
    subst hab; exact fun _ _ => rfl
   ·rw [decide_eq_false hab, beq_eq_false_iff_ne]
    intro h0
    refine hab (List.ext_getElem hl (fun i h1 h2 => ?_))
    have := this.1 h0 i h1
    rw [getD_lt h1, getD_lt h2] at this
    exact this
 ·rw [gq (by omega), decide_eq_false (fun e => hl (by rw [e]))]
def joined (l : List (List Int)) (i : Nat) : List Int := (l.take i).flatten
theorem anc (l : List (List Int)) (i : Nat) (h : i < l.length) : joined l (i + 1) = joined l i ++ l.getD i [] := by
 unfold joined
 rw [← ai2 l [] i h, List.flatten_append]; simp
theorem ara (l : List (List Int)) : joined l l.length = l.flatten := by unfold joined; rw [List.take_length]
theorem avq (l : List (List Int)) (i : Nat) : (joined l i).length ≤ l.flatten.length := by
 unfold joined
 have : l.flatten = (l.take i).flatten ++ (l.drop i).flatten := by rw [← List.flatten_append, List.take_append_drop]
 rw [this, List.length_append]; omega
theorem kr (l : List (List Int)) (h : l.length ≤ 140737488355328) (h2 : l.flatten.length ≤ 140737488355328) {ρ : Type} (k : List Int → Option ρ) : P.kr l k = k l.flatten := by
 rw [P.av9]
 unfold P.alx
 rw [P.ayk]
 unfold P.ax2 P.bx5 P.bus P.b1d
 refine bmx (fun i => (l, (i : Int), joined l i)) l.length (fun i hi next hn => ?_) (fun next => ?_) (Nat.zero_le _) (by omega)
 ·have e := anc l i hi
  have h3 := avq l (i + 1)
  rw [e, List.length_append] at h3
  simp only [P.anf, toNat_cast]
  simp (disch := omega) only [aj, bq, gq, dz, d9, dh, jk, ny, um, o9]
  rw [← e]
  exact hn
 ·simp only [P.anf]
  rw [bq (by omega), ara]
theorem nu (n : Nat) (h : n ≤ 140737488355328) {ρ : Type} (k : List Int → Option ρ) : P.nu (n : Int) k = k [] := by
 rw [P.agm]
 unfold P.acu
 rw [bq (by omega), show IntKind.i64.wrap ((0 : Int) - (0 : Int)) = 0 by decide]
 rw [o9 (by omega) (by omega)]
 by_cases h0 : n = 0
 ·subst h0; rw [bq (by omega)]
 ·rw [aj (by omega), aj (by omega), aj (by omega)]; rfl
theorem iy (l : List (List Int)) (h : l.length ≤ 140737488355328) (h2 : l.flatten.length ≤ 140737488355328) {ρ : Type} (k : List Int → Option ρ) : P.iy l k = k l.flatten := by
 rw [P.afh]
 unfold P.aa3
 rw [P.ai7]
 unfold P.afc P.zk8 P.zs8 P.zu8
 refine bmx (fun i => (l, ((joined l i).length : Int), l, (l.length : Int), (i : Int))) l.length (fun i hi next hn => ?_) (fun next => ?_) (Nat.zero_le _) (by omega)
 ·have e := anc l i hi
  have h3 := avq l (i + 1)
  have e2 : ((joined l i).length : Int) + ((l.getD i []).length : Int) = ((joined l (i + 1)).length : Int) := by rw [e, List.length_append]; omega
  simp only [P.abo, toNat_cast, e2]
  simp (disch := omega) only [aj, bq, gq, dz, d9, dh, jk, ny, um, o9]
  exact hn
 ·simp only [P.abo]
  rw [bq (by omega), ara, nu _ h2, P.ah7]
  unfold P.aed P.zk9 P.zs9 P.zu9
  refine bmx (fun i => (l, (l.length : Int), (i : Int), joined l i)) l.length (fun i hi next hn => ?_) (fun next => ?_) (Nat.zero_le _) (by omega)
  ·have e := anc l i hi
   have h3 := avq l (i + 1)
   rw [e, List.length_append] at h3
   simp only [P.aa0, toNat_cast]
   simp (disch := omega) only [aj, bq, gq, dz, d9, dh, jk, ny, um, o9]
   rw [← e]
   exact hn
  ·simp only [P.aa0]
   rw [bq (by omega), ara]
theorem fq (l : List (List Int)) (h : l.length ≤ 140737488355328) (h2 : l.flatten.length ≤ 140737488355328) {ρ : Type} (k : List Int → Option ρ) : P.fq l k = k l.flatten := by
 rw [P.atr]
 unfold P.akd
 exact iy l h h2 k
end Q
end

section
/- lmots: digits. -/
namespace Q
open Go Go.Abs
set_option linter.unusedVariables false
set_option linter.unusedSimpArgs false
theorem gy (N s : Nat) (hN : N < 18446744073709551616) (hs : s ≤ 65536) {ρ : Type} (k : List Int → Option ρ) : P.gy (N : Int) (s : Int) k = k (bsw 8 s N).reverse := by
 rw [P.bda]
 unfold P.ar1
 simp only [toNat_cast]
 simp (disch := omega) only [aj, bq, gq, dz, d9, dh, jk, ny, um, o9]
 rw [P.bd5]
 unfold P.bd0 P.byj P.bwk P.b4m
 refine qy (fun j => (((N / 2 ^ (8 * j) : Nat) : Int), (s : Int) - 1 - (j : Int), List.replicate (s - j) 0 ++ (bsw 8 j N).reverse)) s (by simp [bsw]) (fun j hj next hn' => ?_) (fun next => ?_) (by omega)
 ·simp only [P.awj, List.length_append, List.length_replicate, List.length_reverse, ab1]
  rw [show (s : Int) - 1 - (j : Int) = ((s - 1 - j : Nat) : Int) by omega]
  simp only [toNat_cast]
  have hd := Nat.div_le_self N (2 ^ (8 * j))
  have hb : bits .and .u64 ((N / 2 ^ (8 * j) : Nat) : Int) 255 = ((N / 2 ^ (8 * j) % 2 ^ 8 : Nat) : Int) := by
   rw [show (255 : Int) = ((2 ^ 8 - 1 : Nat) : Int) from rfl, avk _ _ (by omega) (by omega), Nat.and_two_pow_sub_one_eq_mod]
  have hd2 : (((N / 2 ^ (8 * j) : Nat) : Int)).fdiv ((2 : Int) ^ 8) = ((N / 2 ^ (8 * (j + 1)) : Nat) : Int) := by
   rw [show ((2 : Int) ^ 8) = (2 : Int) ^ min 8 8 from rfl, fdiv_pow _ 8 8 (by omega), Nat.div_div_eq_div_mul, ← Nat.pow_add, Nat.mul_succ]
  rw [hb, hd2, u8n _ (by omega)]
  rw [bim, List.reverse_append, List.reverse_singleton, List.singleton_append] at hn'
  have hset : (List.replicate (s - j) (0 : Int) ++ (bsw 8 j N).reverse).set (s - 1 - j) ((N / 2 ^ (8 * j) % 2 ^ 8 : Nat) : Int) = List.replicate (s - (j + 1)) 0 ++ ((N / 2 ^ (8 * j) % 2 ^ 8 : Nat) : Int) :: (bsw 8 j N).reverse := by
   rw [show s - j = (s - (j + 1)) + 1 by omega, List.replicate_succ', List.append_assoc, List.set_append_right _ _ (by simp; omega), List.length_replicate, show s - 1 - j - (s - (j + 1)) = 0 by omega]
   rfl
  rw [hset]
  simp (disch := omega) only [aj, bq, gq, dz, d9, dh, jk, ny, um, o9]
  rw [show ((s - 1 - j : Nat) : Int) - 1 = (s : Int) - 1 - ((j + 1 : Nat) : Int) by omega]
  exact hn'
 ·simp only [P.awj]
  rw [bq (by omega), Nat.sub_self]; rfl
def Kind (w p s : Nat) : Prop := (w = 1 ∧ p = 265 ∧ s = 7) ∨ (w = 2 ∧ p = 133 ∧ s = 6) ∨ (w = 4 ∧ p = 67 ∧ s = 4) ∨ (w = 8 ∧ p = 34 ∧ s = 0)
def sumTo (D : List Int) : Nat → Nat
 | 0 => 0
 | i + 1 => sumTo D i + (D.getD i 0).toNat
theorem sumTo_le (D : List Int) (w : Nat) (h : In (2 ^ w) D) : ∀ i, sumTo D i ≤ i * (2 ^ w - 1)
 | 0 => by simp [sumTo]
 | i + 1 => by
  have ih := sumTo_le D w h i
  have hp : ((2 : Int) ^ w) = ((2 ^ w : Nat) : Int) := by simp
  have := h.getD i (by rw [hp]; have := p2 w; omega)
  rw [hp] at this
  rw [Nat.succ_mul]; simp only [sumTo]; omega
theorem apj (b : List Int) (w c : Int) : In (2 ^ w.toNat) (ru b w c) := by
 unfold ru
 split
 ·refine In.map (fun i _ => ⟨Int.natCast_nonneg _, ?_⟩)
  have := Nat.mod_lt (T 8 b.reverse / 2 ^ (8 * b.length - w.toNat * (i + 1))) (p2 w.toNat)
  have hp : ((2 : Int) ^ w.toNat) = ((2 ^ w.toNat : Nat) : Int) := by simp
  rw [hp]; unfold dg; omega
 ·exact In.nil
def left (w s : Nat) (b : List Int) : Nat := ((256 / w) * (2 ^ w - 1) - sumTo (ru b w ((256 / w : Nat) : Int)) (256 / w)) * 2 ^ s
def btj (w p s : Nat) (b : List Int) : List Int := ru (b ++ (bsw 8 2 (left w s b)).reverse) w p
theorem aem {w p s : Nat} (h : Kind w p s) : 1 ≤ w ∧ w ≤ 8 ∧ (256 / w) * w = 256 ∧ 256 / w ≤ p ∧ w * p = 272 - s ∧ s ≤ 7 ∧ (256 / w) * (2 ^ w - 1) * 2 ^ s < 65536 ∧ p ≤ 265 ∧ 2 ^ w ≤ 256 ∧ 2 ^ s ≤ 128 ∧ (256 / w) * (2 ^ w - 1) < 65536 := by
 rcases h with ⟨rfl, rfl, rfl⟩ | ⟨rfl, rfl, rfl⟩ | ⟨rfl, rfl, rfl⟩ | ⟨rfl, rfl, rfl⟩ <;> decide
theorem bng {w p s : Nat} (h : Kind w p s) (b : List Int) : left w s b < 65536 := by
 have f := aem h
 unfold left
 have : ((256 / w) * (2 ^ w - 1) - sumTo (ru b w ((256 / w : Nat) : Int)) (256 / w)) * 2 ^ s ≤ (256 / w) * (2 ^ w - 1) * 2 ^ s := Nat.mul_le_mul (by omega) (Nat.le_refl _)
 omega
theorem aen (b : List Int) (w c : Nat) (h1 : 1 ≤ w) (h2 : w ≤ 24) (h : c * w ≤ b.length * 8) : ru b (w : Int) (c : Int) = (List.range c).map (dg w b.length (T 8 b.reverse)) := by
 unfold ru
 rw [if_pos (by refine ⟨by omega, by omega, by omega, ?_⟩; rw [← Int.natCast_mul]; omega)]
 simp only [toNat_cast]
theorem bjp {w p s : Nat} (hk : Kind w p s) (b e : List Int) (hb : b.length = 32) (he : e.length = 2) :
    ru (b ++ e) w p = ru b w ((256 / w : Nat) : Int) ++ ru e w ((p - 256 / w : Nat) : Int) := by
 obtain ⟨f1, f2, f3, f4, f5, f6, f7, f8, f9, f10, f11⟩ := aem hk
 have hpw : p * w = 272 - s := by rw [Nat.mul_comm]; exact f5
 rw [aen _ w p f1 (by omega) (by rw [List.length_append]; omega), aen _ w _ f1 (by omega) (by omega), aen _ w _ f1 (by omega) (by rw [Nat.sub_mul]; omega)]
 rw [show p = 256 / w + (p - 256 / w) by omega, List.range_add, List.map_append, List.map_map, show 256 / w + (p - 256 / w) - 256 / w = p - 256 / w by omega]
 have hT : T 8 (b ++ e).reverse = T 8 e.reverse + 2 ^ 16 * T 8 b.reverse := by
  rw [List.reverse_append, bbc, List.length_reverse, he]
 have hlt := bsm 8 e.reverse
 rw [List.length_reverse, he] at hlt
 congr 1
 ·refine List.map_congr_left (fun i hi => ?_)
  have hi := List.mem_range.1 hi
  have : w * (i + 1) ≤ w * (256 / w) := Nat.mul_le_mul (Nat.le_refl _) hi
  rw [Nat.mul_comm w (256 / w), f3] at this
  unfold dg
  rw [hT, List.length_append, hb, he, show 8 * (32 + 2) - w * (i + 1) = 16 + (8 * 32 - w * (i + 1)) by omega, Nat.pow_add, ← Nat.div_div_eq_div_mul, Nat.add_mul_div_left _ _ (p2 _), Nat.div_eq_of_lt hlt, Nat.zero_add]
 ·refine List.map_congr_left (fun j hj => ?_)
  have hj := List.mem_range.1 hj
  have h3 : w * (256 / w + (j + 1)) ≤ w * p := Nat.mul_le_mul (Nat.le_refl _) (by omega)
  rw [Nat.mul_add, Nat.mul_comm w (256 / w), f3] at h3
  simp only [Function.comp]
  unfold dg
  rw [hT, List.length_append, hb, he, Nat.add_assoc, Nat.mul_add w (256 / w) (j + 1), Nat.mul_comm w (256 / w), f3, show 8 * (32 + 2) - (256 + w * (j + 1)) = 8 * 2 - w * (j + 1) by omega]
  congr 1
  rw [← awt (T 8 e.reverse + 2 ^ 16 * T 8 b.reverse) (8 * 2 - w * (j + 1)) w 16 (by have h4 : w * (j + 1) = w * j + w := Nat.mul_succ w j; omega), Nat.add_mul_mod_self_left, Nat.mod_eq_of_lt hlt]
end Q
end
