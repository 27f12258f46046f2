/-
  LeaseNear, part 18: an interpreter of my own over abstract values, the pure functions, the walks and the plain law.
-/

import Derived.Test.YtkfjafaabbmapaaDoorLeaseNearH
import Derived.Laws.Bits64
import Derived.Test.YtkfjafaabbmapaaDoorLeaseNearK
import Derived.Test.YtkfjafaabbmapaaDoorLeaseNearJ
import Derived.Test.YtkfjafaabbmapaaDoorLeaseNearL
import Derived.Test.YtkfjafaabbmapaaDoorLeaseNearI

section
/- Small laws for the plain proofs. -/
namespace Q
open Go Go.Abs
set_option linter.unusedVariables false
def In (m : Int) (l : List Int) : Prop := ∀ x, x ∈ l → 0 ≤ x ∧ x < m
theorem wf_u8 {n : Int} (h : wfI .u8 n) : 0 ≤ n ∧ n < 256 := by
 simp [wfI, Lit.wf, IntKind.min, IntKind.max, IntKind.signed, IntKind.bits] at h; omega
theorem wf_u64 {n : Int} (h : wfI .u64 n) : 0 ≤ n ∧ n < 18446744073709551616 := by
 simp [wfI, Lit.wf, IntKind.min, IntKind.max, IntKind.signed, IntKind.bits] at h; omega
theorem bnj {l : List Int} (h : ∀ x, x ∈ l → wfI .u8 x) : In 256 l := fun x hx => wf_u8 (h x hx)
theorem In.tail {m x : Int} {l : List Int} (h : In m (x :: l)) : In m l := fun y hy => h y (List.mem_cons_of_mem _ hy)
theorem In.app {m : Int} {l r : List Int} (h1 : In m l) (h2 : In m r) : In m (l ++ r) := fun y hy => (List.mem_append.1 hy).elim (h1 y) (h2 y)
theorem In.left {m : Int} {l r : List Int} (h : In m (l ++ r)) : In m l := fun y hy => h y (List.mem_append_left _ hy)
theorem In.right {m : Int} {l r : List Int} (h : In m (l ++ r)) : In m r := fun y hy => h y (List.mem_append_right _ hy)
theorem In.take {m : Int} {l : List Int} (h : In m l) (n : Nat) : In m (l.take n) := fun y hy => h y (List.mem_of_mem_take hy)
theorem In.drop {m : Int} {l : List Int} (h : In m l) (n : Nat) : In m (l.drop n) := fun y hy => h y (List.mem_of_mem_drop hy)
theorem In.nil {m : Int} : In m [] := fun y hy => by simp at hy
theorem In.rev {m : Int} {l : List Int} (h : In m l) : In m l.reverse := fun y hy => h y (by simpa using hy)
theorem In.getD {m : Int} {l : List Int} (h : In m l) (i : Nat) (hm : 0 < m) : 0 ≤ l.getD i 0 ∧ l.getD i 0 < m := by
 rw [List.getD_eq_getElem?_getD]
 by_cases hi : i < l.length
 ·rw [List.getElem?_eq_getElem hi]; exact h _ (List.getElem_mem hi)
 ·rw [List.getElem?_eq_none (by omega)]; exact ⟨Int.le_refl 0, hm⟩
theorem In.map {m : Int} {α : Type} {l : List α} {f : α → Int} (h : ∀ a, a ∈ l → 0 ≤ f a ∧ f a < m) : In m (l.map f) := fun y hy => by
 obtain ⟨a, ha, rfl⟩ := List.mem_map.1 hy
 exact h a ha
theorem iw {α : Type} {a b : Int} (h : ¬ a = b) (x y : α) : br (a != b) x y = x := by rw [bne_iff_ne.2 h]; exact vk x y
theorem ig {α : Type} {a b : Int} (h : a = b) (x y : α) : br (a != b) x y = y := by rw [bne_eq_false_iff_eq.2 h]; exact o8 x y
theorem d9 {α : Type} {a b : Int} (h : a = b) (x y : α) : br (a == b) x y = x := by rw [beq_iff_eq.2 h]; exact vk x y
theorem fq {α : Type} {a b : Int} (h : ¬ a = b) (x y : α) : br (a == b) x y = y := by rw [beq_eq_false_iff_ne.2 h]; exact o8 x y
theorem tu {α : Type} (b : Bool) (x y : α) : br (!b) x y = br b y x := by cases b <;> simp
theorem bbs {X Y ρ : Type} {stp : X → (X → Option ρ) → (Y → Option ρ) → Option ρ} {K : Y → Option ρ} {r : Option ρ} (S : Nat → X) (n : Nat)
    (hstep : ∀ i, i < n → ∀ next, next (S (i + 1)) = r → stp (S i) next K = r) (hend : ∀ next, stp (S n) next K = r) {i : Nat} (hi : i ≤ n) (hn : n ≤ 18446744073709551616) : lp stp (S i) K = r := by
 have key : ∀ m i, m + i = n → lpN stp K m (S i) = r ∧ ∀ q, m ≤ q → lpN stp K q (S i) = r := by
  intro m
  induction m with
  | zero =>
   intro i hi
   have : i = n := by omega
   subst this
   refine ⟨hend _, fun q _ => ?_⟩
   cases q with
   | zero => exact hend _
   | succ q => exact hend _
  | succ m ih =>
   intro i hi
   refine ⟨hstep i (by omega) _ (ih (i + 1) (by omega)).1, fun q hq => ?_⟩
   cases q with
   | zero => omega
   | succ q => exact hstep i (by omega) _ ((ih (i + 1) (by omega)).2 q (by omega))
 exact (key (n - i) i (by omega)).2 FU (by rw [bir]; omega)
theorem getD_lt {α : Type} {l : List α} {d : α} {i : Nat} (h : i < l.length) : l.getD i d = l[i] := by
 rw [List.getD_eq_getElem?_getD, List.getElem?_eq_getElem h]; rfl
theorem bgq {α : Type} {l : List α} {d : α} {i : Nat} (h : l.length ≤ i) : l.getD i d = d := by
 rw [List.getD_eq_getElem?_getD, List.getElem?_eq_none h]; rfl
theorem toNat_cast (n : Nat) : ((n : Int)).toNat = n := Int.toNat_natCast n
theorem aju {α : Type} (l : List α) (d : α) (i : Nat) (h : i < l.length) : l.take i ++ [l.getD i d] = l.take (i + 1) := by
 rw [getD_lt h, List.take_add_one, List.getElem?_eq_getElem h]; rfl
theorem aer {α : Type} (l : List α) (d : α) (i : Nat) (h : i < l.length) : l.drop i = l.getD i d :: l.drop (i + 1) := by
 rw [getD_lt h]; exact List.drop_eq_getElem_cons h
end Q
end

section
/- The bit operations as numbers. -/
namespace Q
open Go Go.Abs
set_option linter.unusedVariables false
theorem bma (x y : Nat) (hx : x < 256) (hy : y < 256) : bits .or .u8 (x : Int) (y : Int) = ((x ||| y : Nat) : Int) := by
 have h1 : x ||| y < 256 := Nat.or_lt_two_pow (n := 8) hx hy
 have e : bits .or .u8 (x : Int) (y : Int) = IntKind.u8.wrap ((BitVec.ofInt 8 (x : Int) ||| BitVec.ofInt 8 (y : Int)).toNat : Int) := rfl
 have e2 : (BitVec.ofInt 8 (x : Int) ||| BitVec.ofInt 8 (y : Int)).toNat = x ||| y := by
  rw [BitVec.toNat_or, BitVec.toNat_ofInt, BitVec.toNat_ofInt]; congr 1 <;> omega
 rw [e, e2]; exact IntWalk.u8_in _ ⟨by omega, by omega⟩
theorem bje (x y : Nat) (hx : x < 256) (hy : y < 256) : bits .xor .u8 (x : Int) (y : Int) = ((x ^^^ y : Nat) : Int) := by
 have h1 : x ^^^ y < 256 := Nat.xor_lt_two_pow (n := 8) hx hy
 have e : bits .xor .u8 (x : Int) (y : Int) = IntKind.u8.wrap ((BitVec.ofInt 8 (x : Int) ^^^ BitVec.ofInt 8 (y : Int)).toNat : Int) := rfl
 have e2 : (BitVec.ofInt 8 (x : Int) ^^^ BitVec.ofInt 8 (y : Int)).toNat = x ^^^ y := by
  rw [BitVec.toNat_xor, BitVec.toNat_ofInt, BitVec.toNat_ofInt]; congr 1 <;> omega
 rw [e, e2]; exact IntWalk.u8_in _ ⟨by omega, by omega⟩
theorem be9 (x y : Nat) (hx : x < 18446744073709551616) (hy : y < 18446744073709551616) : bits .or .u64 (x : Int) (y : Int) = ((x ||| y : Nat) : Int) := by
 have h1 : x ||| y < 18446744073709551616 := Nat.or_lt_two_pow (n := 64) hx hy
 have e : bits .or .u64 (x : Int) (y : Int) = IntKind.u64.wrap ((BitVec.ofInt 64 (x : Int) ||| BitVec.ofInt 64 (y : Int)).toNat : Int) := rfl
 have e2 : (BitVec.ofInt 64 (x : Int) ||| BitVec.ofInt 64 (y : Int)).toNat = x ||| y := by
  rw [BitVec.toNat_or, BitVec.toNat_ofInt, BitVec.toNat_ofInt]; congr 1 <;> omega
 rw [e, e2]; exact IntWalk.u64_in _ ⟨by omega, by omega⟩
theorem ar8 (x y : Nat) (hx : x < 18446744073709551616) (hy : y < 18446744073709551616) : bits .and .u64 (x : Int) (y : Int) = ((x &&& y : Nat) : Int) := by
 have h1 : x &&& y < 18446744073709551616 := Nat.and_lt_two_pow (n := 64) x hy
 have e : bits .and .u64 (x : Int) (y : Int) = IntKind.u64.wrap ((BitVec.ofInt 64 (x : Int) &&& BitVec.ofInt 64 (y : Int)).toNat : Int) := rfl
 have e2 : (BitVec.ofInt 64 (x : Int) &&& BitVec.ofInt 64 (y : Int)).toNat = x &&& y := by
  rw [BitVec.toNat_and, BitVec.toNat_ofInt, BitVec.toNat_ofInt]; congr 1 <;> omega
 rw [e, e2]; exact IntWalk.u64_in _ ⟨by omega, by omega⟩
theorem u8m (n : Int) : IntKind.u8.wrap n = n % 256 := by simp [IntKind.wrap, IntKind.bits, IntKind.signed]
theorem biq (n : Int) : IntKind.u32.wrap n = n % 4294967296 := by simp [IntKind.wrap, IntKind.bits, IntKind.signed]
theorem bdv (n : Int) : IntKind.u64.wrap n = n % 18446744073709551616 := by simp [IntKind.wrap, IntKind.bits, IntKind.signed]
theorem xor_zero {x y : Nat} : x ^^^ y = 0 ↔ x = y := by
 constructor
 ·intro h
  have : (x ^^^ y) ^^^ y = x := by rw [Nat.xor_assoc, Nat.xor_self, Nat.xor_zero]
  rw [h, Nat.zero_xor] at this
  exact this.symm
 ·rintro rfl; exact Nat.xor_self _
theorem bdx (a x i : Nat) (hx : x < 2 ^ i) : (a * 2 ^ i) ||| x = a * 2 ^ i + x := by
 rw [← Nat.shiftLeft_eq, Nat.shiftLeft_add_eq_or_of_lt hx]
end Q
end

section
/- Numbers and their digits, the lowest first. -/
namespace Q
open Go Go.Abs
set_option linter.unusedVariables false
def T (w : Nat) : List Int → Nat
 | [] => 0
 | x :: l => x.toNat % 2 ^ w + 2 ^ w * T w l
theorem p2 (n : Nat) : 0 < 2 ^ n := Nat.pow_pos (by omega)
theorem bkp (w : Nat) : ∀ l : List Int, T w l < 2 ^ (w * l.length)
 | [] => by simp [T]
 | x :: l => by
  have ih := bkp w l
  have h1 := Nat.mod_lt x.toNat (p2 w)
  rw [List.length_cons, Nat.mul_succ, Nat.add_comm, Nat.pow_add]
  simp only [T]
  have : 2 ^ w * (T w l + 1) ≤ 2 ^ w * 2 ^ (w * l.length) := Nat.mul_le_mul (Nat.le_refl _) ih
  rw [Nat.mul_add] at this
  omega
theorem as1 (w : Nat) : ∀ a b : List Int, T w (a ++ b) = T w a + 2 ^ (w * a.length) * T w b
 | [], b => by simp [T]
 | x :: a, b => by
  rw [List.cons_append, T, T, as1 w a b, List.length_cons, Nat.mul_succ, Nat.add_comm (w * a.length) w, Nat.pow_add, Nat.mul_add, Nat.mul_assoc]
  omega
theorem bkk (w : Nat) (l : List Int) (k : Nat) (h : k ≤ l.length) : T w l = T w (l.take k) + 2 ^ (w * k) * T w (l.drop k) := by
 have := as1 w (l.take k) (l.drop k)
 rw [List.take_append_drop, List.length_take, Nat.min_eq_left h] at this
 exact this
theorem ay1 (w : Nat) (l : List Int) (k : Nat) (h : k ≤ l.length) : T w (l.drop k) = T w l / 2 ^ (w * k) := by
 have := bkp w (l.take k)
 rw [List.length_take, Nat.min_eq_left h] at this
 rw [bkk w l k h, Nat.add_mul_div_left _ _ (p2 _), Nat.div_eq_of_lt this, Nat.zero_add]
theorem bik (w : Nat) (l : List Int) (k : Nat) : T w l / 2 ^ (w * k) % 2 ^ w = (l.getD k 0).toNat % 2 ^ w := by
 by_cases h : k < l.length
 ·rw [← ay1 w l k (by omega), aer l 0 k h, T, Nat.add_mul_mod_self_left, Nat.mod_mod]
 ·rw [bgq (by omega), Nat.div_eq_of_lt]
  ·rfl
  ·exact Nat.lt_of_lt_of_le (bkp w l) (Nat.pow_le_pow_right (by omega) (Nat.mul_le_mul (Nat.le_refl _) (by omega)))
theorem y5 {X Y ρ : Type} {stp : X → (X → Option ρ) → (Y → Option ρ) → Option ρ} {K : Y → Option ρ} {r : Option ρ} (S : Nat → X) (n : Nat) {x : X} (hx : x = S 0)
    (hstep : ∀ i, i < n → ∀ next, next (S (i + 1)) = r → stp (S i) next K = r) (hend : ∀ next, stp (S n) next K = r) (hn : n ≤ 18446744073709551616) : lp stp x K = r := by
 rw [hx]; exact bbs S n hstep hend (Nat.zero_le _) hn
def bsw (w n X : Nat) : List Int := (List.range n).map fun i => ((X / 2 ^ (w * i) % 2 ^ w : Nat) : Int)
@[simp] theorem y8 (w n X : Nat) : (bsw w n X).length = n := by simp [bsw]
theorem asu (w n X i : Nat) (h : i < n) : (bsw w n X).getD i 0 = ((X / 2 ^ (w * i) % 2 ^ w : Nat) : Int) := by
 rw [getD_lt (by simpa using h)]; simp [bsw]
theorem ash (w n X : Nat) : bsw w (n + 1) X = bsw w n X ++ [((X / 2 ^ (w * n) % 2 ^ w : Nat) : Int)] := by simp [bsw, List.range_succ]
theorem azn (w n X : Nat) : In (2 ^ w) (bsw w n X) := by
 refine In.map (fun i _ => ⟨Int.natCast_nonneg _, ?_⟩)
 have := Nat.mod_lt (X / 2 ^ (w * i)) (p2 w)
 have e : ((2 : Int) ^ w) = ((2 ^ w : Nat) : Int) := by simp
 rw [e]; omega
theorem bjp (w X : Nat) : ∀ n, T w (bsw w n X) = X % 2 ^ (w * n)
 | 0 => by simp [bsw, T, Nat.mod_one]
 | n + 1 => by
  rw [ash, as1, bjp w X n, y8, Nat.mul_succ, Nat.pow_add, Nat.mod_mul]
  simp only [T, Int.toNat_natCast, Nat.mod_mod, Nat.mul_zero, Nat.add_zero]
theorem bmx (w : Nat) (l : List Int) (h : In (2 ^ w) l) : bsw w l.length (T w l) = l := by
 refine List.ext_getElem (by simp) (fun i h1 h2 => ?_)
 have h3 := h.getD i (by exact_mod_cast p2 w)
 rw [getD_lt h2] at h3
 have e : ((2 : Int) ^ w) = ((2 ^ w : Nat) : Int) := by simp
 rw [← getD_lt (d := 0) h1, asu _ _ _ _ h2, bik, getD_lt h2, Nat.mod_eq_of_lt (by omega)]
 omega
theorem bgp (w n X m : Nat) (h : w * n ≤ m) : bsw w n (X % 2 ^ m) = bsw w n X := by
 unfold bsw
 refine List.map_congr_left (fun i hi => ?_)
 have hi := List.mem_range.1 hi
 have h1 : w * i + w ≤ m := by
  have : w * (i + 1) ≤ w * n := Nat.mul_le_mul (Nat.le_refl _) hi
  rw [Nat.mul_succ] at this; omega
 have e : (2 : Nat) ^ m = 2 ^ (w * i) * (2 ^ w * 2 ^ (m - (w * i + w))) := by rw [← Nat.pow_add, ← Nat.pow_add]; congr 1; omega
 rw [e, Nat.mod_mul_right_div_self, Nat.mod_mul_right_mod]
end Q
end

section
/- bits: Unpack. -/
namespace Q
open Go Go.Abs
set_option linter.unusedVariables false
set_option linter.unusedSimpArgs false
def Such (n : Nat) (w c : Int) : Prop := 1 ≤ w ∧ w ≤ 24 ∧ 0 ≤ c ∧ c * w ≤ n * 8
instance (n : Nat) (w c : Int) : Decidable (Such n w c) := inferInstanceAs (Decidable (_ ∧ _))
theorem fdiv_pow (a n m : Nat) (h : n ≤ m) : (a : Int).fdiv ((2 : Int) ^ min n m) = ((a / 2 ^ n : Nat) : Int) := by
 rw [Nat.min_eq_left h, show ((2 : Int) ^ n) = ((2 ^ n : Nat) : Int) by simp, ← Int.ofNat_fdiv]
theorem mul_pow (a n m : Nat) (h : n ≤ m) : (a : Int) * ((2 : Int) ^ min n m) = ((a * 2 ^ n : Nat) : Int) := by
 rw [Nat.min_eq_left h, show ((2 : Int) ^ n) = ((2 ^ n : Nat) : Int) by simp, ← Int.natCast_mul]
theorem ajj (a : Nat) (h : a < 18446744073709551616) : IntKind.u64.wrap (a : Int) = (a : Int) := by rw [bdv]; omega
theorem bon (a : Nat) (h : a < 4294967296) : IntKind.u32.wrap (a : Int) = (a : Int) := by rw [biq]; omega
theorem u8n (a : Nat) (h : a < 256) : IntKind.u8.wrap (a : Int) = (a : Int) := by rw [u8m]; omega
theorem bjs {a b : Nat} (h : a ≤ b) : 2 ^ a ≤ 2 ^ b := Nat.pow_le_pow_right (by omega) h
theorem byte_at {b : List Int} (hb : In 256 b) (t : Nat) : ∃ x : Nat, b.getD t 0 = (x : Int) ∧ x < 256 ∧ x = (b.getD t 0).toNat % 2 ^ 8 := by
 have := hb.getD t (by omega)
 exact ⟨(b.getD t 0).toNat, by omega, by omega, by omega⟩
end Q
end

section
/- Words of 32 and of 64 bits. -/
namespace Q
open Go Go.Abs
set_option linter.unusedVariables false
set_option linter.unusedSimpArgs false
theorem ofI {w : Nat} (x : BitVec w) : BitVec.ofInt w (x.toNat : Int) = x := by simp
theorem amz (x : BitVec 32) : x.toNat < 4294967296 := x.isLt
theorem bgx (x : BitVec 64) : x.toNat < 18446744073709551616 := x.isLt
theorem asx (x y : BitVec 32) : bits .xor .u32 (x.toNat : Int) (y.toNat : Int) = ((x ^^^ y).toNat : Int) := by
 have e : bits .xor .u32 (x.toNat : Int) (y.toNat : Int) = IntKind.u32.wrap ((BitVec.ofInt 32 (x.toNat : Int) ^^^ BitVec.ofInt 32 (y.toNat : Int)).toNat : Int) := rfl
 rw [e, ofI, ofI, bon _ (amz _)]
theorem bm9 (x y : BitVec 32) : bits .and .u32 (x.toNat : Int) (y.toNat : Int) = ((x &&& y).toNat : Int) := by
 have e : bits .and .u32 (x.toNat : Int) (y.toNat : Int) = IntKind.u32.wrap ((BitVec.ofInt 32 (x.toNat : Int) &&& BitVec.ofInt 32 (y.toNat : Int)).toNat : Int) := rfl
 rw [e, ofI, ofI, bon _ (amz _)]
theorem bqb (x y : BitVec 32) : bits .or .u32 (x.toNat : Int) (y.toNat : Int) = ((x ||| y).toNat : Int) := by
 have e : bits .or .u32 (x.toNat : Int) (y.toNat : Int) = IntKind.u32.wrap ((BitVec.ofInt 32 (x.toNat : Int) ||| BitVec.ofInt 32 (y.toNat : Int)).toNat : Int) := rfl
 rw [e, ofI, ofI, bon _ (amz _)]
theorem add32 (x y : BitVec 32) : IntKind.u32.wrap ((x.toNat : Int) + (y.toNat : Int)) = ((x + y).toNat : Int) := by
 rw [biq, BitVec.toNat_add]; omega
theorem agz (x y : BitVec 64) : bits .xor .u64 (x.toNat : Int) (y.toNat : Int) = ((x ^^^ y).toNat : Int) := by
 have e : bits .xor .u64 (x.toNat : Int) (y.toNat : Int) = IntKind.u64.wrap ((BitVec.ofInt 64 (x.toNat : Int) ^^^ BitVec.ofInt 64 (y.toNat : Int)).toNat : Int) := rfl
 rw [e, ofI, ofI, ajj _ (bgx _)]
theorem ay8 (x y : BitVec 64) : bits .and .u64 (x.toNat : Int) (y.toNat : Int) = ((x &&& y).toNat : Int) := by
 have e : bits .and .u64 (x.toNat : Int) (y.toNat : Int) = IntKind.u64.wrap ((BitVec.ofInt 64 (x.toNat : Int) &&& BitVec.ofInt 64 (y.toNat : Int)).toNat : Int) := rfl
 rw [e, ofI, ofI, ajj _ (bgx _)]
theorem bnp (x y : BitVec 64) : bits .or .u64 (x.toNat : Int) (y.toNat : Int) = ((x ||| y).toNat : Int) := by
 have e : bits .or .u64 (x.toNat : Int) (y.toNat : Int) = IntKind.u64.wrap ((BitVec.ofInt 64 (x.toNat : Int) ||| BitVec.ofInt 64 (y.toNat : Int)).toNat : Int) := rfl
 rw [e, ofI, ofI, ajj _ (bgx _)]
theorem agx (x y : BitVec 64) : IntKind.u64.wrap ((x.toNat : Int) + (y.toNat : Int)) = ((x + y).toNat : Int) := by
 rw [bdv, BitVec.toNat_add]; omega
theorem bfh (x y : Nat) (hx : x < 18446744073709551616) (hy : y < 18446744073709551616) : bits .xor .u64 (x : Int) (y : Int) = ((x ^^^ y : Nat) : Int) := by
 have := agz (BitVec.ofNat 64 x) (BitVec.ofNat 64 y)
 rw [BitVec.toNat_xor, BitVec.toNat_ofNat, BitVec.toNat_ofNat, Nat.mod_eq_of_lt (by omega), Nat.mod_eq_of_lt (by omega)] at this
 exact this
/- words of 32 bits as numbers of 64 -/
theorem nlt (x : BitVec 32) : x.toNat < 18446744073709551616 := by have := amz x; omega
theorem be2 (x y : BitVec 32) : bits .xor .u64 (x.toNat : Int) (y.toNat : Int) = ((x ^^^ y).toNat : Int) := by rw [bfh _ _ (nlt x) (nlt y), BitVec.toNat_xor]
theorem nand (x y : BitVec 32) : bits .and .u64 (x.toNat : Int) (y.toNat : Int) = ((x &&& y).toNat : Int) := by rw [ar8 _ _ (nlt x) (nlt y), BitVec.toNat_and]
theorem nor (x y : BitVec 32) : bits .or .u64 (x.toNat : Int) (y.toNat : Int) = ((x ||| y).toNat : Int) := by rw [be9 _ _ (nlt x) (nlt y), BitVec.toNat_or]
theorem bch (n : Nat) (h : n < 18446744073709551616) : bits .and .u64 (n : Int) 4294967295 = ((n % 4294967296 : Nat) : Int) := by
 rw [show (4294967295 : Int) = ((2 ^ 32 - 1 : Nat) : Int) from rfl, ar8 _ _ h (by omega), Nat.and_two_pow_sub_one_eq_mod]
theorem bd6 (n : Nat) (h : n < 18446744073709551616) : bits .and .u64 (n : Int) 18446744073709551615 = (n : Int) := by
 rw [show (18446744073709551615 : Int) = ((2 ^ 64 - 1 : Nat) : Int) from rfl, ar8 _ _ h (by omega), Nat.and_two_pow_sub_one_eq_mod, Nat.mod_eq_of_lt (by omega)]
def rr {w : Nat} (x : BitVec w) (n : Nat) : BitVec w := (x >>> n) ||| (x <<< (w - n))
theorem aoi {w : Nat} (x : BitVec w) (n : Nat) : (x >>> n).toNat = x.toNat / 2 ^ n := by rw [BitVec.toNat_ushiftRight, Nat.shiftRight_eq_div_pow]
theorem an6 {w : Nat} (x : BitVec w) (n : Nat) : (x <<< n).toNat = x.toNat * 2 ^ n % 2 ^ w := by rw [BitVec.toNat_shiftLeft, Nat.shiftLeft_eq]
theorem bgr (x : BitVec 32) (n : Nat) (h : n ≤ 32) : (x.toNat : Int).fdiv ((2 : Int) ^ min n 32) = ((x >>> n).toNat : Int) := by rw [fdiv_pow _ _ _ h, aoi]
theorem bm4 (x : BitVec 32) (n : Nat) (h : n ≤ 32) : IntKind.u32.wrap ((x.toNat : Int) * (2 : Int) ^ min n 32) = ((x <<< n).toNat : Int) := by
 rw [mul_pow _ _ _ h, biq, an6]; omega
theorem ba2 (x : BitVec 64) (n : Nat) (h : n ≤ 64) : (x.toNat : Int).fdiv ((2 : Int) ^ min n 64) = ((x >>> n).toNat : Int) := by rw [fdiv_pow _ _ _ h, aoi]
theorem bj9 (x : BitVec 64) (n : Nat) (h : n ≤ 64) : IntKind.u64.wrap ((x.toNat : Int) * (2 : Int) ^ min n 64) = ((x <<< n).toNat : Int) := by
 rw [mul_pow _ _ _ h, bdv, an6]; omega
theorem bp4 (x : BitVec 32) (n : Nat) (h : n ≤ 64) : (x.toNat : Int).fdiv ((2 : Int) ^ min n 64) = ((x >>> n).toNat : Int) := by rw [fdiv_pow _ _ _ h, aoi]
theorem nshl (x : BitVec 32) (n : Nat) (h : n ≤ 32) : bits .and .u64 (IntKind.u64.wrap ((x.toNat : Int) * (2 : Int) ^ min n 64)) 4294967295 = ((x <<< n).toNat : Int) := by
 have h1 := amz x
 have h2 : 2 ^ n ≤ 2 ^ 32 := bjs h
 have h3 : x.toNat * 2 ^ n ≤ 4294967295 * 2 ^ 32 := Nat.mul_le_mul (by omega) h2
 rw [mul_pow _ _ _ (by omega), ajj _ (by omega), bch _ (by omega), an6]
theorem bkh {w : Nat} (e f g : BitVec w) : (e &&& f) ^^^ ((BitVec.allOnes w ^^^ e) &&& g) = g ^^^ (e &&& (f ^^^ g)) := by
 ext i hi
 simp
 cases e[i] <;> cases f[i] <;> cases g[i] <;> rfl
theorem ber {w : Nat} (a b c : BitVec w) : ((a &&& b) ^^^ (a &&& c)) ^^^ (b &&& c) = (a &&& b) ||| (c &&& (a ||| b)) := by
 ext i hi
 simp
 cases a[i] <;> cases b[i] <;> cases c[i] <;> rfl
end Q
end

section
/- SHA-2: what a block does. -/
namespace Q
open Go Go.Abs
set_option linter.unusedVariables false
set_option linter.unusedSimpArgs false
structure Par (w : Nat) where
 rounds : Nat
 a : Nat × Nat × Nat
 b : Nat × Nat × Nat
 c : Nat × Nat × Nat
 d : Nat × Nat × Nat
 K : Nat → BitVec w
section
variable {w : Nat}
def hi (t : Nat × Nat × Nat) (x : BitVec w) : BitVec w := rr x t.1 ^^^ rr x t.2.1 ^^^ rr x t.2.2
def lo (t : Nat × Nat × Nat) (x : BitVec w) : BitVec w := rr x t.1 ^^^ rr x t.2.1 ^^^ (x >>> t.2.2)
def cv (l : List (BitVec w)) : List Int := l.map fun x => (x.toNat : Int)
@[simp] theorem qg (l : List (BitVec w)) : (cv l).length = l.length := by simp [cv]
theorem aeo (l : List (BitVec w)) (i : Nat) : (cv l).getD i 0 = ((l.getD i 0).toNat : Int) := by
 unfold cv
 rw [List.getD_eq_getElem?_getD, List.getD_eq_getElem?_getD, List.getElem?_map]
 cases l[i]? <;> simp
theorem ap8 (l : List (BitVec w)) (i : Nat) (x : BitVec w) : (cv l).set i (x.toNat : Int) = cv (l.set i x) := by simp [cv, List.map_set]
theorem ac7 (l r : List (BitVec w)) : cv l ++ cv r = cv (l ++ r) := by simp [cv]
def bhn (p : Par w) (t : Nat) (wt : BitVec w) (v : List (BitVec w)) : BitVec w :=
 v.getD 7 0 + hi p.d (v.getD 4 0) + (v.getD 6 0 ^^^ (v.getD 4 0 &&& (v.getD 5 0 ^^^ v.getD 6 0))) + p.K t + wt
def boy (p : Par w) (v : List (BitVec w)) : BitVec w := hi p.c (v.getD 0 0) + ((v.getD 0 0 &&& v.getD 1 0) ||| (v.getD 2 0 &&& (v.getD 0 0 ||| v.getD 1 0)))
def rnd (p : Par w) (t : Nat) (wt : BitVec w) (v : List (BitVec w)) : List (BitVec w) :=
 [bhn p t wt v + boy p v, v.getD 0 0, v.getD 1 0, v.getD 2 0, v.getD 3 0 + bhn p t wt v, v.getD 4 0, v.getD 5 0, v.getD 6 0]
def bj4 (p : Par w) (l : List (BitVec w)) : BitVec w := lo p.b (l.getD (l.length - 2) 0) + l.getD (l.length - 7) 0 + lo p.a (l.getD (l.length - 15) 0) + l.getD (l.length - 16) 0
def sched (p : Par w) (l : List (BitVec w)) : Nat → List (BitVec w)
 | 0 => l
 | n + 1 => sched p l n ++ [bj4 p (sched p l n)]
theorem ao3 (p : Par w) (l : List (BitVec w)) : ∀ n, (sched p l n).length = l.length + n
 | 0 => rfl
 | n + 1 => by simp only [sched, List.length_append, ao3 p l n, List.length_singleton]; omega
theorem ar5 (p : Par w) (l : List (BitVec w)) (n i : Nat) (hi : i < l.length + n) : ∀ m, (sched p l (n + m)).getD i 0 = (sched p l n).getD i 0
 | 0 => rfl
 | m + 1 => by
  rw [← Nat.add_assoc]
  simp only [sched]
  rw [List.getD_eq_getElem?_getD, List.getElem?_append_left (by rw [ao3]; omega), ← List.getD_eq_getElem?_getD, ar5 p l n i hi m]
def W (p : Par w) (l : List (BitVec w)) (t : Nat) : BitVec w := (sched p l t).getD t 0
theorem bfe (p : Par w) (l : List (BitVec w)) (hl : 0 < l.length) (n t : Nat) (h : t < l.length + n) : (sched p l n).getD t 0 = W p l t := by
 unfold W
 by_cases hn : n ≤ t
 ·have := ar5 p l n t h (t - n)
  rw [show n + (t - n) = t by omega] at this
  exact this.symm
 ·have := ar5 p l t t (by omega) (n - t)
  rw [show t + (n - t) = n by omega] at this
  exact this
theorem ayf (p : Par w) (l : List (BitVec w)) (hl : l.length = 16) (t : Nat) : W p l (t + 16) = W p l t + lo p.a (W p l (t + 1)) + W p l (t + 9) + lo p.b (W p l (t + 14)) := by
 have e := bfe p l (by omega) (t + 1) (t + 16) (by omega)
 rw [← e]
 simp only [sched]
 have hlen := ao3 p l t
 rw [List.getD_eq_getElem?_getD, List.getElem?_append_right (by rw [hlen]; omega), hlen, show t + 16 - (l.length + t) = 0 by omega]
 simp only [List.getElem?_cons_zero, Option.getD_some]
 unfold bj4
 rw [hlen, show l.length + t - 2 = t + 14 by omega, show l.length + t - 7 = t + 9 by omega, show l.length + t - 15 = t + 1 by omega, show l.length + t - 16 = t by omega,
  bfe p l (by omega) t _ (by omega), bfe p l (by omega) t _ (by omega), bfe p l (by omega) t _ (by omega), bfe p l (by omega) t _ (by omega)]
 ac_rfl
def runs (p : Par w) (l : List (BitVec w)) (v : List (BitVec w)) : Nat → List (BitVec w)
 | 0 => v
 | t + 1 => rnd p t (W p l t) (runs p l v t)
theorem ah1 (p : Par w) (l v : List (BitVec w)) (hv : v.length = 8) : ∀ t, (runs p l v t).length = 8
 | 0 => hv
 | t + 1 => rfl
def bep (p : Par w) (l v : List (BitVec w)) : List (BitVec w) := (List.range 8).map fun i => (runs p l v p.rounds).getD i 0 + v.getD i 0
def jy (w : Nat) (b : List Int) (n : Nat) : List (BitVec w) := (List.range n).map fun t => BitVec.ofNat w (T 8 ((b.take ((t + 1) * (w / 8))).drop (t * (w / 8))).reverse)
def aoo (p : Par w) (v : List (BitVec w)) (b : List Int) : List (BitVec w) := bep p (jy w b 16) v
theorem ayw (p : Par w) (v : List (BitVec w)) (b : List Int) : (aoo p v b).length = 8 := by simp [aoo, bep]
theorem anz (b : List Int) (n : Nat) : jy w b (n + 1) = jy w b n ++ [BitVec.ofNat w (T 8 ((b.take ((n + 1) * (w / 8))).drop (n * (w / 8))).reverse)] := by simp [jy, List.range_succ]
theorem ni (b : List Int) (n : Nat) : (jy w b n).length = n := by simp [jy]
def win (p : Par w) (l : List (BitVec w)) (t : Nat) : List (BitVec w) := (List.range 16).map fun j => W p l (t + (j + 16 - t % 16) % 16)
theorem amg (p : Par w) (l : List (BitVec w)) (t i : Nat) (hi : i < 16) : (win p l t).getD ((t + i) % 16) 0 = W p l (t + i) := by
 unfold win
 rw [getD_lt (by simp; omega)]
 simp only [List.getElem_map, List.getElem_range]
 congr 1
 omega
theorem ayd (p : Par w) (l : List (BitVec w)) (t : Nat) : (win p l t).set (t % 16) (W p l (t + 16)) = win p l (t + 1) := by
 unfold win
 refine List.ext_getElem (by simp) (fun j h1 h2 => ?_)
 simp only [List.length_map, List.length_range] at h2
 rw [List.getElem_set]
 by_cases h : t % 16 = j
 ·rw [if_pos h]
  simp only [List.getElem_map, List.getElem_range]
  congr 1
  omega
 ·rw [if_neg h]
  simp only [List.getElem_map, List.getElem_range]
  congr 1
  omega
theorem win_zero (p : Par w) (b : List Int) : win p (jy w b 16) 0 = jy w b 16 := by
 unfold win
 refine List.ext_getElem (by simp [jy]) (fun j h1 h2 => ?_)
 rw [ni] at h2
 simp only [List.getElem_map, List.getElem_range]
 rw [show 0 + (j + 16 - 0 % 16) % 16 = j by omega, ← bfe p _ (by rw [ni]; omega) 0 j (by rw [ni]; omega)]
 exact getD_lt (by rw [show sched p (jy w b 16) 0 = jy w b 16 from rfl, ni]; exact h2)
end
theorem awm : ∀ x, x ∈ P.roots256 → 0 ≤ x ∧ x < 4294967296 := by decide +kernel
theorem avy : ∀ x, x ∈ P.roots512 → 0 ≤ x ∧ x < 18446744073709551616 := by decide +kernel
def p32 : Par 32 := ⟨64, (7, 18, 3), (17, 19, 10), (2, 13, 22), (6, 11, 25), fun t => BitVec.ofInt 32 (P.roots256.getD t 0)⟩
def p64 : Par 64 := ⟨80, (1, 8, 7), (19, 61, 6), (28, 34, 39), (14, 18, 41), fun t => BitVec.ofInt 64 (P.roots512.getD t 0)⟩
theorem K32 (t : Nat) : P.roots256.getD t 0 = ((p32.K t).toNat : Int) := by
 have := In.getD (m := 4294967296) awm t (by omega)
 simp only [p32, BitVec.toNat_ofInt]
 omega
theorem K64 (t : Nat) : P.roots512.getD t 0 = ((p64.K t).toNat : Int) := by
 have := In.getD (m := 18446744073709551616) avy t (by omega)
 simp only [p64, BitVec.toNat_ofInt]
 omega
end Q
end

section
/- bits: Unpack, as the document has it. -/
namespace Q
open Go Go.Abs
set_option linter.unusedVariables false
set_option linter.unusedSimpArgs false
end Q
end

section
/- bits: Digits. -/
namespace Q
open Go Go.Abs
set_option linter.unusedVariables false
set_option linter.unusedSimpArgs false
def dg (w L N : Nat) (i : Nat) : Int := ((N / 2 ^ (8 * L - w * (i + 1)) % 2 ^ w : Nat) : Int)
def bgn (b : List Int) (w c : Int) : List Int := if Such b.length w c then (List.range c.toNat).map (dg w.toNat b.length (T 8 b.reverse)) else []
theorem aw8 (b : List Int) (t : Nat) (h : t < b.length) : T 8 (b.take (t + 1)).reverse = (b.getD t 0).toNat % 2 ^ 8 + 256 * T 8 (b.take t).reverse := by
 rw [← aju b 0 t h, List.reverse_append, List.reverse_singleton, List.singleton_append, T]
end Q
end

section
/- bits: numbers as bytes and back. -/
namespace Q
open Go Go.Abs
set_option linter.unusedVariables false
set_option linter.unusedSimpArgs false
theorem bdf (w n m X : Nat) (hm : m ≤ n) (hX : X < 2 ^ (w * m)) : bsw w m X ++ List.replicate (n - m) 0 = bsw w n X := by
 refine List.ext_getElem (by simp; omega) (fun i h1 h2 => ?_)
 have hi : i < n := by simpa using h2
 rw [← getD_lt (d := 0) h2, asu _ _ _ _ hi]
 by_cases him : i < m
 ·rw [List.getElem_append_left (by simpa using him), ← getD_lt (d := 0), asu _ _ _ _ him]
 ·rw [List.getElem_append_right (by simp; omega), List.getElem_replicate, Nat.div_eq_of_lt]
  ·rfl
  ·exact Nat.lt_of_lt_of_le hX (bjs (Nat.mul_le_mul (Nat.le_refl _) (by omega)))
theorem ab8 (N s : Nat) (hN : N < 18446744073709551616) (hs : s ≤ 65536) {ρ : Type} (k : List Int → Option ρ) : P.ab8 (N : Int) (s : Int) k = k (bsw 8 s N) := by
 rw [P.apy]
 unfold P.air
 have em : (bif decide ((8 : Int) < (s : Int)) then (8 : Int) else (s : Int)) = ((min s 8 : Nat) : Int) := by
  by_cases h : (8 : Int) < (s : Int)
  ·rw [decide_eq_true h]; simp only [cond_true]; omega
  ·rw [decide_eq_false h]; simp only [cond_false]; omega
 simp only [toNat_cast]
 rw [em]
 simp (disch := omega) only [av, dx, iw, ig, d9, fq, tu, vk, o8, yu]
 rw [P.asb]
 unfold P.ap4 P.zk2 P.zs2 P.zu2
 refine y5 (fun i => ((N : Int), ((min s 8 : Nat) : Int), (i : Int), bsw 8 i N ++ List.replicate (s - i) 0)) (min s 8) (by simp [bsw]) (fun i hi next hn' => ?_) (fun next => ?_) (by omega)
 ·simp only [P.alm, List.length_append, y8, List.length_replicate, toNat_cast]
  rw [show (8 : Int) * (i : Int) = ((8 * i : Nat) : Int) by omega, yu (x := ((8 * i : Nat) : Int)) (by omega) (by omega)]
  simp only [toNat_cast]
  rw [fdiv_pow N _ 64 (by omega), u8m]
  simp (disch := omega) only [av, dx, iw, ig, d9, fq, tu, vk, o8, yu]
  rw [List.set_append_right _ _ (by simp), y8, Nat.sub_self, show s - i = (s - (i + 1)) + 1 by omega, List.replicate_succ, List.set_cons_zero]
  rw [ash, List.append_assoc, List.singleton_append] at hn'
  exact hn'
 ·simp only [P.alm]
  rw [dx (by omega)]
  by_cases h : s ≤ 8
  ·rw [Nat.min_eq_left h, Nat.sub_self]; simp
  ·rw [Nat.min_eq_right (by omega), bdf 8 s 8 N (by omega) (by omega)]
theorem az1 {f : Nat → Int} (n q : Nat) (v : Int) : ((List.range n).map f).set q v = (List.range n).map (fun j => if j = q then v else f j) := by
 refine List.ext_getElem (by simp) (fun i h1 h2 => ?_)
 simp only [List.getElem_set, List.getElem_map, List.getElem_range]
 by_cases h : q = i
 ·rw [if_pos h, if_pos h.symm]
 ·rw [if_neg h, if_neg (fun e => h e.symm)]
theorem axc {f : Nat → Int} (n q : Nat) (h : q < n) : ((List.range n).map f).getD q 0 = f q := by
 rw [getD_lt (by simpa using h)]; simp
theorem bea (l : List Int) : l = (List.range l.length).map (fun j => l.getD j 0) := by
 refine List.ext_getElem (by simp) (fun i h1 h2 => ?_)
 simp only [List.getElem_map, List.getElem_range]
 rw [getD_lt h1]
theorem yc (N s : Nat) (hN : N < 18446744073709551616) (hs : s ≤ 65536) {ρ : Type} (k : List Int → Option ρ) : P.yc (N : Int) (s : Int) k = k (bsw 8 s N).reverse := by
 rw [P.aq4]
 unfold P.aip
 rw [ab8 N s hN hs, P.an9]
 unfold P.ame P.zk3 P.zs3 P.zu3
 simp only [y8]
 rw [yu (by omega) (by omega)]
 have hfin : (bsw 8 s N).reverse = (List.range s).map (fun q => (bsw 8 s N).getD (s - 1 - q) 0) := by
  refine List.ext_getElem (by simp) (fun i h1 h2 => ?_)
  have hi : i < s := by simpa using h2
  rw [List.getElem_reverse, List.getElem_map, List.getElem_range, getD_lt (by simp; omega)]
  congr 1; simp
 have h0 : bsw 8 s N = (List.range s).map (fun q => if q < 0 ∨ s - 0 ≤ q then (bsw 8 s N).getD (s - 1 - q) 0 else (bsw 8 s N).getD q 0) := by
  have e := bea (bsw 8 s N)
  rw [y8] at e
  refine e.trans (List.map_congr_left (fun q hq => ?_))
  have := List.mem_range.1 hq
  rw [if_neg (by omega)]
 generalize bsw 8 s N = l at h0 hfin
 refine y5 (fun i => ((i : Int), (s : Int) - 1 - (i : Int), (List.range s).map (fun q => if q < i ∨ s - i ≤ q then l.getD (s - 1 - q) 0 else l.getD q 0))) (s / 2) (by rw [← h0]; simp) (fun i hi next hn' => ?_) (fun next => ?_) (by omega)
 ·simp only [P.ahq, List.length_map, List.length_range, List.length_set]
  rw [show (s : Int) - 1 - (i : Int) = ((s - 1 - i : Nat) : Int) by omega]
  simp only [toNat_cast]
  rw [axc _ _ (by omega), axc _ _ (by omega), if_neg (by omega), if_neg (by omega), az1, az1]
  have e : (List.range s).map (fun q => if q < i + 1 ∨ s - (i + 1) ≤ q then l.getD (s - 1 - q) 0 else l.getD q 0) = (List.range s).map (fun j => if j = s - 1 - i then l.getD i 0 else if j = i then l.getD (s - 1 - i) 0 else if j < i ∨ s - i ≤ j then l.getD (s - 1 - j) 0 else l.getD j 0) := by
   refine List.map_congr_left (fun q hq => ?_)
   have := List.mem_range.1 hq
   by_cases a1 : q = s - 1 - i
   ·subst a1; rw [if_pos (by omega), if_pos rfl]; congr 1; omega
   ·rw [if_neg a1]
    by_cases a2 : q = i
    ·subst a2; rw [if_pos (by omega), if_pos rfl]
    ·rw [if_neg a2]
     by_cases a3 : q < i ∨ s - i ≤ q
     ·rw [if_pos (by omega), if_pos a3]
     ·rw [if_neg (by omega), if_neg a3]
  rw [e] at hn'
  simp (disch := omega) only [av, dx, iw, ig, d9, fq, tu, vk, o8, yu]
  rw [show ((s - 1 - i : Nat) : Int) - 1 = (s : Int) - 1 - ((i + 1 : Nat) : Int) by omega]
  exact hn'
 ·simp only [P.ahq]
  rw [dx (by omega), hfin]
  congr 1
  refine List.map_congr_left (fun q hq => ?_)
  have := List.mem_range.1 hq
  by_cases a3 : q < s / 2 ∨ s - s / 2 ≤ q
  ·rw [if_pos a3]
  ·rw [if_neg a3]; congr 1; omega
theorem qd (b : List Int) (hb : In 256 b) (hn : b.length ≤ 1000000) {ρ : Type} (k : Int → Option ρ) : P.qd b k = k ((T 8 b.reverse % 2 ^ 64 : Nat) : Int) := by
 rw [P.aof]
 unfold P.ag5
 rw [P.apq]
 unfold P.anw P.zk6 P.zs6 P.zu6
 refine y5 (fun i => (((T 8 (b.take i).reverse % 2 ^ 64 : Nat) : Int), b, (b.length : Int), (i : Int))) b.length (by simp [T]) (fun i hi next hn' => ?_) (fun next => ?_) (by omega)
 ·obtain ⟨x, hx, hx2, hx3⟩ := byte_at hb i
  have est := aw8 b i hi
  rw [← hx3] at est
  simp only [P.ait, toNat_cast]
  have e1 : IntKind.u64.wrap (((T 8 (b.take i).reverse % 2 ^ 64 : Nat) : Int) * 2 ^ 8) = ((T 8 (b.take i).reverse % 2 ^ 56 * 2 ^ 8 : Nat) : Int) := by
   rw [bdv]; omega
  rw [hx, e1, ajj x (by omega), be9 _ _ (by omega) (by omega), bdx _ _ _ (by omega),
   show T 8 (b.take i).reverse % 2 ^ 56 * 2 ^ 8 + x = T 8 (b.take (i + 1)).reverse % 2 ^ 64 by rw [est]; omega]
  simp (disch := omega) only [av, dx, iw, ig, d9, fq, tu, vk, o8, yu]
  exact hn'
 ·simp only [P.ait]
  rw [dx (by omega), List.take_length]
end Q
end

section
/- SHA-2: the program's engine of 32 bits. -/
namespace Q
open Go Go.Abs
set_option linter.unusedVariables false
set_option linter.unusedSimpArgs false
theorem ae8 (rd : Int) (t0 t1 t2 t3 : List Int) (x : BitVec 32) (m : Int) (n : Nat) (hm : m = (n : Int)) (hn : n ≤ 32) {ρ : Type} (k : Int → Option ρ) :
    P.bf 32 rd t0 t1 t2 t3 (x.toNat : Int) m k = k ((rr x n).toNat : Int) := by
 subst hm
 rw [P.zo]
 unfold P.qm
 rw [dx (by omega), yu (by omega) (by omega), dx (by omega), show (32 : Int) - (n : Int) = ((32 - n : Nat) : Int) by omega]
 simp only [toNat_cast]
 rw [bgr _ _ hn, bm4 _ _ (by omega), bqb]
 rfl
theorem azo (rd : Int) (x : BitVec 32) {ρ : Type} (k : Int → Option ρ) : P.jf 32 rd [7, 18, 3] [17, 19, 10] [2, 13, 22] [6, 11, 25] (x.toNat : Int) 3 k = k ((hi p32.d x).toNat : Int) := by
 rw [P.vg]
 unfold P.pq
 simp only [List.getD_cons_zero, List.getD_cons_succ]
 rw [dx (by decide), dx (by decide), dx (by decide), av (by decide), ae8 _ _ _ _ _ _ _ 6 (by rfl) (by omega), ae8 _ _ _ _ _ _ _ 11 (by rfl) (by omega), ae8 _ _ _ _ _ _ _ 25 (by rfl) (by omega), asx, asx]
 rfl
theorem az6 (rd : Int) (x : BitVec 32) {ρ : Type} (k : Int → Option ρ) : P.jf 32 rd [7, 18, 3] [17, 19, 10] [2, 13, 22] [6, 11, 25] (x.toNat : Int) 2 k = k ((hi p32.c x).toNat : Int) := by
 rw [P.vg]
 unfold P.pq
 simp only [List.getD_cons_zero, List.getD_cons_succ]
 rw [dx (by decide), dx (by decide), av (by decide), ae8 _ _ _ _ _ _ _ 2 (by rfl) (by omega), ae8 _ _ _ _ _ _ _ 13 (by rfl) (by omega), ae8 _ _ _ _ _ _ _ 22 (by rfl) (by omega), asx, asx]
 rfl
theorem bc7 (rd : Int) (x : BitVec 32) {ρ : Type} (k : Int → Option ρ) : P.jl 32 rd [7, 18, 3] [17, 19, 10] [2, 13, 22] [6, 11, 25] (x.toNat : Int) 0 k = k ((lo p32.a x).toNat : Int) := by
 rw [P.wu]
 unfold P.p8
 simp only [List.getD_cons_zero, List.getD_cons_succ]
 rw [av (by decide), ae8 _ _ _ _ _ _ _ 7 (by rfl) (by omega), ae8 _ _ _ _ _ _ _ 18 (by rfl) (by omega), dx (by decide), asx, show (3 : Int).toNat = 3 from rfl, bgr _ _ (by omega), asx]
 rfl
theorem bd1 (rd : Int) (x : BitVec 32) {ρ : Type} (k : Int → Option ρ) : P.jl 32 rd [7, 18, 3] [17, 19, 10] [2, 13, 22] [6, 11, 25] (x.toNat : Int) 1 k = k ((lo p32.b x).toNat : Int) := by
 rw [P.wu]
 unfold P.p8
 simp only [List.getD_cons_zero, List.getD_cons_succ]
 rw [dx (by decide), av (by decide), ae8 _ _ _ _ _ _ _ 17 (by rfl) (by omega), ae8 _ _ _ _ _ _ _ 19 (by rfl) (by omega), dx (by decide), asx, show (10 : Int).toNat = 10 from rfl, bgr _ _ (by omega), asx]
 rfl
theorem bdc (t : Nat) (h : t < 64) {ρ : Type} (k : Int → Option ρ) : P.l5 (t : Int) k = k ((p32.K t).toNat : Int) := by
 rw [P.ah9]
 unfold P.ad9
 rw [av (by omega), av (by omega), toNat_cast, K32]
theorem v8 {w : Nat} (v : List (BitVec w)) (hv : v.length = 8) : v = [v.getD 0 0, v.getD 1 0, v.getD 2 0, v.getD 3 0, v.getD 4 0, v.getD 5 0, v.getD 6 0, v.getD 7 0] := by
 match v, hv with
 | [a, b, c, d, e, f, g, h], _ => rfl
theorem bqv (t : Nat) : ((t : Nat) : Int).tmod 16 = ((t % 16 : Nat) : Int) := by
 rw [Int.tmod_eq_emod_of_nonneg (by omega)]; rfl
theorem bjn (b : List Int) (hb : In 256 b) (hl : b.length = 16 * 4) (rd : Int) (t0 t1 t2 t3 h1 h2 : List Int) {ρ : Type} (k0 : List Int → Int → Int → Int → Int → List Int → List Int → List Int → List Int → List Int → List Int → List Int → Option ρ) :
    P.uy b 4 0 32 rd t0 t1 t2 t3 h1 h2 (List.replicate 16 0) k0 = k0 b 4 16 32 rd t0 t1 t2 t3 h1 h2 (cv (jy 32 b 16)) := by
 rw [P.adi]
 unfold P.aa7 P.zk7 P.zs7 P.zu7
 refine y5 (fun i => (b, 4, (i : Int), 32, rd, t0, t1, t2, t3, h1, h2, cv (jy 32 b i) ++ List.replicate (16 - i) 0)) 16 (by simp [jy, cv]) (fun i hi next hn' => ?_) (fun next => ?_) (by omega)
 ·simp only [P.uw, toNat_cast]
  have e1 : IntKind.i64.wrap ((i : Int) * 4) = ((i * 4 : Nat) : Int) := by rw [yu (by omega) (by omega)]; omega
  have e2 : IntKind.i64.wrap (IntKind.i64.wrap ((i : Int) + 1) * 4) = (((i + 1) * 4 : Nat) : Int) := by rw [yu (x := (i : Int) + 1) (by omega) (by omega), yu (by omega) (by omega)]; omega
  rw [e1, e2]
  simp only [toNat_cast]
  have hlen : ((b.take ((i + 1) * 4)).drop (i * 4)).length = 4 := by simp; omega
  rw [av (by omega), av (by omega), av (by omega), av (by omega), qd _ ((hb.take _).drop _) (by omega), av (by omega), av (by omega)]
  have e3 : IntKind.u32.wrap ((T 8 ((b.take ((i + 1) * 4)).drop (i * 4)).reverse % 2 ^ 64 : Nat) : Int) = (((BitVec.ofNat 32 (T 8 ((b.take ((i + 1) * 4)).drop (i * 4)).reverse)).toNat : Nat) : Int) := by
   rw [biq, BitVec.toNat_ofNat]; omega
  have e4 : IntKind.i64.wrap ((i : Int) + 1) = ((i + 1 : Nat) : Int) := by rw [yu (by omega) (by omega)]; omega
  rw [e3, e4]
  have e5 : (cv (jy 32 b i) ++ List.replicate (16 - i) (0 : Int)).set i (((BitVec.ofNat 32 (T 8 ((b.take ((i + 1) * 4)).drop (i * 4)).reverse)).toNat : Nat) : Int) = cv (jy 32 b (i + 1)) ++ List.replicate (16 - (i + 1)) 0 := by
   rw [List.set_append_right _ _ (by simp [ni]), qg, ni, Nat.sub_self, show 16 - i = (16 - (i + 1)) + 1 by omega, List.replicate_succ, List.set_cons_zero, anz, ← ac7, List.append_assoc]
   rfl
  rw [e5]
  exact hn'
 ·simp only [P.uw]
  rw [dx (by omega)]
  simp
theorem bfz (l v : List (BitVec 32)) (hv : v.length = 8) (h2 h1 : List Int) {ρ : Type} (k0 : Int → Int → List Int → List Int → List Int → Int → Int → List Int → List Int → List Int → List Int → List Int → Option ρ) (hl : l.length = 16) :
    P.ou 64 0 (cv (win p32 l 0)) h2 h1 32 64 [7, 18, 3] [17, 19, 10] [2, 13, 22] [6, 11, 25] (cv v) k0 =
     k0 64 64 (cv (win p32 l 64)) h2 h1 32 64 [7, 18, 3] [17, 19, 10] [2, 13, 22] [6, 11, 25] (cv (runs p32 l v 64)) := by
 rw [P.ac9]
 unfold P.aas P.zk8 P.zs8 P.zu8
 refine y5 (fun t => (64, (t : Int), cv (win p32 l t), h2, h1, 32, 64, [7, 18, 3], [17, 19, 10], [2, 13, 22], [6, 11, 25], cv (runs p32 l v t))) 64 rfl (fun t ht next hn' => ?_) (fun next => ?_) (by omega)
 ·simp only [P.tq]
  have e1 : IntKind.i64.wrap ((t : Int) + 1) = ((t + 1 : Nat) : Int) := by rw [yu (by omega) (by omega)]; omega
  have e9 : IntKind.i64.wrap ((t : Int) + 9) = ((t + 9 : Nat) : Int) := by rw [yu (by omega) (by omega)]; omega
  have e14 : IntKind.i64.wrap ((t : Int) + 14) = ((t + 14 : Nat) : Int) := by rw [yu (by omega) (by omega)]; omega
  simp only [e1, e9, e14, bqv, toNat_cast, aeo]
  have g0 := amg p32 l t 0 (by omega)
  rw [Nat.add_zero] at g0
  rw [g0, amg p32 l t 1 (by omega), amg p32 l t 9 (by omega), amg p32 l t 14 (by omega)]
  have hV := v8 _ (ah1 p32 l v hv t)
  rw [av (by omega), av (by omega), av (by omega), azo, bdc t ht, az6, av (by omega), av (by omega), bc7, av (by omega), av (by omega), av (by omega), av (by omega), bd1, av (by omega), av (by omega)]
  simp only [add32, asx, bm9, bqb]
  rw [← ayf p32 l hl t, ap8, ayd]
  have hr : cv (runs p32 l v (t + 1)) = (((List.take 1 (cv (runs p32 l v t))).append (List.take 7 (List.take 7 (List.drop 0 (cv (runs p32 l v t)))) ++ List.drop (1 + min 7 (List.take 7 (List.drop 0 (cv (runs p32 l v t)))).length) (cv (runs p32 l v t)))).set 4
      (((runs p32 l v t).getD 3 0 + bhn p32 t (W p32 l t) (runs p32 l v t)).toNat : Int)).set 0 ((bhn p32 t (W p32 l t) (runs p32 l v t) + boy p32 (runs p32 l v t)).toNat : Int) := by
   rw [hV]
   rfl
  have h3 : ((List.take 1 (cv (runs p32 l v t))).append (List.take 7 (List.take 7 (List.drop 0 (cv (runs p32 l v t)))) ++ List.drop (1 + min 7 (List.take 7 (List.drop 0 (cv (runs p32 l v t)))).length) (cv (runs p32 l v t)))).getD 4 0 = (((runs p32 l v t).getD 3 0).toNat : Int) := by
   rw [hV]
   rfl
  rw [h3, add32]
  rw [hr] at hn'
  exact hn'
 ·simp only [P.tq]
  rw [dx (by omega)]
  rfl
theorem bf9 (v u : List (BitVec 32)) (hv : v.length = 8) (hu : u.length = 8) (h2 : List Int) {ρ : Type} (k0 : Int → List Int → List Int → List Int → Option ρ) :
    P.oh 0 (cv v) h2 (cv u) k0 = k0 8 (cv v) h2 (cv ((List.range 8).map fun i => u.getD i 0 + v.getD i 0)) := by
 rw [P.ac2]
 unfold P.aak P.zk9 P.zs9 P.zu9
 have hs : ∀ i, i ≤ 8 → (((List.range i).map fun i => u.getD i 0 + v.getD i 0) ++ u.drop i).length = 8 := fun i hi => by simp; omega
 refine y5 (fun i => ((i : Int), cv v, h2, cv (((List.range i).map fun i => u.getD i 0 + v.getD i 0) ++ u.drop i))) 8 (by simp) (fun i hi next hn' => ?_) (fun next => ?_) (by omega)
 ·simp only [P.uj, toNat_cast, aeo]
  have e1 : IntKind.i64.wrap ((i : Int) + 1) = ((i + 1 : Nat) : Int) := by rw [yu (by omega) (by omega)]; omega
  have e2 : (((List.range i).map fun i => u.getD i 0 + v.getD i 0) ++ u.drop i).getD i 0 = u.getD i 0 := by
   rw [List.getD_eq_getElem?_getD, List.getElem?_append_right (by simp), List.getElem?_drop, List.length_map, List.length_range, List.getD_eq_getElem?_getD]
   congr 2
   omega
  rw [e1, e2, add32, ap8]
  have e3 : (((List.range i).map fun i => u.getD i 0 + v.getD i 0) ++ u.drop i).set i (u.getD i 0 + v.getD i 0) = ((List.range (i + 1)).map fun i => u.getD i 0 + v.getD i 0) ++ u.drop (i + 1) := by
   rw [List.set_append_right _ _ (by simp), List.length_map, List.length_range, Nat.sub_self, List.range_succ, List.map_append, List.append_assoc, List.drop_eq_getElem_cons (by omega), List.set_cons_zero]
   rfl
  rw [e3]
  simp (disch := omega) only [av, dx, iw, ig, d9, fq, tu, vk, o8, yu]
  exact hn'
 ·simp only [P.uj]
  rw [dx (by omega), List.drop_eq_nil_of_le (by omega), List.append_nil]
  rfl
theorem bb8 (v : List (BitVec 32)) (hv : v.length = 8) (b : List Int) (hb : In 256 b) (hl : b.length = 16 * 4) {ρ : Type} (k : List Int → Option ρ) :
    P.jv 32 64 [7, 18, 3] [17, 19, 10] [2, 13, 22] [6, 11, 25] (cv v) b k = k (cv (aoo p32 v b)) := by
 rw [P.aa6]
 unfold P.uh
 rw [show IntKind.i64.wrap ((32 : Int).tdiv 8) = 4 from rfl]
 have := bjn b hb hl 64 [7, 18, 3] [17, 19, 10] [2, 13, 22] [6, 11, 25] (cv v) (List.replicate 8 0) (fun (q0 : List Int) (q1 q2 q3 q4 : Int) (q5 q6 q7 q8 q9 q10 q11 : List Int) =>
  P.ou q4 (0 : Int) q11 q10 q9 q3 q4 q5 q6 q7 q8 q9
   fun (q12 q13 : Int) (q14 q15 q16 : List Int) (q17 q18 : Int) (q19 q20 q21 q22 q23 : List Int) =>
   P.oh (0 : Int) q16 q15 q23 fun (q24 : Int) (q25 q26 q27 : List Int) => k q27)
 refine this.trans ?_
 rw [← win_zero p32, bfz _ v hv _ _ _ (ni b 16), bf9 v _ hv (ah1 _ _ _ hv _)]
 rfl
end Q
end

section
/- SHA-2: the document's block of words of 32 bits. -/
namespace Q
open Go Go.Abs
set_option linter.unusedVariables false
set_option linter.unusedSimpArgs false
theorem ze (b : List Int) (hb : In 256 b) (hn : b.length ≤ 1000000) {ρ : Type} (k : Int → Option ρ) : P.ze b k = k ((T 8 b.reverse % 2 ^ 64 : Nat) : Int) := by
 rw [P.aqj]
 unfold P.ail
 rw [P.asf]
 unfold P.aqc P.bk6 P.bi1 P.bl3
 refine y5 (fun i => (b, ((T 8 (b.take i).reverse % 2 ^ 64 : Nat) : Int), (i : Int))) b.length (by simp [T]) (fun i hi next hn' => ?_) (fun next => ?_) (by omega)
 ·obtain ⟨x, hx, hx2, hx3⟩ := byte_at hb i
  have est := aw8 b i hi
  rw [← hx3] at est
  simp only [P.alo, toNat_cast]
  have e1 : IntKind.u64.wrap (IntKind.u64.wrap (((T 8 (b.take i).reverse % 2 ^ 64 : Nat) : Int) * 256) + IntKind.u64.wrap (x : Int)) = ((T 8 (b.take (i + 1)).reverse % 2 ^ 64 : Nat) : Int) := by
   rw [bdv, bdv, bdv, est]; omega
  rw [hx, e1]
  simp (disch := omega) only [av, dx, iw, ig, d9, fq, tu, vk, o8, yu]
  exact hn'
 ·simp only [P.alo]
  rw [dx (by omega), List.take_length]
theorem ag3 (x m : Int) (n : Nat) (hm : m = (n : Int)) (hn : n ≤ 32) : ∃ q, ∀ {ρ : Type} (k : Int → Option ρ), P.um x m false k = k q := by
 subst hm
 refine ⟨bits .or .u64 (x.fdiv ((2 : Int) ^ min ((n : Int)).toNat 64)) (bits .and .u64 (IntKind.u64.wrap (x * (2 : Int) ^ min ((32 : Int) - (n : Int)).toNat 64)) 4294967295), fun k => ?_⟩
 rw [P.ae1]
 unfold P.abz
 rw [o8, dx (by omega), yu (by omega) (by omega), dx (by omega)]
theorem bab (x a b c : Int) (l m n : Nat) (ha : a = (l : Int)) (hb : b = (m : Int)) (hc : c = (n : Int)) (h1 : l ≤ 32) (h2 : m ≤ 32) (h3 : n ≤ 32) : ∃ q, ∀ {ρ : Type} (k : Int → Option ρ), P.ug x a b c false false k = k q := by
 obtain ⟨q1, e1⟩ := ag3 x a l ha h1
 obtain ⟨q2, e2⟩ := ag3 x b m hb h2
 obtain ⟨q3, e3⟩ := ag3 x c n hc h3
 refine ⟨bits .xor .u64 (bits .xor .u64 q1 q2) q3, fun k => ?_⟩
 rw [P.aci]
 unfold P.aap
 rw [dx (by omega), tu, o8, e3, e1, e2]
theorem ax8 (x a b c : Int) (l m n : Nat) (ha : a = (l : Int)) (hb : b = (m : Int)) (hc : c = (n : Int)) (h1 : l ≤ 32) (h2 : m ≤ 32) (h3 : n ≤ 32) : ∃ q, ∀ {ρ : Type} (k : Int → Option ρ), P.ug x a b c true false k = k q := by
 obtain ⟨q1, e1⟩ := ag3 x a l ha h1
 obtain ⟨q2, e2⟩ := ag3 x b m hb h2
 refine ⟨bits .xor .u64 (bits .xor .u64 q1 q2) (x.fdiv ((2 : Int) ^ min c.toNat 64)), fun k => ?_⟩
 rw [P.aci]
 unfold P.aap
 rw [dx (by omega), tu, vk, e1, e2]
theorem ahg (x : BitVec 32) (m : Int) (n : Nat) (hm : m = (n : Int)) (hn : n ≤ 32) {ρ : Type} (k : Int → Option ρ) : P.um (x.toNat : Int) m false k = k ((rr x n).toNat : Int) := by
 subst hm
 rw [P.ae1]
 unfold P.abz
 rw [o8, dx (by omega), yu (by omega) (by omega), dx (by omega), show (32 : Int) - (n : Int) = ((32 - n : Nat) : Int) by omega]
 simp only [toNat_cast]
 rw [bp4 _ _ (by omega), nshl _ _ (by omega), nor]
 rfl
theorem bfg (x : BitVec 32) (t : Nat × Nat × Nat) (a b c : Int) (ha : a = (t.1 : Int)) (hb : b = (t.2.1 : Int)) (hc : c = (t.2.2 : Int)) (h1 : t.1 ≤ 32) (h2 : t.2.1 ≤ 32) (h3 : t.2.2 ≤ 32) {ρ : Type} (k : Int → Option ρ) :
    P.ug (x.toNat : Int) a b c false false k = k ((hi t x).toNat : Int) := by
 rw [P.aci]
 unfold P.aap
 rw [dx (by omega), tu, o8, ahg _ _ _ hc h3, ahg _ _ _ ha h1, ahg _ _ _ hb h2, be2, be2]
 rfl
theorem bes (x : BitVec 32) (t : Nat × Nat × Nat) (a b c : Int) (ha : a = (t.1 : Int)) (hb : b = (t.2.1 : Int)) (hc : c = (t.2.2 : Int)) (h1 : t.1 ≤ 32) (h2 : t.2.1 ≤ 32) (h3 : t.2.2 ≤ 32) {ρ : Type} (k : Int → Option ρ) :
    P.ug (x.toNat : Int) a b c true false k = k ((lo t x).toNat : Int) := by
 rw [P.aci]
 unfold P.aap
 rw [dx (by omega), tu, vk, ahg _ _ _ ha h1, ahg _ _ _ hb h2, be2, hc]
 simp only [toNat_cast]
 rw [bp4 _ _ (by omega), be2]
 rfl
theorem boq (a b c d : BitVec 32) : bits .and .u64 (IntKind.u64.wrap (IntKind.u64.wrap (IntKind.u64.wrap ((a.toNat : Int) + (b.toNat : Int)) + (c.toNat : Int)) + (d.toNat : Int))) 4294967295 = ((a + b + c + d).toNat : Int) := by
 have ha := amz a
 have hb := amz b
 have hc := amz c
 have hd := amz d
 rw [← Int.natCast_add, ajj _ (by omega), ← Int.natCast_add, ajj _ (by omega), ← Int.natCast_add, ajj _ (by omega), bch _ (by omega), BitVec.toNat_add, BitVec.toNat_add, BitVec.toNat_add]
 omega
theorem bod (a b : BitVec 32) : bits .and .u64 (IntKind.u64.wrap ((a.toNat : Int) + (b.toNat : Int))) 4294967295 = ((a + b).toNat : Int) := by
 have ha := amz a
 have hb := amz b
 rw [← Int.natCast_add, ajj _ (by omega), bch _ (by omega), BitVec.toNat_add]
theorem bo5 (d a b c e f : BitVec 32) : bits .and .u64 (IntKind.u64.wrap ((d.toNat : Int) + IntKind.u64.wrap (IntKind.u64.wrap (IntKind.u64.wrap (IntKind.u64.wrap ((a.toNat : Int) + (b.toNat : Int)) + (c.toNat : Int)) + (e.toNat : Int)) + (f.toNat : Int)))) 4294967295 = ((d + (a + b + c + e + f)).toNat : Int) := by
 have hd := amz d
 have ha := amz a
 have hb := amz b
 have hc := amz c
 have he := amz e
 have hf := amz f
 rw [← Int.natCast_add, ajj _ (by omega), ← Int.natCast_add, ajj _ (by omega), ← Int.natCast_add, ajj _ (by omega), ← Int.natCast_add, ajj _ (by omega), ← Int.natCast_add, ajj _ (by omega), bch _ (by omega), BitVec.toNat_add, BitVec.toNat_add, BitVec.toNat_add, BitVec.toNat_add, BitVec.toNat_add]
 omega
theorem bmh (a b c e f g h : BitVec 32) : bits .and .u64 (IntKind.u64.wrap (IntKind.u64.wrap (IntKind.u64.wrap (IntKind.u64.wrap (IntKind.u64.wrap ((a.toNat : Int) + (b.toNat : Int)) + (c.toNat : Int)) + (e.toNat : Int)) + (f.toNat : Int)) + IntKind.u64.wrap ((g.toNat : Int) + (h.toNat : Int)))) 4294967295 = (((a + b + c + e + f) + (g + h)).toNat : Int) := by
 have ha := amz a
 have hb := amz b
 have hc := amz c
 have he := amz e
 have hf := amz f
 have hg := amz g
 have hh := amz h
 rw [← Int.natCast_add, ajj _ (by omega), ← Int.natCast_add, ajj _ (by omega), ← Int.natCast_add, ajj _ (by omega), ← Int.natCast_add, ajj _ (by omega), ← Int.natCast_add (g.toNat), ajj _ (by omega), ← Int.natCast_add, ajj _ (by omega), bch _ (by omega), BitVec.toNat_add, BitVec.toNat_add, BitVec.toNat_add, BitVec.toNat_add, BitVec.toNat_add, BitVec.toNat_add]
 omega
theorem boz (e f g : BitVec 32) : bits .xor .u64 (bits .and .u64 (e.toNat : Int) (f.toNat : Int)) (bits .and .u64 (bits .xor .u64 4294967295 (e.toNat : Int)) (g.toNat : Int)) = ((g ^^^ (e &&& (f ^^^ g))).toNat : Int) := by
 rw [show (4294967295 : Int) = ((BitVec.allOnes 32).toNat : Int) from rfl, nand, be2, nand, be2, bkh]
theorem bja (a b c : BitVec 32) : bits .xor .u64 (bits .xor .u64 (bits .and .u64 (a.toNat : Int) (b.toNat : Int)) (bits .and .u64 (a.toNat : Int) (c.toNat : Int))) (bits .and .u64 (b.toNat : Int) (c.toNat : Int)) = (((a &&& b) ||| (c &&& (a ||| b))).toNat : Int) := by
 rw [nand, nand, nand, be2, be2, ber]
def amo (b : List Int) (t : Nat) : List (BitVec 32) := (List.range t).map (W p32 (jy 32 b 16))
theorem ap7 (b : List Int) (t : Nat) : amo b (t + 1) = amo b t ++ [W p32 (jy 32 b 16) t] := by simp [amo, List.range_succ]
theorem aub (b : List Int) (t : Nat) : (amo b t).length = t := by simp [amo]
theorem aj5 (b : List Int) (t i : Nat) (h : i < t) : (amo b t).getD i 0 = W p32 (jy 32 b 16) i := by
 unfold amo
 rw [getD_lt (by simpa using h)]; simp
theorem bhd (b : List Int) (t : Nat) (h : t < 16) : W p32 (jy 32 b 16) t = BitVec.ofNat 32 (T 8 ((b.take ((t + 1) * 4)).drop (t * 4)).reverse) := by
 rw [← bfe p32 _ (by rw [ni]; omega) 0 t (by rw [ni]; omega), show sched p32 (jy 32 b 16) 0 = jy 32 b 16 from rfl, getD_lt (by rw [ni]; exact h)]
 simp [jy]
theorem az8 (b : List Int) (hb : In 256 b) (hl : b.length = 16 * 4) {ρ : Type} (k : List Int → Option ρ) : P.aac b false 64 4294967295 k = k (cv (amo b 64)) := by
 rw [P.aht]
 unfold P.adu
 rw [o8, P.aho]
 unfold P.ahb P.bjf P.bhk P.bln
 refine y5 (fun t => (b, false, 64, 4294967295, 4, (t : Int), cv (amo b t))) 64 rfl (fun t ht next hn' => ?_) (fun next => ?_) (by omega)
 ·simp only [P.adb, toNat_cast]
  have e1 : IntKind.i64.wrap ((t : Int) + 1) = ((t + 1 : Nat) : Int) := by rw [yu (by omega) (by omega)]; omega
  rw [av (by omega)]
  have hlen := aub b t
  by_cases h16 : t < 16
  ·have e2 : IntKind.i64.wrap ((t : Int) * 4) = ((t * 4 : Nat) : Int) := by rw [yu (by omega) (by omega)]; omega
   have e3 : IntKind.i64.wrap (IntKind.i64.wrap ((t : Int) * 4) + 4) = (((t + 1) * 4 : Nat) : Int) := by rw [e2, yu (by omega) (by omega)]; omega
   have hl2 : ((b.take ((t + 1) * 4)).drop (t * 4)).length = 4 := by simp; omega
   rw [av (by omega), e3, e2, av (by omega), av (by omega), av (by omega)]
   simp only [toNat_cast]
   have hT := bkp 8 ((b.take ((t + 1) * 4)).drop (t * 4)).reverse
   rw [List.length_reverse, hl2] at hT
   have e4 : ((T 8 ((b.take ((t + 1) * 4)).drop (t * 4)).reverse % 2 ^ 64 : Nat) : Int) = ((W p32 (jy 32 b 16) t).toNat : Int) := by
    rw [bhd b t h16, BitVec.toNat_ofNat, Nat.mod_eq_of_lt (by omega), Nat.mod_eq_of_lt (by omega)]
   rw [ze _ ((hb.take _).drop _) (by omega), av (by rw [qg]; omega), e4, e1, show [((W p32 (jy 32 b 16) t).toNat : Int)] = cv [W p32 (jy 32 b 16) t] from rfl, ac7, ← ap7]
   exact hn'
  ·have e15 : IntKind.i64.wrap ((t : Int) - 15) = ((t - 15 : Nat) : Int) := by rw [yu (by omega) (by omega)]; omega
   have e2 : IntKind.i64.wrap ((t : Int) - 2) = ((t - 2 : Nat) : Int) := by rw [yu (by omega) (by omega)]; omega
   have e7 : IntKind.i64.wrap ((t : Int) - 7) = ((t - 7 : Nat) : Int) := by rw [yu (by omega) (by omega)]; omega
   have e16 : IntKind.i64.wrap ((t : Int) - 16) = ((t - 16 : Nat) : Int) := by rw [yu (by omega) (by omega)]; omega
   simp only [e15, e2, e7, e16, toNat_cast, aeo, qg, hlen]
   rw [aj5 b t _ (by omega), aj5 b t _ (by omega), aj5 b t _ (by omega), aj5 b t _ (by omega)]
   rw [dx (by omega), av (by omega), av (by omega), bes _ p32.a _ _ _ (by rfl) (by rfl) (by rfl) (by decide) (by decide) (by decide), av (by omega), av (by omega), bes _ p32.b _ _ _ (by rfl) (by rfl) (by rfl) (by decide) (by decide) (by decide), o8]
   have hW := ayf p32 (jy 32 b 16) (ni b 16) (t - 16)
   rw [show t - 16 + 16 = t by omega, show t - 16 + 1 = t - 15 by omega, show t - 16 + 9 = t - 7 by omega, show t - 16 + 14 = t - 2 by omega] at hW
   have hW2 : lo p32.b (W p32 (jy 32 b 16) (t - 2)) + W p32 (jy 32 b 16) (t - 7) + lo p32.a (W p32 (jy 32 b 16) (t - 15)) + W p32 (jy 32 b 16) (t - 16) = W p32 (jy 32 b 16) t := by rw [hW]; ac_rfl
   rw [av (by omega), av (by omega), av (by omega), av (by omega), av (by omega), boq, hW2, e1, show [((W p32 (jy 32 b 16) t).toNat : Int)] = cv [W p32 (jy 32 b 16) t] from rfl, ac7, ← ap7]
   exact hn'
 ·simp only [P.adb]
  rw [dx (by omega)]
theorem bfk (b : List Int) (v : List (BitVec 32)) (hv : v.length = 8) (h0 h1 : List Int) {ρ : Type} (k0 : Bool → Int → Int → Int → List Int → List Int → List Int → List Int → List Int → List Int → Option ρ) :
    P.abq false 64 4294967295 0 h0 h1 P.roots256 P.roots512 (cv (amo b 64)) (cv v) k0 = k0 false 64 4294967295 64 h0 h1 P.roots256 P.roots512 (cv (amo b 64)) (cv (runs p32 (jy 32 b 16) v 64)) := by
 rw [P.ags]
 unfold P.af9 P.biy P.bhp P.bks
 refine y5 (fun t => (false, 64, 4294967295, (t : Int), h0, h1, P.roots256, P.roots512, cv (amo b 64), cv (runs p32 (jy 32 b 16) v t))) 64 rfl (fun t ht next hn' => ?_) (fun next => ?_) (by omega)
 ·simp only [P.aby]
  have e1 : IntKind.i64.wrap ((t : Int) + 1) = ((t + 1 : Nat) : Int) := by rw [yu (by omega) (by omega)]; omega
  have hlen := aub b 64
  simp only [e1, toNat_cast, aeo, qg, hlen]
  rw [aj5 b 64 t ht, K32]
  rw [av (by omega), bfg _ p32.c _ _ _ (by rfl) (by rfl) (by rfl) (by decide) (by decide) (by decide), bfg _ p32.d _ _ _ (by rfl) (by rfl) (by rfl) (by decide) (by decide) (by decide), o8]
  rw [av (by omega), av (by omega), av (by omega), av (by omega), boz, bja, bmh, bo5]
  exact hn'
 ·simp only [P.aby]
  rw [dx (by omega)]
  rfl
theorem bgj (v u : List (BitVec 32)) (hv : v.length = 8) (hu : u.length = 8) (h1 : List Int) {ρ : Type} (k0 : Int → Int → List Int → List Int → List Int → Option ρ) :
    P.ab0 4294967295 0 (cv v) h1 (cv u) k0 = k0 4294967295 8 (cv v) h1 (cv ((List.range 8).map fun i => u.getD i 0 + v.getD i 0)) := by
 rw [P.agv]
 unfold P.agc P.bjk P.bhi P.blq
 refine y5 (fun i => (4294967295, (i : Int), cv v, h1, cv (((List.range i).map fun i => u.getD i 0 + v.getD i 0) ++ u.drop i))) 8 (by simp) (fun i hi next hn' => ?_) (fun next => ?_) (by omega)
 ·simp only [P.abu, toNat_cast, aeo]
  have e1 : IntKind.i64.wrap ((i : Int) + 1) = ((i + 1 : Nat) : Int) := by rw [yu (by omega) (by omega)]; omega
  have e2 : (((List.range i).map fun i => u.getD i 0 + v.getD i 0) ++ u.drop i).getD i 0 = u.getD i 0 := by
   rw [List.getD_eq_getElem?_getD, List.getElem?_append_right (by simp), List.getElem?_drop, List.length_map, List.length_range, List.getD_eq_getElem?_getD]
   congr 2
   omega
  rw [e1, e2, bod, ap8]
  have e3 : (((List.range i).map fun i => u.getD i 0 + v.getD i 0) ++ u.drop i).set i (u.getD i 0 + v.getD i 0) = ((List.range (i + 1)).map fun i => u.getD i 0 + v.getD i 0) ++ u.drop (i + 1) := by
   rw [List.set_append_right _ _ (by simp), List.length_map, List.length_range, Nat.sub_self, List.range_succ, List.map_append, List.append_assoc, List.drop_eq_getElem_cons (by omega), List.set_cons_zero]
   rfl
  rw [e3]
  simp (disch := omega) only [av, dx, iw, ig, d9, fq, tu, vk, o8, yu]
  exact hn'
 ·simp only [P.abu]
  rw [dx (by omega), List.drop_eq_nil_of_le (by omega), List.append_nil]
  rfl
theorem bap (v : List (BitVec 32)) (hv : v.length = 8) (b : List Int) (hb : In 256 b) (hl : b.length = 16 * 4) {ρ : Type} (k : List Int → Option ρ) : P.abb (cv v) b false k = k (cv (aoo p32 v b)) := by
 rw [P.ahh]
 unfold P.adv
 have hr1 : ∀ (k : List Int → Option ρ), P.qx k = k P.roots256 := fun k => by rw [P.ad3]; kernel_rfl
 have hr2 : ∀ (k : List Int → Option ρ), P.qy k = k P.roots512 := fun k => by rw [P.ad6]; kernel_rfl
 rw [hr1, hr2, o8, az8 b hb hl, bfk b v hv, bgj v _ hv (ah1 _ _ _ hv _)]
 rfl
end Q
end

section
/- SHA-2: the program's engine of 64 bits. -/
namespace Q
open Go Go.Abs
set_option linter.unusedVariables false
set_option linter.unusedSimpArgs false
theorem afb (rd : Int) (t0 t1 t2 t3 : List Int) (x : BitVec 64) (m : Int) (n : Nat) (hm : m = (n : Int)) (hn : n ≤ 64) {ρ : Type} (k : Int → Option ρ) :
    P.ay 64 rd t0 t1 t2 t3 (x.toNat : Int) m k = k ((rr x n).toNat : Int) := by
 subst hm
 rw [P.zn]
 unfold P.qo
 rw [dx (by omega), yu (by omega) (by omega), dx (by omega), show (64 : Int) - (n : Int) = ((64 - n : Nat) : Int) by omega]
 simp only [toNat_cast]
 rw [ba2 _ _ hn, bj9 _ _ (by omega), bnp]
 rfl
theorem bbr (rd : Int) (x : BitVec 64) {ρ : Type} (k : Int → Option ρ) : P.jg 64 rd [1, 8, 7] [19, 61, 6] [28, 34, 39] [14, 18, 41] (x.toNat : Int) 3 k = k ((hi p64.d x).toNat : Int) := by
 rw [P.u7]
 unfold P.pz
 simp only [List.getD_cons_zero, List.getD_cons_succ]
 rw [dx (by decide), dx (by decide), dx (by decide), av (by decide), afb _ _ _ _ _ _ _ 14 (by rfl) (by omega), afb _ _ _ _ _ _ _ 18 (by rfl) (by omega), afb _ _ _ _ _ _ _ 41 (by rfl) (by omega), agz, agz]
 rfl
theorem bbh (rd : Int) (x : BitVec 64) {ρ : Type} (k : Int → Option ρ) : P.jg 64 rd [1, 8, 7] [19, 61, 6] [28, 34, 39] [14, 18, 41] (x.toNat : Int) 2 k = k ((hi p64.c x).toNat : Int) := by
 rw [P.u7]
 unfold P.pz
 simp only [List.getD_cons_zero, List.getD_cons_succ]
 rw [dx (by decide), dx (by decide), av (by decide), afb _ _ _ _ _ _ _ 28 (by rfl) (by omega), afb _ _ _ _ _ _ _ 34 (by rfl) (by omega), afb _ _ _ _ _ _ _ 39 (by rfl) (by omega), agz, agz]
 rfl
theorem bc5 (rd : Int) (x : BitVec 64) {ρ : Type} (k : Int → Option ρ) : P.jm 64 rd [1, 8, 7] [19, 61, 6] [28, 34, 39] [14, 18, 41] (x.toNat : Int) 0 k = k ((lo p64.a x).toNat : Int) := by
 rw [P.wo]
 unfold P.p9
 simp only [List.getD_cons_zero, List.getD_cons_succ]
 rw [av (by decide), afb _ _ _ _ _ _ _ 1 (by rfl) (by omega), afb _ _ _ _ _ _ _ 8 (by rfl) (by omega), dx (by decide), agz, show (7 : Int).toNat = 7 from rfl, ba2 _ _ (by omega), agz]
 rfl
theorem beb (rd : Int) (x : BitVec 64) {ρ : Type} (k : Int → Option ρ) : P.jm 64 rd [1, 8, 7] [19, 61, 6] [28, 34, 39] [14, 18, 41] (x.toNat : Int) 1 k = k ((lo p64.b x).toNat : Int) := by
 rw [P.wo]
 unfold P.p9
 simp only [List.getD_cons_zero, List.getD_cons_succ]
 rw [dx (by decide), av (by decide), afb _ _ _ _ _ _ _ 19 (by rfl) (by omega), afb _ _ _ _ _ _ _ 61 (by rfl) (by omega), dx (by decide), agz, show (6 : Int).toNat = 6 from rfl, ba2 _ _ (by omega), agz]
 rfl
theorem bc6 (t : Nat) (h : t < 80) {ρ : Type} (k : Int → Option ρ) : P.lg (t : Int) k = k ((p64.K t).toNat : Int) := by
 rw [P.aij]
 unfold P.aeb
 rw [av (by omega), av (by omega), toNat_cast, K64]
theorem bji (b : List Int) (hb : In 256 b) (hl : b.length = 16 * 8) (rd : Int) (t0 t1 t2 t3 h1 h2 : List Int) {ρ : Type} (k0 : List Int → Int → Int → Int → Int → List Int → List Int → List Int → List Int → List Int → List Int → List Int → Option ρ) :
    P.uq b 8 0 64 rd t0 t1 t2 t3 h1 h2 (List.replicate 16 0) k0 = k0 b 8 16 64 rd t0 t1 t2 t3 h1 h2 (cv (jy 64 b 16)) := by
 rw [P.adl]
 unfold P.aa5 P.blh P.bjv P.bog
 refine y5 (fun i => (b, 8, (i : Int), 64, rd, t0, t1, t2, t3, h1, h2, cv (jy 64 b i) ++ List.replicate (16 - i) 0)) 16 (by simp [jy, cv]) (fun i hi next hn' => ?_) (fun next => ?_) (by omega)
 ·simp only [P.uo, toNat_cast]
  have e1 : IntKind.i64.wrap ((i : Int) * 8) = ((i * 8 : Nat) : Int) := by rw [yu (by omega) (by omega)]; omega
  have e2 : IntKind.i64.wrap (IntKind.i64.wrap ((i : Int) + 1) * 8) = (((i + 1) * 8 : Nat) : Int) := by rw [yu (x := (i : Int) + 1) (by omega) (by omega), yu (by omega) (by omega)]; omega
  rw [e1, e2]
  simp only [toNat_cast]
  have hlen : ((b.take ((i + 1) * 8)).drop (i * 8)).length = 8 := by simp; omega
  rw [av (by omega), av (by omega), av (by omega), av (by omega), qd _ ((hb.take _).drop _) (by omega), av (by omega), av (by omega)]
  have e3 : ((T 8 ((b.take ((i + 1) * 8)).drop (i * 8)).reverse % 2 ^ 64 : Nat) : Int) = (((BitVec.ofNat 64 (T 8 ((b.take ((i + 1) * 8)).drop (i * 8)).reverse)).toNat : Nat) : Int) := by
   rw [BitVec.toNat_ofNat]
  have e4 : IntKind.i64.wrap ((i : Int) + 1) = ((i + 1 : Nat) : Int) := by rw [yu (by omega) (by omega)]; omega
  rw [e3, e4]
  have e5 : (cv (jy 64 b i) ++ List.replicate (16 - i) (0 : Int)).set i (((BitVec.ofNat 64 (T 8 ((b.take ((i + 1) * 8)).drop (i * 8)).reverse)).toNat : Nat) : Int) = cv (jy 64 b (i + 1)) ++ List.replicate (16 - (i + 1)) 0 := by
   rw [List.set_append_right _ _ (by simp [ni]), qg, ni, Nat.sub_self, show 16 - i = (16 - (i + 1)) + 1 by omega, List.replicate_succ, List.set_cons_zero, anz, ← ac7, List.append_assoc]
   rfl
  rw [e5]
  exact hn'
 ·simp only [P.uo]
  rw [dx (by omega)]
  simp
theorem bgl (l v : List (BitVec 64)) (hv : v.length = 8) (h2 h1 : List Int) {ρ : Type} (k0 : Int → Int → List Int → List Int → List Int → Int → Int → List Int → List Int → List Int → List Int → List Int → Option ρ) (hl : l.length = 16) :
    P.oz 80 0 (cv (win p64 l 0)) h2 h1 64 80 [1, 8, 7] [19, 61, 6] [28, 34, 39] [14, 18, 41] (cv v) k0 =
     k0 80 80 (cv (win p64 l 80)) h2 h1 64 80 [1, 8, 7] [19, 61, 6] [28, 34, 39] [14, 18, 41] (cv (runs p64 l v 80)) := by
 rw [P.adf]
 unfold P.aaj P.bkz P.bkf P.bny
 refine y5 (fun t => (80, (t : Int), cv (win p64 l t), h2, h1, 64, 80, [1, 8, 7], [19, 61, 6], [28, 34, 39], [14, 18, 41], cv (runs p64 l v t))) 80 rfl (fun t ht next hn' => ?_) (fun next => ?_) (by omega)
 ·simp only [P.ru]
  have e1 : IntKind.i64.wrap ((t : Int) + 1) = ((t + 1 : Nat) : Int) := by rw [yu (by omega) (by omega)]; omega
  have e9 : IntKind.i64.wrap ((t : Int) + 9) = ((t + 9 : Nat) : Int) := by rw [yu (by omega) (by omega)]; omega
  have e14 : IntKind.i64.wrap ((t : Int) + 14) = ((t + 14 : Nat) : Int) := by rw [yu (by omega) (by omega)]; omega
  simp only [e1, e9, e14, bqv, toNat_cast, aeo]
  have g0 := amg p64 l t 0 (by omega)
  rw [Nat.add_zero] at g0
  rw [g0, amg p64 l t 1 (by omega), amg p64 l t 9 (by omega), amg p64 l t 14 (by omega)]
  have hV := v8 _ (ah1 p64 l v hv t)
  rw [av (by omega), av (by omega), av (by omega), bbr, bc6 t ht, bbh, av (by omega), av (by omega), bc5, av (by omega), av (by omega), av (by omega), av (by omega), beb, av (by omega), av (by omega)]
  simp only [agx, agz, ay8, bnp]
  rw [← ayf p64 l hl t, ap8, ayd]
  have hr : cv (runs p64 l v (t + 1)) = (((List.take 1 (cv (runs p64 l v t))).append (List.take 7 (List.take 7 (List.drop 0 (cv (runs p64 l v t)))) ++ List.drop (1 + min 7 (List.take 7 (List.drop 0 (cv (runs p64 l v t)))).length) (cv (runs p64 l v t)))).set 4
      (((runs p64 l v t).getD 3 0 + bhn p64 t (W p64 l t) (runs p64 l v t)).toNat : Int)).set 0 ((bhn p64 t (W p64 l t) (runs p64 l v t) + boy p64 (runs p64 l v t)).toNat : Int) := by
   rw [hV]
   rfl
  have h3 : ((List.take 1 (cv (runs p64 l v t))).append (List.take 7 (List.take 7 (List.drop 0 (cv (runs p64 l v t)))) ++ List.drop (1 + min 7 (List.take 7 (List.drop 0 (cv (runs p64 l v t)))).length) (cv (runs p64 l v t)))).getD 4 0 = (((runs p64 l v t).getD 3 0).toNat : Int) := by
   rw [hV]
   rfl
  rw [h3, agx]
  rw [hr] at hn'
  exact hn'
 ·simp only [P.ru]
  rw [dx (by omega)]
  rfl
theorem bg8 (v u : List (BitVec 64)) (hv : v.length = 8) (hu : u.length = 8) (h2 : List Int) {ρ : Type} (k0 : Int → List Int → List Int → List Int → Option ρ) :
    P.o7 0 (cv v) h2 (cv u) k0 = k0 8 (cv v) h2 (cv ((List.range 8).map fun i => u.getD i 0 + v.getD i 0)) := by
 rw [P.ac5]
 unfold P.aau P.blr P.bhy P.bno
 have hs : ∀ i, i ≤ 8 → (((List.range i).map fun i => u.getD i 0 + v.getD i 0) ++ u.drop i).length = 8 := fun i hi => by simp; omega
 refine y5 (fun i => ((i : Int), cv v, h2, cv (((List.range i).map fun i => u.getD i 0 + v.getD i 0) ++ u.drop i))) 8 (by simp) (fun i hi next hn' => ?_) (fun next => ?_) (by omega)
 ·simp only [P.sw, toNat_cast, aeo]
  have e1 : IntKind.i64.wrap ((i : Int) + 1) = ((i + 1 : Nat) : Int) := by rw [yu (by omega) (by omega)]; omega
  have e2 : (((List.range i).map fun i => u.getD i 0 + v.getD i 0) ++ u.drop i).getD i 0 = u.getD i 0 := by
   rw [List.getD_eq_getElem?_getD, List.getElem?_append_right (by simp), List.getElem?_drop, List.length_map, List.length_range, List.getD_eq_getElem?_getD]
   congr 2
   omega
  rw [e1, e2, agx, ap8]
  have e3 : (((List.range i).map fun i => u.getD i 0 + v.getD i 0) ++ u.drop i).set i (u.getD i 0 + v.getD i 0) = ((List.range (i + 1)).map fun i => u.getD i 0 + v.getD i 0) ++ u.drop (i + 1) := by
   rw [List.set_append_right _ _ (by simp), List.length_map, List.length_range, Nat.sub_self, List.range_succ, List.map_append, List.append_assoc, List.drop_eq_getElem_cons (by omega), List.set_cons_zero]
   rfl
  rw [e3]
  simp (disch := omega) only [av, dx, iw, ig, d9, fq, tu, vk, o8, yu]
  exact hn'
 ·simp only [P.sw]
  rw [dx (by omega), List.drop_eq_nil_of_le (by omega), List.append_nil]
  rfl
theorem bbk (v : List (BitVec 64)) (hv : v.length = 8) (b : List Int) (hb : In 256 b) (hl : b.length = 16 * 8) {ρ : Type} (k : List Int → Option ρ) :
    P.jr 64 80 [1, 8, 7] [19, 61, 6] [28, 34, 39] [14, 18, 41] (cv v) b k = k (cv (aoo p64 v b)) := by
 rw [P.aa8]
 unfold P.sj
 rw [show IntKind.i64.wrap ((64 : Int).tdiv 8) = 8 from rfl]
 have := bji b hb hl 80 [1, 8, 7] [19, 61, 6] [28, 34, 39] [14, 18, 41] (cv v) (List.replicate 8 0) (fun (q0 : List Int) (q1 q2 q3 q4 : Int) (q5 q6 q7 q8 q9 q10 q11 : List Int) =>
  P.oz q4 (0 : Int) q11 q10 q9 q3 q4 q5 q6 q7 q8 q9
   fun (q12 q13 : Int) (q14 q15 q16 : List Int) (q17 q18 : Int) (q19 q20 q21 q22 q23 : List Int) =>
   P.o7 (0 : Int) q16 q15 q23 fun (q24 : Int) (q25 q26 q27 : List Int) => k q27)
 refine this.trans ?_
 rw [← win_zero p64, bgl _ v hv _ _ _ (ni b 16), bg8 v _ hv (ah1 _ _ _ hv _)]
 rfl
end Q
end

section
/- SHA-2: the document's block of words of 64 bits. -/
namespace Q
open Go Go.Abs
set_option linter.unusedVariables false
set_option linter.unusedSimpArgs false
theorem ag8 (x : BitVec 64) (m : Int) (n : Nat) (hm : m = (n : Int)) (hn : n ≤ 64) {ρ : Type} (k : Int → Option ρ) : P.um (x.toNat : Int) m true k = k ((rr x n).toNat : Int) := by
 subst hm
 rw [P.ae1]
 unfold P.abz
 rw [vk, dx (by omega), yu (by omega) (by omega), dx (by omega), show (64 : Int) - (n : Int) = ((64 - n : Nat) : Int) by omega]
 simp only [toNat_cast]
 rw [ba2 _ _ hn, bj9 _ _ (by omega), bnp]
 rfl
theorem bew (x : BitVec 64) (t : Nat × Nat × Nat) (a b c : Int) (ha : a = (t.1 : Int)) (hb : b = (t.2.1 : Int)) (hc : c = (t.2.2 : Int)) (h1 : t.1 ≤ 64) (h2 : t.2.1 ≤ 64) (h3 : t.2.2 ≤ 64) {ρ : Type} (k : Int → Option ρ) :
    P.ug (x.toNat : Int) a b c false true k = k ((hi t x).toNat : Int) := by
 rw [P.aci]
 unfold P.aap
 rw [dx (by omega), tu, o8, ag8 _ _ _ hc h3, ag8 _ _ _ ha h1, ag8 _ _ _ hb h2, agz, agz]
 rfl
theorem bfb (x : BitVec 64) (t : Nat × Nat × Nat) (a b c : Int) (ha : a = (t.1 : Int)) (hb : b = (t.2.1 : Int)) (hc : c = (t.2.2 : Int)) (h1 : t.1 ≤ 64) (h2 : t.2.1 ≤ 64) (h3 : t.2.2 ≤ 64) {ρ : Type} (k : Int → Option ρ) :
    P.ug (x.toNat : Int) a b c true true k = k ((lo t x).toNat : Int) := by
 rw [P.aci]
 unfold P.aap
 rw [dx (by omega), tu, vk, ag8 _ _ _ ha h1, ag8 _ _ _ hb h2, agz, hc]
 simp only [toNat_cast]
 rw [ba2 _ _ h3, agz]
 rfl
theorem bo9 (a b c d : BitVec 64) : bits .and .u64 (IntKind.u64.wrap (IntKind.u64.wrap (IntKind.u64.wrap ((a.toNat : Int) + (b.toNat : Int)) + (c.toNat : Int)) + (d.toNat : Int))) 18446744073709551615 = ((a + b + c + d).toNat : Int) := by
 rw [agx, agx, agx, bd6 _ (bgx _)]
theorem bo4 (a b : BitVec 64) : bits .and .u64 (IntKind.u64.wrap ((a.toNat : Int) + (b.toNat : Int))) 18446744073709551615 = ((a + b).toNat : Int) := by
 rw [agx, bd6 _ (bgx _)]
theorem bnf (d a b c e f : BitVec 64) : bits .and .u64 (IntKind.u64.wrap ((d.toNat : Int) + IntKind.u64.wrap (IntKind.u64.wrap (IntKind.u64.wrap (IntKind.u64.wrap ((a.toNat : Int) + (b.toNat : Int)) + (c.toNat : Int)) + (e.toNat : Int)) + (f.toNat : Int)))) 18446744073709551615 = ((d + (a + b + c + e + f)).toNat : Int) := by
 rw [agx, agx, agx, agx, agx, bd6 _ (bgx _)]
theorem bmi (a b c e f g h : BitVec 64) : bits .and .u64 (IntKind.u64.wrap (IntKind.u64.wrap (IntKind.u64.wrap (IntKind.u64.wrap (IntKind.u64.wrap ((a.toNat : Int) + (b.toNat : Int)) + (c.toNat : Int)) + (e.toNat : Int)) + (f.toNat : Int)) + IntKind.u64.wrap ((g.toNat : Int) + (h.toNat : Int)))) 18446744073709551615 = (((a + b + c + e + f) + (g + h)).toNat : Int) := by
 rw [agx, agx, agx, agx, agx, agx, bd6 _ (bgx _)]
theorem bmn (e f g : BitVec 64) : bits .xor .u64 (bits .and .u64 (e.toNat : Int) (f.toNat : Int)) (bits .and .u64 (bits .xor .u64 18446744073709551615 (e.toNat : Int)) (g.toNat : Int)) = ((g ^^^ (e &&& (f ^^^ g))).toNat : Int) := by
 rw [show (18446744073709551615 : Int) = ((BitVec.allOnes 64).toNat : Int) from rfl, ay8, agz, ay8, agz, bkh]
theorem bim (a b c : BitVec 64) : bits .xor .u64 (bits .xor .u64 (bits .and .u64 (a.toNat : Int) (b.toNat : Int)) (bits .and .u64 (a.toNat : Int) (c.toNat : Int))) (bits .and .u64 (b.toNat : Int) (c.toNat : Int)) = (((a &&& b) ||| (c &&& (a ||| b))).toNat : Int) := by
 rw [ay8, ay8, ay8, agz, agz, ber]
def amt (b : List Int) (t : Nat) : List (BitVec 64) := (List.range t).map (W p64 (jy 64 b 16))
theorem aq2 (b : List Int) (t : Nat) : amt b (t + 1) = amt b t ++ [W p64 (jy 64 b 16) t] := by simp [amt, List.range_succ]
theorem au6 (b : List Int) (t : Nat) : (amt b t).length = t := by simp [amt]
theorem akv (b : List Int) (t i : Nat) (h : i < t) : (amt b t).getD i 0 = W p64 (jy 64 b 16) i := by
 unfold amt
 rw [getD_lt (by simpa using h)]; simp
theorem bg6 (b : List Int) (t : Nat) (h : t < 16) : W p64 (jy 64 b 16) t = BitVec.ofNat 64 (T 8 ((b.take ((t + 1) * 8)).drop (t * 8)).reverse) := by
 rw [← bfe p64 _ (by rw [ni]; omega) 0 t (by rw [ni]; omega), show sched p64 (jy 64 b 16) 0 = jy 64 b 16 from rfl, getD_lt (by rw [ni]; exact h)]
 simp [jy]
theorem bbv (b : List Int) (hb : In 256 b) (hl : b.length = 16 * 8) {ρ : Type} (k : List Int → Option ρ) : P.aac b true 80 18446744073709551615 k = k (cv (amt b 80)) := by
 rw [P.aht]
 unfold P.adu
 rw [vk, P.aho]
 unfold P.ahb P.bjf P.bhk P.bln
 refine y5 (fun t => (b, true, 80, 18446744073709551615, 8, (t : Int), cv (amt b t))) 80 rfl (fun t ht next hn' => ?_) (fun next => ?_) (by omega)
 ·simp only [P.adb, toNat_cast]
  have e1 : IntKind.i64.wrap ((t : Int) + 1) = ((t + 1 : Nat) : Int) := by rw [yu (by omega) (by omega)]; omega
  rw [av (by omega)]
  have hlen := au6 b t
  by_cases h16 : t < 16
  ·have e2 : IntKind.i64.wrap ((t : Int) * 8) = ((t * 8 : Nat) : Int) := by rw [yu (by omega) (by omega)]; omega
   have e3 : IntKind.i64.wrap (IntKind.i64.wrap ((t : Int) * 8) + 8) = (((t + 1) * 8 : Nat) : Int) := by rw [e2, yu (by omega) (by omega)]; omega
   have hl2 : ((b.take ((t + 1) * 8)).drop (t * 8)).length = 8 := by simp; omega
   rw [av (by omega), e3, e2, av (by omega), av (by omega), av (by omega)]
   simp only [toNat_cast]
   have hT := bkp 8 ((b.take ((t + 1) * 8)).drop (t * 8)).reverse
   rw [List.length_reverse, hl2] at hT
   have e4 : ((T 8 ((b.take ((t + 1) * 8)).drop (t * 8)).reverse % 2 ^ 64 : Nat) : Int) = ((W p64 (jy 64 b 16) t).toNat : Int) := by
    rw [bg6 b t h16, BitVec.toNat_ofNat]
   rw [ze _ ((hb.take _).drop _) (by omega), av (by rw [qg]; omega), e4, e1, show [((W p64 (jy 64 b 16) t).toNat : Int)] = cv [W p64 (jy 64 b 16) t] from rfl, ac7, ← aq2]
   exact hn'
  ·have e15 : IntKind.i64.wrap ((t : Int) - 15) = ((t - 15 : Nat) : Int) := by rw [yu (by omega) (by omega)]; omega
   have e2 : IntKind.i64.wrap ((t : Int) - 2) = ((t - 2 : Nat) : Int) := by rw [yu (by omega) (by omega)]; omega
   have e7 : IntKind.i64.wrap ((t : Int) - 7) = ((t - 7 : Nat) : Int) := by rw [yu (by omega) (by omega)]; omega
   have e16 : IntKind.i64.wrap ((t : Int) - 16) = ((t - 16 : Nat) : Int) := by rw [yu (by omega) (by omega)]; omega
   simp only [e15, e2, e7, e16, toNat_cast, aeo, qg, hlen]
   rw [akv b t _ (by omega), akv b t _ (by omega), akv b t _ (by omega), akv b t _ (by omega)]
   obtain ⟨q1, m1⟩ := ax8 ((W p64 (jy 64 b 16) (t - 15)).toNat : Int) 7 18 3 7 18 3 rfl rfl rfl (by omega) (by omega) (by omega)
   obtain ⟨q2, m2⟩ := ax8 ((W p64 (jy 64 b 16) (t - 2)).toNat : Int) 17 19 10 17 19 10 rfl rfl rfl (by omega) (by omega) (by omega)
   rw [dx (by omega), av (by omega), av (by omega), m1, av (by omega), av (by omega), m2, vk, av (by omega), av (by omega), bfb _ p64.a _ _ _ (by rfl) (by rfl) (by rfl) (by decide) (by decide) (by decide), av (by omega), av (by omega), bfb _ p64.b _ _ _ (by rfl) (by rfl) (by rfl) (by decide) (by decide) (by decide)]
   have hW := ayf p64 (jy 64 b 16) (ni b 16) (t - 16)
   rw [show t - 16 + 16 = t by omega, show t - 16 + 1 = t - 15 by omega, show t - 16 + 9 = t - 7 by omega, show t - 16 + 14 = t - 2 by omega] at hW
   have hW2 : lo p64.b (W p64 (jy 64 b 16) (t - 2)) + W p64 (jy 64 b 16) (t - 7) + lo p64.a (W p64 (jy 64 b 16) (t - 15)) + W p64 (jy 64 b 16) (t - 16) = W p64 (jy 64 b 16) t := by rw [hW]; ac_rfl
   rw [av (by omega), av (by omega), av (by omega), av (by omega), av (by omega), bo9, hW2, e1, show [((W p64 (jy 64 b 16) t).toNat : Int)] = cv [W p64 (jy 64 b 16) t] from rfl, ac7, ← aq2]
   exact hn'
 ·simp only [P.adb]
  rw [dx (by omega)]
theorem bgw (b : List Int) (v : List (BitVec 64)) (hv : v.length = 8) (h0 h1 : List Int) {ρ : Type} (k0 : Bool → Int → Int → Int → List Int → List Int → List Int → List Int → List Int → List Int → Option ρ) :
    P.abq true 80 18446744073709551615 0 h0 h1 P.roots256 P.roots512 (cv (amt b 80)) (cv v) k0 = k0 true 80 18446744073709551615 80 h0 h1 P.roots256 P.roots512 (cv (amt b 80)) (cv (runs p64 (jy 64 b 16) v 80)) := by
 rw [P.ags]
 unfold P.af9 P.biy P.bhp P.bks
 refine y5 (fun t => (true, 80, 18446744073709551615, (t : Int), h0, h1, P.roots256, P.roots512, cv (amt b 80), cv (runs p64 (jy 64 b 16) v t))) 80 rfl (fun t ht next hn' => ?_) (fun next => ?_) (by omega)
 ·simp only [P.aby]
  have e1 : IntKind.i64.wrap ((t : Int) + 1) = ((t + 1 : Nat) : Int) := by rw [yu (by omega) (by omega)]; omega
  have hlen := au6 b 80
  simp only [e1, toNat_cast, aeo, qg, hlen]
  rw [akv b 80 t ht, K64]
  obtain ⟨q1, m1⟩ := bab (((runs p64 (jy 64 b 16) v t).getD 0 0).toNat : Int) 2 13 22 2 13 22 rfl rfl rfl (by omega) (by omega) (by omega)
  obtain ⟨q2, m2⟩ := bab (((runs p64 (jy 64 b 16) v t).getD 4 0).toNat : Int) 6 11 25 6 11 25 rfl rfl rfl (by omega) (by omega) (by omega)
  rw [av (by omega), m1, m2, vk, bew _ p64.c _ _ _ (by rfl) (by rfl) (by rfl) (by decide) (by decide) (by decide), bew _ p64.d _ _ _ (by rfl) (by rfl) (by rfl) (by decide) (by decide) (by decide)]
  rw [av (by omega), av (by omega), av (by omega), av (by omega), bmn, bim, bmi, bnf]
  exact hn'
 ·simp only [P.aby]
  rw [dx (by omega)]
  rfl
theorem bhb (v u : List (BitVec 64)) (hv : v.length = 8) (hu : u.length = 8) (h1 : List Int) {ρ : Type} (k0 : Int → Int → List Int → List Int → List Int → Option ρ) :
    P.ab0 18446744073709551615 0 (cv v) h1 (cv u) k0 = k0 18446744073709551615 8 (cv v) h1 (cv ((List.range 8).map fun i => u.getD i 0 + v.getD i 0)) := by
 rw [P.agv]
 unfold P.agc P.bjk P.bhi P.blq
 refine y5 (fun i => (18446744073709551615, (i : Int), cv v, h1, cv (((List.range i).map fun i => u.getD i 0 + v.getD i 0) ++ u.drop i))) 8 (by simp) (fun i hi next hn' => ?_) (fun next => ?_) (by omega)
 ·simp only [P.abu, toNat_cast, aeo]
  have e1 : IntKind.i64.wrap ((i : Int) + 1) = ((i + 1 : Nat) : Int) := by rw [yu (by omega) (by omega)]; omega
  have e2 : (((List.range i).map fun i => u.getD i 0 + v.getD i 0) ++ u.drop i).getD i 0 = u.getD i 0 := by
   rw [List.getD_eq_getElem?_getD, List.getElem?_append_right (by simp), List.getElem?_drop, List.length_map, List.length_range, List.getD_eq_getElem?_getD]
   congr 2
   omega
  rw [e1, e2, bo4, ap8]
  have e3 : (((List.range i).map fun i => u.getD i 0 + v.getD i 0) ++ u.drop i).set i (u.getD i 0 + v.getD i 0) = ((List.range (i + 1)).map fun i => u.getD i 0 + v.getD i 0) ++ u.drop (i + 1) := by
   rw [List.set_append_right _ _ (by simp), List.length_map, List.length_range, Nat.sub_self, List.range_succ, List.map_append, List.append_assoc, List.drop_eq_getElem_cons (by omega), List.set_cons_zero]
   rfl
  rw [e3]
  simp (disch := omega) only [av, dx, iw, ig, d9, fq, tu, vk, o8, yu]
  exact hn'
 ·simp only [P.abu]
  rw [dx (by omega), List.drop_eq_nil_of_le (by omega), List.append_nil]
  rfl
theorem bbe (v : List (BitVec 64)) (hv : v.length = 8) (b : List Int) (hb : In 256 b) (hl : b.length = 16 * 8) {ρ : Type} (k : List Int → Option ρ) : P.abb (cv v) b true k = k (cv (aoo p64 v b)) := by
 rw [P.ahh]
 unfold P.adv
 have hr1 : ∀ (k : List Int → Option ρ), P.qx k = k P.roots256 := fun k => by rw [P.ad3]; kernel_rfl
 have hr2 : ∀ (k : List Int → Option ρ), P.qy k = k P.roots512 := fun k => by rw [P.ad6]; kernel_rfl
 rw [hr1, hr2, vk, bbv b hb hl, bgw b v hv, bhb v _ hv (ah1 _ _ _ hv _)]
 rfl
end Q
end

section
/- bits, the first part: texts. -/
namespace Q
open Go Go.Abs
set_option linter.unusedVariables false
set_option linter.unusedSimpArgs false
theorem azw {a b : List Int} (hl : a.length = b.length) (hs : a.length ≤ 140737488355328) {ρ : Type} (k0 : List Int → List Int → Int → Option ρ) (k1 : Bool → Option ρ) :
    ∀ (m i : Nat), i + m = a.length → ∀ {stp : (List Int × List Int × Int) → ((List Int × List Int × Int) → Option ρ) → ((List Int × List Int × Int) ⊕ Bool → Option ρ) → Option ρ} {K : (List Int × List Int × Int) ⊕ Bool → Option ρ},
     (∀ (j : Nat) next, stp (a, b, (j : Int)) next K = br (decide ((j : Int) < (a.length : Int))) (br (a.getD j 0 != b.getD j 0) (k1 false) (next (a, b, ((j + 1 : Nat) : Int)))) (k0 a b (j : Int))) →
     lp stp (a, b, (i : Int)) K = if a.drop i = b.drop i then k0 a b (a.length : Int) else k1 false := by
 intro m i hm stp K hst
 refine bm2 (P := fun x => ∃ j : Nat, x = (a, b, (j : Int)) ∧ j ≤ a.length ∧ (if a.drop j = b.drop j then k0 a b (a.length : Int) else k1 false) = (if a.drop i = b.drop i then k0 a b (a.length : Int) else k1 false)) (μ := fun x => ((a.length : Int) - x.2.2).toNat) ?_ ⟨i, rfl, by omega, rfl⟩ (by simp only; omega)
 rintro _ ⟨j, rfl, hj, he⟩ next hn
 rw [hst, ← he]
 by_cases hji : j < a.length
 ·rw [av (by omega), aer a 0 j hji, aer b 0 j (by omega)]
  by_cases hab : a.getD j 0 = b.getD j 0
  ·rw [ig hab, hn _ ⟨j + 1, rfl, by omega, ?_⟩ (by simp only; omega), ← he, aer a 0 j hji, aer b 0 j (by omega)]
   ·rw [← he, aer a 0 j hji, aer b 0 j (by omega)]
    simp only [hab, List.cons.injEq, true_and]
  ·rw [iw hab, if_neg (by simp only [List.cons.injEq]; exact fun h => hab h.1)]
 ·have : j = a.length := by omega
  subst this
  rw [dx (by omega), if_pos (by rw [List.drop_eq_nil_of_le (Nat.le_refl _), List.drop_eq_nil_of_le (by omega)])]
theorem ab1 (a b : List Int) (h : a.length ≤ 140737488355328) {ρ : Type} (k : Bool → Option ρ) : P.ab1 a b k = k (decide (a = b)) := by
 rw [P.ant]
 unfold P.ahd
 by_cases hl : a.length = b.length
 ·rw [ig (by omega), P.apt]
  unfold P.apf P.blo P.bjr P.bqf
  have := azw hl h (fun _ _ _ => k true) k a.length 0 (by omega) (stp := (fun x next ex => P.aio x.1 x.2.1 x.2.2 (fun v0 v1 v5 => next (v0, v1, v5)) (fun v0 v1 v5 => ex (.inl (v0, v1, v5))) (fun v4 => ex (.inr v4)))) (K := Sum.elim (fun _ => k true) k) (by
   intro j next
   simp only [P.aio, Sum.elim_inl, Sum.elim_inr]
   by_cases hj : (j : Int) < (a.length : Int)
   ·simp only [av hj]
    simp (disch := omega) only [av, dx, iw, ig, d9, fq, tu, vk, o8, yu, toNat_cast]
    rfl
   ·simp only [dx hj])
  simp only [List.drop_zero] at this
  refine this.trans ?_
  by_cases hab : a = b
  ·rw [if_pos hab, decide_eq_true hab]
  ·rw [if_neg hab, decide_eq_false hab]
 ·rw [iw (by omega), decide_eq_false (fun e => hl (by rw [e]))]
end Q
end

section
/- bits: the law's own test. -/
namespace Q
open Go Go.Abs
set_option linter.unusedVariables false
set_option linter.unusedSimpArgs false
end Q
end

section
/- bits: Same, Join. -/
namespace Q
open Go Go.Abs
set_option linter.unusedVariables false
set_option linter.unusedSimpArgs false
def diff (a b : List Int) (i : Nat) : Int := (List.range i).foldl (fun acc j => bits .or .u8 acc (bits .xor .u8 (a.getD j 0) (b.getD j 0))) 0
theorem auc (a b : List Int) (i : Nat) : diff a b (i + 1) = bits .or .u8 (diff a b i) (bits .xor .u8 (a.getD i 0) (b.getD i 0)) := by
 simp [diff, List.range_succ]
theorem atj (a b : List Int) (ha : In 256 a) (hb : In 256 b) : ∀ i, (0 ≤ diff a b i ∧ diff a b i < 256) ∧ (diff a b i = 0 ↔ ∀ j, j < i → a.getD j 0 = b.getD j 0)
 | 0 => ⟨⟨by simp [diff], by simp [diff]⟩, by simp [diff]⟩
 | i + 1 => by
  obtain ⟨h1, h2⟩ := atj a b ha hb i
  rw [auc]
  have hx := ha.getD i (by omega)
  have hy := hb.getD i (by omega)
  obtain ⟨d, hd⟩ := Int.eq_ofNat_of_zero_le h1.1
  obtain ⟨x, hx'⟩ := Int.eq_ofNat_of_zero_le hx.1
  obtain ⟨y, hy'⟩ := Int.eq_ofNat_of_zero_le hy.1
  rw [hd, hx', hy', bje x y (by omega) (by omega), bma d _ (by omega) (Nat.xor_lt_two_pow (n := 8) (show x < 2 ^ 8 by omega) (show y < 2 ^ 8 by omega))]
  have hb : d ||| (x ^^^ y) < 256 := Nat.or_lt_two_pow (n := 8) (show d < 2 ^ 8 by omega) (Nat.xor_lt_two_pow (n := 8) (show x < 2 ^ 8 by omega) (show y < 2 ^ 8 by omega))
  refine ⟨⟨by omega, by omega⟩, ?_⟩
  rw [show (((d ||| (x ^^^ y) : Nat) : Int) = 0 ↔ (d ||| (x ^^^ y)) = 0) by omega, Nat.or_eq_zero_iff, xor_zero]
  constructor
  ·rintro ⟨h0, hxy⟩ j hj
   by_cases hji : j = i
   ·subst hji; rw [hx', hy', hxy]
   ·exact h2.1 (by omega) j (by omega)
  ·intro h
   refine ⟨?_, ?_⟩
   ·have := h2.2 (fun j hj => h j (by omega)); omega
   ·have := h i (by omega); rw [hx', hy'] at this; omega
theorem z8 (a b : List Int) (ha : In 256 a) (hb : In 256 b) (h : a.length ≤ 140737488355328) {ρ : Type} (k : Bool → Option ρ) : P.z8 a b k = k (decide (a = b)) := by
 rw [P.amc]
 unfold P.af5
 by_cases hl : a.length = b.length
 ·rw [ig (by omega), P.anf]
  unfold P.amd P.blj P.bjq P.blz
  refine bbs (fun i => (a, b, diff a b i, (a.length : Int), (i : Int))) a.length (fun i hi next hn => ?_) (fun next => ?_) (Nat.zero_le _) (by omega)
  ·simp only [P.ahl, toNat_cast]
   simp (disch := omega) only [av, dx, iw, ig, d9, fq, tu, vk, o8, yu]
   rw [← auc]
   exact hn
  ·simp only [P.ahl]
   rw [dx (by omega)]
   congr 1
   have := (atj a b ha hb a.length).2
   by_cases hab : a = b
   ·rw [decide_eq_true hab, beq_iff_eq, this]
    subst hab; exact fun _ _ => rfl
   ·rw [decide_eq_false hab, beq_eq_false_iff_ne]
    intro h0
    refine hab (List.ext_getElem hl (fun i h1 h2 => ?_))
    have := this.1 h0 i h1
    rw [getD_lt h1, getD_lt h2] at this
    exact this
 ·rw [iw (by omega), decide_eq_false (fun e => hl (by rw [e]))]
def joined (l : List (List Int)) (i : Nat) : List Int := (l.take i).flatten
theorem ai6 (l : List (List Int)) (i : Nat) (h : i < l.length) : joined l (i + 1) = joined l i ++ l.getD i [] := by
 unfold joined
 rw [← aju l [] i h, List.flatten_append]; simp
theorem alj (l : List (List Int)) : joined l l.length = l.flatten := by unfold joined; rw [List.take_length]
theorem apd (l : List (List Int)) (i : Nat) : (joined l i).length ≤ l.flatten.length := by
 unfold joined
 have : l.flatten = (l.take i).flatten ++ (l.drop i).flatten := by rw [← List.flatten_append, List.take_append_drop]
 rw [this, List.length_append]; omega
theorem yt (l : List (List Int)) (h : l.length ≤ 140737488355328) (h2 : l.flatten.length ≤ 140737488355328) {ρ : Type} (k : List Int → Option ρ) : P.yt l k = k l.flatten := by
 rw [P.ana]
 unfold P.ahs
 rw [P.apu]
 unfold P.aog P.bk0 P.bi6 P.bok
 refine bbs (fun i => (l, (i : Int), joined l i)) l.length (fun i hi next hn => ?_) (fun next => ?_) (Nat.zero_le _) (by omega)
 ·have e := ai6 l i hi
  have h3 := apd l (i + 1)
  rw [e, List.length_append] at h3
  simp only [P.ajd, toNat_cast]
  simp (disch := omega) only [av, dx, iw, ig, d9, fq, tu, vk, o8, yu]
  rw [← e]
  exact hn
 ·simp only [P.ajd]
  rw [dx (by omega), alj]
theorem l7 (n : Nat) (h : n ≤ 140737488355328) {ρ : Type} (k : List Int → Option ρ) : P.l7 (n : Int) k = k [] := by
 rw [P.ad4]
 unfold P.aa9
 rw [dx (by omega), show IntKind.i64.wrap ((0 : Int) - (0 : Int)) = 0 by decide]
 rw [yu (by omega) (by omega)]
 by_cases h0 : n = 0
 ·subst h0; rw [dx (by omega)]
 ·rw [av (by omega), av (by omega), av (by omega)]; rfl
theorem jd (l : List (List Int)) (h : l.length ≤ 140737488355328) (h2 : l.flatten.length ≤ 140737488355328) {ρ : Type} (k : List Int → Option ρ) : P.jd l k = k l.flatten := by
 rw [P.adh]
 unfold P.zh
 rw [P.afq]
 unfold P.ac4 P.zk4 P.zs4 P.zu4
 refine bbs (fun i => (l, ((joined l i).length : Int), l, (l.length : Int), (i : Int))) l.length (fun i hi next hn => ?_) (fun next => ?_) (Nat.zero_le _) (by omega)
 ·have e := ai6 l i hi
  have h3 := apd l (i + 1)
  have e2 : ((joined l i).length : Int) + ((l.getD i []).length : Int) = ((joined l (i + 1)).length : Int) := by rw [e, List.length_append]; omega
  simp only [P.aar, toNat_cast, e2]
  simp (disch := omega) only [av, dx, iw, ig, d9, fq, tu, vk, o8, yu]
  exact hn
 ·simp only [P.aar]
  rw [dx (by omega), alj, l7 _ h2, P.ae6]
  unfold P.ab6 P.zk5 P.zs5 P.zu5
  refine bbs (fun i => (l, (l.length : Int), (i : Int), joined l i)) l.length (fun i hi next hn => ?_) (fun next => ?_) (Nat.zero_le _) (by omega)
  ·have e := ai6 l i hi
   have h3 := apd l (i + 1)
   rw [e, List.length_append] at h3
   simp only [P.zf, toNat_cast]
   simp (disch := omega) only [av, dx, iw, ig, d9, fq, tu, vk, o8, yu]
   rw [← e]
   exact hn
  ·simp only [P.zf]
   rw [dx (by omega), alj]
theorem aad (l : List (List Int)) (h : l.length ≤ 140737488355328) (h2 : l.flatten.length ≤ 140737488355328) {ρ : Type} (k : List Int → Option ρ) : P.aad l k = k l.flatten := by
 rw [P.al2]
 unfold P.af2
 exact jd l h h2 k
end Q
end

section
/- lmots: digits. -/
namespace Q
open Go Go.Abs
set_option linter.unusedVariables false
set_option linter.unusedSimpArgs false
theorem aaw (N s : Nat) (hN : N < 18446744073709551616) (hs : s ≤ 65536) {ρ : Type} (k : List Int → Option ρ) : P.aaw (N : Int) (s : Int) k = k (bsw 8 s N).reverse := by
 rw [P.au5]
 unfold P.alu
 simp only [toNat_cast]
 simp (disch := omega) only [av, dx, iw, ig, d9, fq, tu, vk, o8, yu]
 rw [P.aut]
 unfold P.avc P.bld P.bj6 P.bpn
 refine y5 (fun j => (((N / 2 ^ (8 * j) : Nat) : Int), (s : Int) - 1 - (j : Int), List.replicate (s - j) 0 ++ (bsw 8 j N).reverse)) s (by simp [bsw]) (fun j hj next hn' => ?_) (fun next => ?_) (by omega)
 ·simp only [P.anp, List.length_append, List.length_replicate, List.length_reverse, y8]
  rw [show (s : Int) - 1 - (j : Int) = ((s - 1 - j : Nat) : Int) by omega]
  simp only [toNat_cast]
  have hd := Nat.div_le_self N (2 ^ (8 * j))
  have hb : bits .and .u64 ((N / 2 ^ (8 * j) : Nat) : Int) 255 = ((N / 2 ^ (8 * j) % 2 ^ 8 : Nat) : Int) := by
   rw [show (255 : Int) = ((2 ^ 8 - 1 : Nat) : Int) from rfl, ar8 _ _ (by omega) (by omega), Nat.and_two_pow_sub_one_eq_mod]
  have hd2 : (((N / 2 ^ (8 * j) : Nat) : Int)).fdiv ((2 : Int) ^ 8) = ((N / 2 ^ (8 * (j + 1)) : Nat) : Int) := by
   rw [show ((2 : Int) ^ 8) = (2 : Int) ^ min 8 8 from rfl, fdiv_pow _ 8 8 (by omega), Nat.div_div_eq_div_mul, ← Nat.pow_add, Nat.mul_succ]
  rw [hb, hd2, u8n _ (by omega)]
  rw [ash, List.reverse_append, List.reverse_singleton, List.singleton_append] at hn'
  have hset : (List.replicate (s - j) (0 : Int) ++ (bsw 8 j N).reverse).set (s - 1 - j) ((N / 2 ^ (8 * j) % 2 ^ 8 : Nat) : Int) = List.replicate (s - (j + 1)) 0 ++ ((N / 2 ^ (8 * j) % 2 ^ 8 : Nat) : Int) :: (bsw 8 j N).reverse := by
   rw [show s - j = (s - (j + 1)) + 1 by omega, List.replicate_succ', List.append_assoc, List.set_append_right _ _ (by simp; omega), List.length_replicate, show s - 1 - j - (s - (j + 1)) = 0 by omega]
   rfl
  rw [hset]
  simp (disch := omega) only [av, dx, iw, ig, d9, fq, tu, vk, o8, yu]
  rw [show ((s - 1 - j : Nat) : Int) - 1 = (s : Int) - 1 - ((j + 1 : Nat) : Int) by omega]
  exact hn'
 ·simp only [P.anp]
  rw [dx (by omega), Nat.sub_self]; rfl
def sumTo (D : List Int) : Nat → Nat
 | 0 => 0
 | i + 1 => sumTo D i + (D.getD i 0).toNat
def left (w s : Nat) (b : List Int) : Nat := ((256 / w) * (2 ^ w - 1) - sumTo (bgn b w ((256 / w : Nat) : Int)) (256 / w)) * 2 ^ s
end Q
end

section
/- SHA-2: blocks one behind the other, words of 32 bits. -/
namespace Q
open Go Go.Abs
set_option linter.unusedVariables false
set_option linter.unusedSimpArgs false
def thr {w : Nat} (p : Par w) (v : List (BitVec w)) (b : List Int) : Nat → List (BitVec w)
 | 0 => v
 | i + 1 => aoo p (thr p v b i) ((b.drop ((2 * w) * i)).take (2 * w))
theorem aik {w : Nat} (p : Par w) (v : List (BitVec w)) (hv : v.length = 8) (b : List Int) : ∀ i, (thr p v b i).length = 8
 | 0 => hv
 | i + 1 => ayw _ _ _
def toV (w : Nat) (l : List Int) : List (BitVec w) := (List.range 8).map fun i => BitVec.ofInt w (l.getD i 0)
theorem aiq (w : Nat) (l : List Int) : (toV w l).length = 8 := by simp [toV]
theorem be1 (w : Nat) (l : List Int) (hl : l.length = 8) (hi : In (2 ^ w) l) : cv (toV w l) = l := by
 unfold cv toV
 rw [List.map_map]
 refine List.ext_getElem (by simp [hl]) (fun i h1 h2 => ?_)
 have hp : ((2 : Int) ^ w) = ((2 ^ w : Nat) : Int) := by simp
 have := hi.getD i (by rw [hp]; have := p2 w; omega)
 rw [getD_lt h2] at this
 simp only [List.getElem_map, List.getElem_range, Function.comp, getD_lt h2, BitVec.toNat_ofInt]
 rw [hp] at this
 rw [Int.emod_eq_of_lt this.1 this.2]
 omega
theorem bga {w : Nat} (l : List (BitVec w)) : In (2 ^ w) (cv l) := by
 intro x hx
 obtain ⟨y, _, rfl⟩ := List.mem_map.1 hx
 have := y.isLt
 have hp : ((2 : Int) ^ w) = ((2 ^ w : Nat) : Int) := by simp
 rw [hp]
 omega
theorem as0 (x : Int) : IntKind.u32.wrap x = ((BitVec.ofInt 32 x).toNat : Int) := by
 rw [biq, BitVec.toNat_ofInt]; omega
def rest (n : Nat) (b : List Int) : List Int := b.drop (n * (b.length / n))
theorem bid (words b : List Int) (rd : Int) (t0 t1 t2 t3 h1 h2 : List Int) (hi : In 18446744073709551616 words) {ρ : Type} (k0 : List Int → List Int → Int → Int → Int → List Int → List Int → List Int → List Int → List Int → List Int → List Int → Option ρ) :
    P.zw b words 0 32 rd t0 t1 t2 t3 h1 h2 (List.replicate 8 0) k0 = k0 b words 8 32 rd t0 t1 t2 t3 h1 h2 (cv (toV 32 words)) := by
 rw [P.afi]
 unfold P.ac8 P.blm P.bjt P.bl1
 refine y5 (fun i => (b, words, (i : Int), 32, rd, t0, t1, t2, t3, h1, h2, cv ((List.range i).map fun i => BitVec.ofInt 32 (words.getD i 0)) ++ List.replicate (8 - i) 0)) 8 (by simp [cv]) (fun i hi' next hn' => ?_) (fun next => ?_) (by omega)
 ·simp only [P.aao, toNat_cast]
  have e4 : IntKind.i64.wrap ((i : Int) + 1) = ((i + 1 : Nat) : Int) := by rw [yu (by omega) (by omega)]; omega
  have e5 : (cv ((List.range i).map fun i => BitVec.ofInt 32 (words.getD i 0)) ++ List.replicate (8 - i) (0 : Int)).set i ((BitVec.ofInt 32 (words.getD i 0)).toNat : Int) = cv ((List.range (i + 1)).map fun i => BitVec.ofInt 32 (words.getD i 0)) ++ List.replicate (8 - (i + 1)) 0 := by
   rw [List.set_append_right _ _ (by simp), qg, List.length_map, List.length_range, Nat.sub_self, show 8 - i = (8 - (i + 1)) + 1 by omega, List.replicate_succ, List.set_cons_zero, List.range_succ, List.map_append, ← ac7, List.append_assoc]
   rfl
  rw [av (by omega), av (by omega), av (by omega), av (by omega), av (by omega), as0, e5, e4]
  exact hn'
 ·simp only [P.aao]
  rw [dx (by omega)]
  simp [toV]
theorem bio (v : List (BitVec 32)) (hv : v.length = 8) (b : List Int) (hb : In 256 b) (hn : b.length ≤ 1000000) (h1 h2 : List Int) {ρ : Type} (k0 : List Int → Int → List Int → List Int → List Int → Int → Int → List Int → List Int → List Int → List Int → Option ρ) :
    P.zu b 64 (cv v) h2 h1 32 64 [7, 18, 3] [17, 19, 10] [2, 13, 22] [6, 11, 25] k0 =
     k0 (rest 64 b) 64 (cv (thr p32 v b (b.length / 64))) h2 h1 32 64 [7, 18, 3] [17, 19, 10] [2, 13, 22] [6, 11, 25] := by
 rw [P.afk]
 unfold P.ac6 P.bll P.bjw P.bpk
 refine y5 (fun i => (b.drop (64 * i), 64, cv (thr p32 v b i), h2, h1, 32, 64, [7, 18, 3], [17, 19, 10], [2, 13, 22], [6, 11, 25])) (b.length / 64) (by simp [thr]) (fun i hi next hn' => ?_) (fun next => ?_) (by omega)
 ·simp only [P.aai]
  have hlen : (b.drop (64 * i)).length = b.length - 64 * i := by simp
  have hge : 64 ≤ b.length - 64 * i := by omega
  simp only [hlen, show (64 : Int).toNat = 64 from rfl, toNat_cast, List.drop_zero]
  have hbl : ((b.drop (64 * i)).take 64).length = 16 * 4 := by rw [List.length_take, hlen]; omega
  rw [av (by omega), av (by omega), av (by omega), bb8 _ (aik _ _ hv _ _) _ ((hb.drop _).take _) hbl, av (by omega), av (by omega), av (by omega),
   List.take_of_length_le (by rw [hlen]; omega), List.drop_drop, show 64 * i + 64 = 64 * (i + 1) by omega]
  exact hn'
 ·simp only [P.aai]
  have hlen : (b.drop (64 * (b.length / 64))).length = b.length - 64 * (b.length / 64) := by simp
  rw [dx (by rw [hlen]; omega)]
  rfl
theorem bf3 (v : List (BitVec 32)) (hv : v.length = 8) (b : List Int) (words h2 : List Int) (hl : words.length = 8) {ρ : Type} (k0 : List Int → List Int → Int → List Int → List Int → Option ρ) :
    P.zk b (cv v) 0 words h2 k0 = k0 b (cv v) 8 (cv v) h2 := by
 rw [P.afg]
 unfold P.ab4 P.bku P.zs12 P.bpl
 refine y5 (fun i => (b, cv v, (i : Int), (cv v).take i ++ words.drop i, h2)) 8 (by simp) (fun i hi next hn' => ?_) (fun next => ?_) (by omega)
 ·simp only [P.zl, toNat_cast]
  have e4 : IntKind.i64.wrap ((i : Int) + 1) = ((i + 1 : Nat) : Int) := by rw [yu (by omega) (by omega)]; omega
  have e5 : ((cv v).take i ++ words.drop i).set i ((cv v).getD i 0) = (cv v).take (i + 1) ++ words.drop (i + 1) := by
   rw [List.set_append_right _ _ (by rw [List.length_take]; omega), List.length_take, qg, hv, Nat.min_eq_left (by omega), Nat.sub_self, List.drop_eq_getElem_cons (by omega), List.set_cons_zero, ← aju (cv v) 0 i (by rw [qg]; omega), List.append_assoc]
   rfl
  have e6 : IntKind.u64.wrap ((cv v).getD i 0) = (cv v).getD i 0 := by
   rw [aeo]; exact ajj _ (nlt _)
  rw [av (by omega), av (by omega), av (by omega), av (by omega), av (by omega), e6, e5, e4]
  exact hn'
 ·simp only [P.zl]
  rw [dx (by omega), List.drop_eq_nil_of_le (by omega), List.append_nil, List.take_of_length_le (by rw [qg]; omega)]
  rfl
theorem aws (words b : List Int) (hl : words.length = 8) (hi : In 18446744073709551616 words) (hb : In 256 b) (hn : b.length ≤ 1000000) {ρ : Type} (k : List Int → List Int → Option ρ) :
    P.l8 32 64 [7, 18, 3] [17, 19, 10] [2, 13, 22] [6, 11, 25] words b k = k (cv (thr p32 (toV 32 words) b (b.length / 64))) (rest 64 b) := by
 rw [P.ada]
 unfold P.y9
 refine (bid words b 64 [7, 18, 3] [17, 19, 10] [2, 13, 22] [6, 11, 25] words (List.replicate 8 0) hi _).trans ?_
 rw [show IntKind.i64.wrap ((32 : Int) * 2) = 64 from rfl, bio _ (aiq _ _) b hb hn, bf3 _ (aik _ _ (aiq _ _) _ _) _ _ _ hl]
theorem bki (v : List (BitVec 32)) (hv : v.length = 8) (b : List Int) (hb : In 256 b) (hn : b.length ≤ 1000000) (kd : Int) (tl : List Int) (sz : Int) (a1 : Int) (a2 : List Int) (a3 : Int) {ρ : Type} (k0 : Int → List Int → Int → List Int → List Int → Int → Int → List Int → Int → Option ρ) :
    P.ah4 64 b kd (cv v) tl sz a1 a2 a3 k0 = k0 64 (rest 64 b) kd (cv (thr p32 v b (b.length / 64))) tl sz a1 a2 a3 := by
 rw [P.aj0]
 unfold P.aln P.bi2 P.bhj P.bkr
 refine y5 (fun i => (64, b.drop (64 * i), kd, cv (thr p32 v b i), tl, sz, a1, a2, a3)) (b.length / 64) (by simp [thr]) (fun i hi next hn' => ?_) (fun next => ?_) (by omega)
 ·simp only [P.afs]
  have hlen : (b.drop (64 * i)).length = b.length - 64 * i := by simp
  have hge : 64 ≤ b.length - 64 * i := by omega
  simp only [hlen, show (64 : Int).toNat = 64 from rfl, toNat_cast, List.drop_zero]
  have hbl : ((b.drop (64 * i)).take 64).length = 16 * 4 := by rw [List.length_take, hlen]; omega
  rw [av (by omega), av (by omega), av (by omega), show ((64 : Int) == 128) = false from rfl, bap _ (aik _ _ hv _ _) _ ((hb.drop _).take _) hbl, av (by omega), av (by omega), av (by omega),
   List.take_of_length_le (by rw [hlen]; omega), List.drop_drop, show 64 * i + 64 = 64 * (i + 1) by omega]
  exact hn'
 ·simp only [P.afs]
  have hlen : (b.drop (64 * (b.length / 64))).length = b.length - 64 * (b.length / 64) := by simp
  rw [dx (by rw [hlen]; omega)]
  rfl
end Q
end

section
/- SHA-2: blocks one behind the other, words of 64 bits. -/
namespace Q
open Go Go.Abs
set_option linter.unusedVariables false
set_option linter.unusedSimpArgs false
theorem bkb (words b : List Int) (rd : Int) (t0 t1 t2 t3 h1 h2 : List Int) (hi : In 18446744073709551616 words) {ρ : Type} (k0 : List Int → List Int → Int → Int → Int → List Int → List Int → List Int → List Int → List Int → List Int → List Int → Option ρ) :
    P.aaq b words 0 64 rd t0 t1 t2 t3 h1 h2 (List.replicate 8 0) k0 = k0 b words 8 64 rd t0 t1 t2 t3 h1 h2 (cv (toV 64 words)) := by
 rw [P.afp]
 unfold P.ade P.bkv P.bi9 P.bm0
 refine y5 (fun i => (b, words, (i : Int), 64, rd, t0, t1, t2, t3, h1, h2, cv ((List.range i).map fun i => BitVec.ofInt 64 (words.getD i 0)) ++ List.replicate (8 - i) 0)) 8 (by simp [cv]) (fun i hi' next hn' => ?_) (fun next => ?_) (by omega)
 ·simp only [P.aah, toNat_cast]
  have e4 : IntKind.i64.wrap ((i : Int) + 1) = ((i + 1 : Nat) : Int) := by rw [yu (by omega) (by omega)]; omega
  have e6 : words.getD i 0 = ((BitVec.ofInt 64 (words.getD i 0)).toNat : Int) := by
   have := hi.getD i (by omega)
   rw [BitVec.toNat_ofInt]
   omega
  have e5 : (cv ((List.range i).map fun i => BitVec.ofInt 64 (words.getD i 0)) ++ List.replicate (8 - i) (0 : Int)).set i ((BitVec.ofInt 64 (words.getD i 0)).toNat : Int) = cv ((List.range (i + 1)).map fun i => BitVec.ofInt 64 (words.getD i 0)) ++ List.replicate (8 - (i + 1)) 0 := by
   rw [List.set_append_right _ _ (by simp), qg, List.length_map, List.length_range, Nat.sub_self, show 8 - i = (8 - (i + 1)) + 1 by omega, List.replicate_succ, List.set_cons_zero, List.range_succ, List.map_append, ← ac7, List.append_assoc]
   rfl
  rw [av (by omega), av (by omega), av (by omega), av (by omega), av (by omega), e6, e5, e4]
  exact hn'
 ·simp only [P.aah]
  rw [dx (by omega)]
  simp [toV]
theorem bka (v : List (BitVec 64)) (hv : v.length = 8) (b : List Int) (hb : In 256 b) (hn : b.length ≤ 1000000) (h1 h2 : List Int) {ρ : Type} (k0 : List Int → Int → List Int → List Int → List Int → Int → Int → List Int → List Int → List Int → List Int → Option ρ) :
    P.aan b 128 (cv v) h2 h1 64 80 [1, 8, 7] [19, 61, 6] [28, 34, 39] [14, 18, 41] k0 =
     k0 (rest 128 b) 128 (cv (thr p64 v b (b.length / 128))) h2 h1 64 80 [1, 8, 7] [19, 61, 6] [28, 34, 39] [14, 18, 41] := by
 rw [P.afj]
 unfold P.ac3 P.blf P.bkn P.bmp
 refine y5 (fun i => (b.drop (128 * i), 128, cv (thr p64 v b i), h2, h1, 64, 80, [1, 8, 7], [19, 61, 6], [28, 34, 39], [14, 18, 41])) (b.length / 128) (by simp [thr]) (fun i hi next hn' => ?_) (fun next => ?_) (by omega)
 ·simp only [P.aav]
  have hlen : (b.drop (128 * i)).length = b.length - 128 * i := by simp
  have hge : 128 ≤ b.length - 128 * i := by omega
  simp only [hlen, show (128 : Int).toNat = 128 from rfl, toNat_cast, List.drop_zero]
  have hbl : ((b.drop (128 * i)).take 128).length = 16 * 8 := by rw [List.length_take, hlen]; omega
  rw [av (by omega), av (by omega), av (by omega), bbk _ (aik _ _ hv _ _) _ ((hb.drop _).take _) hbl, av (by omega), av (by omega), av (by omega),
   List.take_of_length_le (by rw [hlen]; omega), List.drop_drop, show 128 * i + 128 = 128 * (i + 1) by omega]
  exact hn'
 ·simp only [P.aav]
  have hlen : (b.drop (128 * (b.length / 128))).length = b.length - 128 * (b.length / 128) := by simp
  rw [dx (by rw [hlen]; omega)]
  rfl
theorem bge (v : List (BitVec 64)) (hv : v.length = 8) (b : List Int) (words h2 : List Int) (hl : words.length = 8) {ρ : Type} (k0 : List Int → List Int → Int → List Int → List Int → Option ρ) :
    P.za b (cv v) 0 words h2 k0 = k0 b (cv v) 8 (cv v) h2 := by
 rw [P.ae9]
 unfold P.ab3 P.blg P.bie P.bns
 refine y5 (fun i => (b, cv v, (i : Int), (cv v).take i ++ words.drop i, h2)) 8 (by simp) (fun i hi next hn' => ?_) (fun next => ?_) (by omega)
 ·simp only [P.zm, toNat_cast]
  have e4 : IntKind.i64.wrap ((i : Int) + 1) = ((i + 1 : Nat) : Int) := by rw [yu (by omega) (by omega)]; omega
  have e5 : ((cv v).take i ++ words.drop i).set i ((cv v).getD i 0) = (cv v).take (i + 1) ++ words.drop (i + 1) := by
   rw [List.set_append_right _ _ (by rw [List.length_take]; omega), List.length_take, qg, hv, Nat.min_eq_left (by omega), Nat.sub_self, List.drop_eq_getElem_cons (by omega), List.set_cons_zero, ← aju (cv v) 0 i (by rw [qg]; omega), List.append_assoc]
   rfl
  rw [av (by omega), av (by omega), av (by omega), av (by omega), av (by omega), e5, e4]
  exact hn'
 ·simp only [P.zm]
  rw [dx (by omega), List.drop_eq_nil_of_le (by omega), List.append_nil, List.take_of_length_le (by rw [qg]; omega)]
  rfl
theorem awj (words b : List Int) (hl : words.length = 8) (hi : In 18446744073709551616 words) (hb : In 256 b) (hn : b.length ≤ 1000000) {ρ : Type} (k : List Int → List Int → Option ρ) :
    P.mg 64 80 [1, 8, 7] [19, 61, 6] [28, 34, 39] [14, 18, 41] words b k = k (cv (thr p64 (toV 64 words) b (b.length / 128))) (rest 128 b) := by
 rw [P.adg]
 unfold P.zi
 refine (bkb words b 80 [1, 8, 7] [19, 61, 6] [28, 34, 39] [14, 18, 41] words (List.replicate 8 0) hi _).trans ?_
 rw [show IntKind.i64.wrap ((64 : Int) * 2) = 128 from rfl, bka _ (aiq _ _) b hb hn, bge _ (aik _ _ (aiq _ _) _ _) _ _ _ hl]
theorem bjc (v : List (BitVec 64)) (hv : v.length = 8) (b : List Int) (hb : In 256 b) (hn : b.length ≤ 1000000) (kd : Int) (tl : List Int) (sz : Int) (a1 : Int) (a2 : List Int) (a3 : Int) {ρ : Type} (k0 : Int → List Int → Int → List Int → List Int → Int → Int → List Int → Int → Option ρ) :
    P.ah4 128 b kd (cv v) tl sz a1 a2 a3 k0 = k0 128 (rest 128 b) kd (cv (thr p64 v b (b.length / 128))) tl sz a1 a2 a3 := by
 rw [P.aj0]
 unfold P.aln P.bi2 P.bhj P.bkr
 refine y5 (fun i => (128, b.drop (128 * i), kd, cv (thr p64 v b i), tl, sz, a1, a2, a3)) (b.length / 128) (by simp [thr]) (fun i hi next hn' => ?_) (fun next => ?_) (by omega)
 ·simp only [P.afs]
  have hlen : (b.drop (128 * i)).length = b.length - 128 * i := by simp
  have hge : 128 ≤ b.length - 128 * i := by omega
  simp only [hlen, show (128 : Int).toNat = 128 from rfl, toNat_cast, List.drop_zero]
  have hbl : ((b.drop (128 * i)).take 128).length = 16 * 8 := by rw [List.length_take, hlen]; omega
  rw [av (by omega), av (by omega), av (by omega), show ((128 : Int) == 128) = true from rfl, bbe _ (aik _ _ hv _ _) _ ((hb.drop _).take _) hbl, av (by omega), av (by omega), av (by omega),
   List.take_of_length_le (by rw [hlen]; omega), List.drop_drop, show 128 * i + 128 = 128 * (i + 1) by omega]
  exact hn'
 ·simp only [P.afs]
  have hlen : (b.drop (128 * (b.length / 128))).length = b.length - 128 * (b.length / 128) := by simp
  rw [dx (by rw [hlen]; omega)]
  rfl
end Q
end

section
/- Are two rows of bytes the same. -/
namespace Q
open Go Go.Abs
set_option linter.unusedVariables false
set_option linter.unusedSimpArgs false
end Q
end
