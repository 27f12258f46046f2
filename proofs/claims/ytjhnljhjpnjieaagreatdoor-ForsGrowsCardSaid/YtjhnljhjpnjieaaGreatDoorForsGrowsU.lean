/-
  ForsGrows, part 21: an interpreter of my own over abstract values, the pure functions, the walks and the plain law.
-/

import Derived.Test.YtjhnljhjpnjieaaGreatDoorForsGrowsH
import Derived.Laws.Bits64
import Derived.Test.YtjhnljhjpnjieaaGreatDoorForsGrowsL
import Derived.Test.YtjhnljhjpnjieaaGreatDoorForsGrowsK
import Derived.Test.YtjhnljhjpnjieaaGreatDoorForsGrowsI
import Derived.Test.YtjhnljhjpnjieaaGreatDoorForsGrowsJ

section
/- Small laws for the plain proofs. -/
namespace Q
open Go Go.Abs
set_option linter.unusedVariables false
def In (m : Int) (l : List Int) : Prop := ∀ x, x ∈ l → 0 ≤ x ∧ x < m
theorem wf_u8 {n : Int} (h : wfI .u8 n) : 0 ≤ n ∧ n < 256 := by
 simp [wfI, Lit.wf, IntKind.min, IntKind.max, IntKind.signed, IntKind.bits] at h; omega
theorem wf_u64 {n : Int} (h : wfI .u64 n) : 0 ≤ n ∧ n < 18446744073709551616 := by
 simp [wfI, Lit.wf, IntKind.min, IntKind.max, IntKind.signed, IntKind.bits] at h; omega
theorem wf_i64 {n : Int} (h : wfI .i64 n) : -9223372036854775808 ≤ n ∧ n ≤ 9223372036854775807 := by
 simp [wfI, Lit.wf, IntKind.min, IntKind.max, IntKind.signed, IntKind.bits] at h; omega
theorem bf4 {l : List Int} (h : ∀ x, x ∈ l → wfI .u8 x) : In 256 l := fun x hx => wf_u8 (h x hx)
theorem In.tail {m x : Int} {l : List Int} (h : In m (x :: l)) : In m l := fun y hy => h y (List.mem_cons_of_mem _ hy)
theorem In.app {m : Int} {l r : List Int} (h1 : In m l) (h2 : In m r) : In m (l ++ r) := fun y hy => (List.mem_append.1 hy).elim (h1 y) (h2 y)
theorem In.left {m : Int} {l r : List Int} (h : In m (l ++ r)) : In m l := fun y hy => h y (List.mem_append_left _ hy)
theorem In.right {m : Int} {l r : List Int} (h : In m (l ++ r)) : In m r := fun y hy => h y (List.mem_append_right _ hy)
theorem In.take {m : Int} {l : List Int} (h : In m l) (n : Nat) : In m (l.take n) := fun y hy => h y (List.mem_of_mem_take hy)
theorem In.drop {m : Int} {l : List Int} (h : In m l) (n : Nat) : In m (l.drop n) := fun y hy => h y (List.mem_of_mem_drop hy)
theorem In.nil {m : Int} : In m [] := fun y hy => by simp at hy
theorem In.rev {m : Int} {l : List Int} (h : In m l) : In m l.reverse := fun y hy => h y (by simpa using hy)
theorem In.getD {m : Int} {l : List Int} (h : In m l) (i : Nat) (hm : 0 < m) : 0 ≤ l.getD i 0 ∧ l.getD i 0 < m := by
 rw [List.getD_eq_getElem?_getD]
 by_cases hi : i < l.length
 ·rw [List.getElem?_eq_getElem hi]; exact h _ (List.getElem_mem hi)
 ·rw [List.getElem?_eq_none (by omega)]; exact ⟨Int.le_refl 0, hm⟩
theorem In.map {m : Int} {α : Type} {l : List α} {f : α → Int} (h : ∀ a, a ∈ l → 0 ≤ f a ∧ f a < m) : In m (l.map f) := fun y hy => by
 obtain ⟨a, ha, rfl⟩ := List.mem_map.1 hy
 exact h a ha
theorem gu {α : Type} {a b : Int} (h : ¬ a = b) (x y : α) : br (a != b) x y = x := by rw [bne_iff_ne.2 h]; exact p8 x y
theorem fq {α : Type} {a b : Int} (h : a = b) (x y : α) : br (a != b) x y = y := by rw [bne_eq_false_iff_eq.2 h]; exact qd x y
theorem dw {α : Type} {a b : Int} (h : a = b) (x y : α) : br (a == b) x y = x := by rw [beq_iff_eq.2 h]; exact p8 x y
theorem dz {α : Type} {a b : Int} (h : ¬ a = b) (x y : α) : br (a == b) x y = y := by rw [beq_eq_false_iff_ne.2 h]; exact qd x y
theorem ku {α : Type} (b : Bool) (x y : α) : br (!b) x y = br b y x := by cases b <;> simp
theorem bqk {α : Type} (p : Prop) [Decidable p] (x y : α) : br (decide p) x y = if p then x else y := by
 by_cases h : p
 ·rw [av h, if_pos h]
 ·rw [dh h, if_neg h]
theorem bj5 {X Y ρ : Type} {stp : X → (X → Option ρ) → (Y → Option ρ) → Option ρ} {K : Y → Option ρ} {r : Option ρ} (S : Nat → X) (n : Nat)
    (hstep : ∀ i, i < n → ∀ next, next (S (i + 1)) = r → stp (S i) next K = r) (hend : ∀ next, stp (S n) next K = r) {i : Nat} (hi : i ≤ n) (hn : n ≤ 18446744073709551616) : lp stp (S i) K = r := by
 have key : ∀ m i, m + i = n → lpN stp K m (S i) = r ∧ ∀ q, m ≤ q → lpN stp K q (S i) = r := by
  intro m
  induction m with
  | zero =>
   intro i hi
   have : i = n := by omega
   subst this
   refine ⟨hend _, fun q _ => ?_⟩
   cases q with
   | zero => exact hend _
   | succ q => exact hend _
  | succ m ih =>
   intro i hi
   refine ⟨hstep i (by omega) _ (ih (i + 1) (by omega)).1, fun q hq => ?_⟩
   cases q with
   | zero => omega
   | succ q => exact hstep i (by omega) _ ((ih (i + 1) (by omega)).2 q (by omega))
 exact (key (n - i) i (by omega)).2 FU (by rw [boz]; omega)
theorem getD_lt {α : Type} {l : List α} {d : α} {i : Nat} (h : i < l.length) : l.getD i d = l[i] := by
 rw [List.getD_eq_getElem?_getD, List.getElem?_eq_getElem h]; rfl
theorem bg0 {α : Type} {l : List α} {d : α} {i : Nat} (h : l.length ≤ i) : l.getD i d = d := by
 rw [List.getD_eq_getElem?_getD, List.getElem?_eq_none h]; rfl
theorem toNat_cast (n : Nat) : ((n : Int)).toNat = n := Int.toNat_natCast n
theorem bbn (f : Nat → Int) (i n : Nat) (h : i < n) (d : Int) : ((List.range i).map f ++ List.replicate (n - i) d).set i (f i) = (List.range (i + 1)).map f ++ List.replicate (n - (i + 1)) d := by
 rw [List.set_append_right _ _ (by simp), show n - i = (n - (i + 1)) + 1 by omega, List.replicate_succ]
 simp [List.range_succ]
theorem am2 {α : Type} (f : Nat → α) (i : Nat) : (List.range i).map f ++ [f i] = (List.range (i + 1)).map f := by simp [List.range_succ]
theorem alu {α : Type} (l : List α) (d : α) (i : Nat) (h : i < l.length) : l.take i ++ [l.getD i d] = l.take (i + 1) := by
 rw [getD_lt h, List.take_add_one, List.getElem?_eq_getElem h]; rfl
theorem afq {α : Type} (l : List α) (d : α) (i : Nat) (h : i < l.length) : l.drop i = l.getD i d :: l.drop (i + 1) := by
 rw [getD_lt h]; exact List.drop_eq_getElem_cons h
end Q
end

section
/- The bit operations as numbers. -/
namespace Q
open Go Go.Abs
set_option linter.unusedVariables false
theorem bi3 (x y : Nat) (hx : x < 18446744073709551616) (hy : y < 18446744073709551616) : bits .or .u64 (x : Int) (y : Int) = ((x ||| y : Nat) : Int) := by
 have h1 : x ||| y < 18446744073709551616 := Nat.or_lt_two_pow (n := 64) hx hy
 have e : bits .or .u64 (x : Int) (y : Int) = IntKind.u64.wrap ((BitVec.ofInt 64 (x : Int) ||| BitVec.ofInt 64 (y : Int)).toNat : Int) := rfl
 have e2 : (BitVec.ofInt 64 (x : Int) ||| BitVec.ofInt 64 (y : Int)).toNat = x ||| y := by
  rw [BitVec.toNat_or, BitVec.toNat_ofInt, BitVec.toNat_ofInt]; congr 1 <;> omega
 rw [e, e2]; exact IntWalk.u64_in _ ⟨by omega, by omega⟩
theorem au3 (x y : Nat) (hx : x < 18446744073709551616) (hy : y < 18446744073709551616) : bits .and .u64 (x : Int) (y : Int) = ((x &&& y : Nat) : Int) := by
 have h1 : x &&& y < 18446744073709551616 := Nat.and_lt_two_pow (n := 64) x hy
 have e : bits .and .u64 (x : Int) (y : Int) = IntKind.u64.wrap ((BitVec.ofInt 64 (x : Int) &&& BitVec.ofInt 64 (y : Int)).toNat : Int) := rfl
 have e2 : (BitVec.ofInt 64 (x : Int) &&& BitVec.ofInt 64 (y : Int)).toNat = x &&& y := by
  rw [BitVec.toNat_and, BitVec.toNat_ofInt, BitVec.toNat_ofInt]; congr 1 <;> omega
 rw [e, e2]; exact IntWalk.u64_in _ ⟨by omega, by omega⟩
theorem u8m (n : Int) : IntKind.u8.wrap n = n % 256 := by simp [IntKind.wrap, IntKind.bits, IntKind.signed]
theorem brp (n : Int) : IntKind.u32.wrap n = n % 4294967296 := by simp [IntKind.wrap, IntKind.bits, IntKind.signed]
theorem bi5 (n : Int) : IntKind.u64.wrap n = n % 18446744073709551616 := by simp [IntKind.wrap, IntKind.bits, IntKind.signed]
theorem bek (a x i : Nat) (hx : x < 2 ^ i) : (a * 2 ^ i) ||| x = a * 2 ^ i + x := by
 rw [← Nat.shiftLeft_eq, Nat.shiftLeft_add_eq_or_of_lt hx]
end Q
end

section
/- Numbers and their digits, the lowest first. -/
namespace Q
open Go Go.Abs
set_option linter.unusedVariables false
def T (w : Nat) : List Int → Nat
 | [] => 0
 | x :: l => x.toNat % 2 ^ w + 2 ^ w * T w l
theorem p2 (n : Nat) : 0 < 2 ^ n := Nat.pow_pos (by omega)
theorem bve (w : Nat) : ∀ l : List Int, T w l < 2 ^ (w * l.length)
 | [] => by simp [T]
 | x :: l => by
  have ih := bve w l
  have h1 := Nat.mod_lt x.toNat (p2 w)
  rw [List.length_cons, Nat.mul_succ, Nat.add_comm, Nat.pow_add]
  simp only [T]
  have : 2 ^ w * (T w l + 1) ≤ 2 ^ w * 2 ^ (w * l.length) := Nat.mul_le_mul (Nat.le_refl _) ih
  rw [Nat.mul_add] at this
  omega
theorem bfd (w : Nat) : ∀ a b : List Int, T w (a ++ b) = T w a + 2 ^ (w * a.length) * T w b
 | [], b => by simp [T]
 | x :: a, b => by
  rw [List.cons_append, T, T, bfd w a b, List.length_cons, Nat.mul_succ, Nat.add_comm (w * a.length) w, Nat.pow_add, Nat.mul_add, Nat.mul_assoc]
  omega
theorem bto (w : Nat) (l : List Int) (k : Nat) (h : k ≤ l.length) : T w l = T w (l.take k) + 2 ^ (w * k) * T w (l.drop k) := by
 have := bfd w (l.take k) (l.drop k)
 rw [List.take_append_drop, List.length_take, Nat.min_eq_left h] at this
 exact this
theorem bf2 (w : Nat) (l : List Int) (k : Nat) (h : k ≤ l.length) : T w (l.drop k) = T w l / 2 ^ (w * k) := by
 have := bve w (l.take k)
 rw [List.length_take, Nat.min_eq_left h] at this
 rw [bto w l k h, Nat.add_mul_div_left _ _ (p2 _), Nat.div_eq_of_lt this, Nat.zero_add]
theorem zo {X Y ρ : Type} {stp : X → (X → Option ρ) → (Y → Option ρ) → Option ρ} {K : Y → Option ρ} {r : Option ρ} (S : Nat → X) (n : Nat) {x : X} (hx : x = S 0)
    (hstep : ∀ i, i < n → ∀ next, next (S (i + 1)) = r → stp (S i) next K = r) (hend : ∀ next, stp (S n) next K = r) (hn : n ≤ 18446744073709551616) : lp stp x K = r := by
 rw [hx]; exact bj5 S n hstep hend (Nat.zero_le _) hn
def bsw (w n X : Nat) : List Int := (List.range n).map fun i => ((X / 2 ^ (w * i) % 2 ^ w : Nat) : Int)
@[simp] theorem acd (w n X : Nat) : (bsw w n X).length = n := by simp [bsw]
theorem bd7 (w n X i : Nat) (h : i < n) : (bsw w n X).getD i 0 = ((X / 2 ^ (w * i) % 2 ^ w : Nat) : Int) := by
 rw [getD_lt (by simpa using h)]; simp [bsw]
theorem bfb (w n X : Nat) : bsw w (n + 1) X = bsw w n X ++ [((X / 2 ^ (w * n) % 2 ^ w : Nat) : Int)] := by simp [bsw, List.range_succ]
theorem bgz (w n X : Nat) : In (2 ^ w) (bsw w n X) := by
 refine In.map (fun i _ => ⟨Int.natCast_nonneg _, ?_⟩)
 have := Nat.mod_lt (X / 2 ^ (w * i)) (p2 w)
 have e : ((2 : Int) ^ w) = ((2 ^ w : Nat) : Int) := by simp
 rw [e]; omega
theorem bhp (X h w m : Nat) (hm : h + w ≤ m) : X % 2 ^ m / 2 ^ h % 2 ^ w = X / 2 ^ h % 2 ^ w := by
 have e : (2 : Nat) ^ m = 2 ^ h * (2 ^ w * 2 ^ (m - (h + w))) := by rw [← Nat.pow_add, ← Nat.pow_add]; congr 1; omega
 rw [e, Nat.mod_mul_right_div_self, Nat.mod_mul_right_mod]
end Q
end

section
/- bits: Unpack. -/
namespace Q
open Go Go.Abs
set_option linter.unusedVariables false
set_option linter.unusedSimpArgs false
def Such (n : Nat) (w c : Int) : Prop := 1 ≤ w ∧ w ≤ 24 ∧ 0 ≤ c ∧ c * w ≤ n * 8
instance (n : Nat) (w c : Int) : Decidable (Such n w c) := inferInstanceAs (Decidable (_ ∧ _))
theorem bow (n : Nat) (w c : Int) (hn : n ≤ 1000000) {ρ : Type} (k : Bool → Option ρ) :
    br (decide (w ≥ (1 : Int))) (br (decide (w ≤ (24 : Int))) (br (decide (c ≥ (0 : Int))) (br (decide (w = (0 : Int))) none
     (k (decide (c ≤ IntKind.i64.wrap ((IntKind.i64.wrap ((↑n : Int) * (8 : Int))).tdiv w))))) (k false)) (k false)) (k false) = k (decide (Such n w c)) := by
 by_cases h1 : w ≥ 1
 ·by_cases h2 : w ≤ 24
  ·by_cases h3 : c ≥ 0
   ·rw [av h1, av h2, av h3, dh (by omega)]
    congr 1
    have e0 : ((n : Int) * 8).tdiv w = (n : Int) * 8 / w := Int.tdiv_eq_ediv_of_nonneg (by omega)
    have e1 : (n : Int) * 8 / w ≤ n * 8 := Int.ediv_le_self _ (by omega)
    have e2 : 0 ≤ (n : Int) * 8 / w := Int.ediv_nonneg (by omega) (by omega)
    rw [qb (x := (n : Int) * 8) (by omega) (by omega), e0, qb (by omega) (by omega)]
    apply decide_eq_decide.2
    rw [Int.le_ediv_iff_mul_le (by omega)]
    unfold Such
    omega
   ·rw [av h1, av h2, dh h3, decide_eq_false (fun h => h3 h.2.2.1)]
  ·rw [av h1, dh h2, decide_eq_false (fun h => h2 h.2.1)]
 ·rw [dh h1, decide_eq_false (fun h => h1 h.1)]
theorem abf (b : List Int) (w c : Int) (hn : b.length ≤ 1000000) {ρ : Type} (k : Bool → Option ρ) : P.abf b w c k = k (decide (Such b.length w c)) := by
 rw [P.ars]; exact bow b.length w c hn k
theorem fdiv_pow (a n m : Nat) (h : n ≤ m) : (a : Int).fdiv ((2 : Int) ^ min n m) = ((a / 2 ^ n : Nat) : Int) := by
 rw [Nat.min_eq_left h, show ((2 : Int) ^ n) = ((2 ^ n : Nat) : Int) by simp, ← Int.ofNat_fdiv]
theorem mul_pow (a n m : Nat) (h : n ≤ m) : (a : Int) * ((2 : Int) ^ min n m) = ((a * 2 ^ n : Nat) : Int) := by
 rw [Nat.min_eq_left h, show ((2 : Int) ^ n) = ((2 ^ n : Nat) : Int) by simp, ← Int.natCast_mul]
theorem ahp (a : Nat) (h : a < 18446744073709551616) : IntKind.u64.wrap (a : Int) = (a : Int) := by rw [bi5]; omega
theorem bu9 (a : Nat) (h : a < 4294967296) : IntKind.u32.wrap (a : Int) = (a : Int) := by rw [brp]; omega
theorem u8n (a : Nat) (h : a < 256) : IntKind.u8.wrap (a : Int) = (a : Int) := by rw [u8m]; omega
theorem bgk {a b : Nat} (h : a ≤ b) : 2 ^ a ≤ 2 ^ b := Nat.pow_le_pow_right (by omega) h
theorem bud (w : Nat) (h : w ≤ 24) : IntKind.u64.wrap (IntKind.u64.wrap ((1 : Int) * (2 : Int) ^ min w 64) - (1 : Int)) = ((2 ^ w - 1 : Nat) : Int) := by
 have h1 := p2 w
 have h2 : 2 ^ w ≤ 2 ^ 24 := bgk h
 rw [show (1 : Int) = ((1 : Nat) : Int) from rfl, mul_pow 1 w 64 (by omega), ahp _ (by omega), show ((1 * 2 ^ w : Nat) : Int) - ((1 : Nat) : Int) = ((2 ^ w - 1 : Nat) : Int) by omega, ahp _ (by omega)]
theorem bft (x w : Nat) (hx : x < 18446744073709551616) (h : w ≤ 24) : bits .and .u64 (x : Int) (IntKind.u64.wrap (IntKind.u64.wrap ((1 : Int) * (2 : Int) ^ min w 64) - (1 : Int))) = ((x % 2 ^ w : Nat) : Int) := by
 have h2 : 2 ^ w ≤ 2 ^ 24 := bgk h
 rw [bud w h, au3 _ _ hx (by omega), Nat.and_two_pow_sub_one_eq_mod]
def zn (n : Nat) : Nat := (n + 7) / 8
theorem be6 (n : Nat) : n ≤ 8 * zn n := by unfold zn; omega
theorem bd6 (n : Nat) : 8 * zn n < n + 8 := by unfold zn; omega
theorem byte_at {b : List Int} (hb : In 256 b) (t : Nat) : ∃ x : Nat, b.getD t 0 = (x : Int) ∧ x < 256 ∧ x = (b.getD t 0).toNat % 2 ^ 8 := by
 have := hb.getD t (by omega)
 exact ⟨(b.getD t 0).toNat, by omega, by omega, by omega⟩
end Q
end

section
/- Words of 32 and of 64 bits. -/
namespace Q
open Go Go.Abs
set_option linter.unusedVariables false
set_option linter.unusedSimpArgs false
theorem ofI {w : Nat} (x : BitVec w) : BitVec.ofInt w (x.toNat : Int) = x := by simp
theorem asg (x : BitVec 32) : x.toNat < 4294967296 := x.isLt
theorem bk7 (x : BitVec 64) : x.toNat < 18446744073709551616 := x.isLt
theorem ax1 (x y : BitVec 32) : bits .xor .u32 (x.toNat : Int) (y.toNat : Int) = ((x ^^^ y).toNat : Int) := by
 have e : bits .xor .u32 (x.toNat : Int) (y.toNat : Int) = IntKind.u32.wrap ((BitVec.ofInt 32 (x.toNat : Int) ^^^ BitVec.ofInt 32 (y.toNat : Int)).toNat : Int) := rfl
 rw [e, ofI, ofI, bu9 _ (asg _)]
theorem byu (x y : BitVec 32) : bits .and .u32 (x.toNat : Int) (y.toNat : Int) = ((x &&& y).toNat : Int) := by
 have e : bits .and .u32 (x.toNat : Int) (y.toNat : Int) = IntKind.u32.wrap ((BitVec.ofInt 32 (x.toNat : Int) &&& BitVec.ofInt 32 (y.toNat : Int)).toNat : Int) := rfl
 rw [e, ofI, ofI, bu9 _ (asg _)]
theorem b3h (x y : BitVec 32) : bits .or .u32 (x.toNat : Int) (y.toNat : Int) = ((x ||| y).toNat : Int) := by
 have e : bits .or .u32 (x.toNat : Int) (y.toNat : Int) = IntKind.u32.wrap ((BitVec.ofInt 32 (x.toNat : Int) ||| BitVec.ofInt 32 (y.toNat : Int)).toNat : Int) := rfl
 rw [e, ofI, ofI, bu9 _ (asg _)]
theorem add32 (x y : BitVec 32) : IntKind.u32.wrap ((x.toNat : Int) + (y.toNat : Int)) = ((x + y).toNat : Int) := by
 rw [brp, BitVec.toNat_add]; omega
theorem ajn (x y : BitVec 64) : bits .xor .u64 (x.toNat : Int) (y.toNat : Int) = ((x ^^^ y).toNat : Int) := by
 have e : bits .xor .u64 (x.toNat : Int) (y.toNat : Int) = IntKind.u64.wrap ((BitVec.ofInt 64 (x.toNat : Int) ^^^ BitVec.ofInt 64 (y.toNat : Int)).toNat : Int) := rfl
 rw [e, ofI, ofI, ahp _ (bk7 _)]
theorem bc7 (x y : BitVec 64) : bits .and .u64 (x.toNat : Int) (y.toNat : Int) = ((x &&& y).toNat : Int) := by
 have e : bits .and .u64 (x.toNat : Int) (y.toNat : Int) = IntKind.u64.wrap ((BitVec.ofInt 64 (x.toNat : Int) &&& BitVec.ofInt 64 (y.toNat : Int)).toNat : Int) := rfl
 rw [e, ofI, ofI, ahp _ (bk7 _)]
theorem buz (x y : BitVec 64) : bits .or .u64 (x.toNat : Int) (y.toNat : Int) = ((x ||| y).toNat : Int) := by
 have e : bits .or .u64 (x.toNat : Int) (y.toNat : Int) = IntKind.u64.wrap ((BitVec.ofInt 64 (x.toNat : Int) ||| BitVec.ofInt 64 (y.toNat : Int)).toNat : Int) := rfl
 rw [e, ofI, ofI, ahp _ (bk7 _)]
theorem ako (x y : BitVec 64) : IntKind.u64.wrap ((x.toNat : Int) + (y.toNat : Int)) = ((x + y).toNat : Int) := by
 rw [bi5, BitVec.toNat_add]; omega
theorem bn3 (x y : Nat) (hx : x < 18446744073709551616) (hy : y < 18446744073709551616) : bits .xor .u64 (x : Int) (y : Int) = ((x ^^^ y : Nat) : Int) := by
 have := ajn (BitVec.ofNat 64 x) (BitVec.ofNat 64 y)
 rw [BitVec.toNat_xor, BitVec.toNat_ofNat, BitVec.toNat_ofNat, Nat.mod_eq_of_lt (by omega), Nat.mod_eq_of_lt (by omega)] at this
 exact this
/- words of 32 bits as numbers of 64 -/
theorem nlt (x : BitVec 32) : x.toNat < 18446744073709551616 := by have := asg x; omega
theorem bmz (x y : BitVec 32) : bits .xor .u64 (x.toNat : Int) (y.toNat : Int) = ((x ^^^ y).toNat : Int) := by rw [bn3 _ _ (nlt x) (nlt y), BitVec.toNat_xor]
theorem nand (x y : BitVec 32) : bits .and .u64 (x.toNat : Int) (y.toNat : Int) = ((x &&& y).toNat : Int) := by rw [au3 _ _ (nlt x) (nlt y), BitVec.toNat_and]
theorem nor (x y : BitVec 32) : bits .or .u64 (x.toNat : Int) (y.toNat : Int) = ((x ||| y).toNat : Int) := by rw [bi3 _ _ (nlt x) (nlt y), BitVec.toNat_or]
theorem bgj (n : Nat) (h : n < 18446744073709551616) : bits .and .u64 (n : Int) 4294967295 = ((n % 4294967296 : Nat) : Int) := by
 rw [show (4294967295 : Int) = ((2 ^ 32 - 1 : Nat) : Int) from rfl, au3 _ _ h (by omega), Nat.and_two_pow_sub_one_eq_mod]
theorem bl0 (n : Nat) (h : n < 18446744073709551616) : bits .and .u64 (n : Int) 18446744073709551615 = (n : Int) := by
 rw [show (18446744073709551615 : Int) = ((2 ^ 64 - 1 : Nat) : Int) from rfl, au3 _ _ h (by omega), Nat.and_two_pow_sub_one_eq_mod, Nat.mod_eq_of_lt (by omega)]
def rr {w : Nat} (x : BitVec w) (n : Nat) : BitVec w := (x >>> n) ||| (x <<< (w - n))
theorem ava {w : Nat} (x : BitVec w) (n : Nat) : (x >>> n).toNat = x.toNat / 2 ^ n := by rw [BitVec.toNat_ushiftRight, Nat.shiftRight_eq_div_pow]
theorem au7 {w : Nat} (x : BitVec w) (n : Nat) : (x <<< n).toNat = x.toNat * 2 ^ n % 2 ^ w := by rw [BitVec.toNat_shiftLeft, Nat.shiftLeft_eq]
theorem bon (x : BitVec 32) (n : Nat) (h : n ≤ 32) : (x.toNat : Int).fdiv ((2 : Int) ^ min n 32) = ((x >>> n).toNat : Int) := by rw [fdiv_pow _ _ _ h, ava]
theorem bw4 (x : BitVec 32) (n : Nat) (h : n ≤ 32) : IntKind.u32.wrap ((x.toNat : Int) * (2 : Int) ^ min n 32) = ((x <<< n).toNat : Int) := by
 rw [mul_pow _ _ _ h, brp, au7]; omega
theorem bfk (x : BitVec 64) (n : Nat) (h : n ≤ 64) : (x.toNat : Int).fdiv ((2 : Int) ^ min n 64) = ((x >>> n).toNat : Int) := by rw [fdiv_pow _ _ _ h, ava]
theorem bpb (x : BitVec 64) (n : Nat) (h : n ≤ 64) : IntKind.u64.wrap ((x.toNat : Int) * (2 : Int) ^ min n 64) = ((x <<< n).toNat : Int) := by
 rw [mul_pow _ _ _ h, bi5, au7]; omega
theorem b30 (x : BitVec 32) (n : Nat) (h : n ≤ 64) : (x.toNat : Int).fdiv ((2 : Int) ^ min n 64) = ((x >>> n).toNat : Int) := by rw [fdiv_pow _ _ _ h, ava]
theorem nshl (x : BitVec 32) (n : Nat) (h : n ≤ 32) : bits .and .u64 (IntKind.u64.wrap ((x.toNat : Int) * (2 : Int) ^ min n 64)) 4294967295 = ((x <<< n).toNat : Int) := by
 have h1 := asg x
 have h2 : 2 ^ n ≤ 2 ^ 32 := bgk h
 have h3 : x.toNat * 2 ^ n ≤ 4294967295 * 2 ^ 32 := Nat.mul_le_mul (by omega) h2
 rw [mul_pow _ _ _ (by omega), ahp _ (by omega), bgj _ (by omega), au7]
theorem bq7 {w : Nat} (e f g : BitVec w) : (e &&& f) ^^^ ((BitVec.allOnes w ^^^ e) &&& g) = g ^^^ (e &&& (f ^^^ g)) := by
 ext i hi
 simp
 cases e[i] <;> cases f[i] <;> cases g[i] <;> rfl
theorem bmx {w : Nat} (a b c : BitVec w) : ((a &&& b) ^^^ (a &&& c)) ^^^ (b &&& c) = (a &&& b) ||| (c &&& (a ||| b)) := by
 ext i hi
 simp
 cases a[i] <;> cases b[i] <;> cases c[i] <;> rfl
end Q
end

section
/- keccak: 25 words by a function of their number; the program's round and the document's. -/
namespace QK
open Q
open Go Go.Abs
set_option linter.unusedVariables false
set_option linter.unusedSimpArgs false
set_option maxRecDepth 100000
def L25 (f : Nat → Int) : List Int := (List.range 25).map f
def X (a b : Int) : Int := bits .xor .u64 a b
def Rl (a : Int) (n : Nat) : Int := bits .or .u64 (IntKind.u64.wrap (a * 2 ^ min n 64)) (a.fdiv (2 ^ min (64 - n) 64))
def cP (f : Nat → Int) (j : Nat) : Int := X (X (X (X (f j) (f (j + 5))) (f (j + 10))) (f (j + 15))) (f (j + 20))
def thP (f : Nat → Int) (i : Nat) : Int := X (f i) (X (cP f ((i + 4) % 5)) (Rl (cP f ((i + 1) % 5)) 1))
def psT : List Nat := [0, 6, 12, 18, 24, 3, 9, 10, 16, 22, 1, 7, 13, 19, 20, 4, 5, 11, 17, 23, 2, 8, 14, 15, 21]
def rsT : List Nat := [0, 44, 43, 21, 14, 28, 20, 3, 45, 61, 1, 6, 25, 8, 18, 27, 36, 10, 15, 56, 62, 55, 39, 41, 2]
def piP (f : Nat → Int) (i : Nat) : Int := bif Nat.beq i 0 then f 0 else Rl (f (psT.getD i 0)) (rsT.getD i 0)
def chP (f : Nat → Int) (i : Nat) : Int := X (f i) (bits .andNot .u64 (f (i / 5 * 5 + (i + 2) % 5)) (f (i / 5 * 5 + (i + 1) % 5)))
def s0 (x : Int) (f : Nat → Int) (i : Nat) : Int := bif Nat.beq i 0 then x else f i
theorem bbr (n : Nat) (h : n ≤ 1000) : ∃ m, FU = m + n := ⟨FU - n, by have := boz; omega⟩
theorem b1q (f : Nat → Int) (h1 : List Int) {ρ : Type} (k : Int → List Int → List Int → List Int → Option ρ) :
    P.ac1 0 h1 (L25 f) [0, 0, 0, 0, 0] k = k 5 h1 (L25 f) [cP f 0, cP f 1, cP f 2, cP f 3, cP f 4] := by
 obtain ⟨m, hm⟩ := bbr 6 (by omega)
 rw [P.akr]
 unfold P.agz P.zk8 P.zs8 P.zu8 P.agt lp
 rw [hm]
 kernel_rfl
theorem br0 (c : Int) (f : Nat → Int) (h1 h2 : List Int) {ρ : Type} (k : Int → Int → List Int → List Int → List Int → List Int → Option ρ) :
    P.ac7 c 0 (L25 f) h1 h2 [cP f 0, cP f 1, cP f 2, cP f 3, cP f 4] k = k c 5 (L25 (thP f)) h1 h2 [cP f 0, cP f 1, cP f 2, cP f 3, cP f 4] := by
 obtain ⟨m, hm⟩ := bbr 6 (by omega)
 rw [P.aks]
 unfold P.ahl P.bvv P.bqo P.bx3 P.ahj
 simp only [P.aa6, P.aar, P.zk9, P.zu9, P.aaq, P.o9, P.l9, lp, hm]; (try delta P.zs9); (try simp only [P.aa6, P.aar, P.zk9, P.zu9, P.aaq, P.o9, P.l9, lp, hm]); (try delta P.zs9); (try simp only [P.aa6, P.aar, P.zk9, P.zu9, P.aaq, P.o9, P.l9, lp, hm])
 kernel_rfl
theorem rhoP (c : Int) (f : Nat → Int) (h1 h2 h3 : List Int) {ρ : Type} (k : Int → Int → List Int → Int → List Int → List Int → List Int → List Int → Option ρ) :
    P.aco c ((L25 f).getD 1 0) P.bpu 0 h3 h2 h1 (L25 f) k = k c (f 1) P.bpu 24 h3 h2 h1 (L25 (piP f)) := by
 obtain ⟨m, hm⟩ := bbr 25 (by omega)
 rw [P.ajk]
 unfold P.af9 P.bvl P.bsm P.bwm P.af6
 simp only [P.o9, P.l9, lp, hm]
 kernel_rfl
theorem chiP (c : Int) (f : Nat → Int) (h1 h2 h3 : List Int) {ρ : Type} (k : Int → Int → List Int → List Int → List Int → List Int → Option ρ) :
    P.acr c 0 (L25 f) h1 h2 h3 k = k c 25 (L25 (chP f)) h1 h2 h3 := by
 obtain ⟨m, hm⟩ := bbr 6 (by omega)
 rw [P.aju]
 unfold P.af5 P.bv5 P.bqt P.bxa P.af8
 simp only [P.aao, P.zq, P.bp5, P.br3, P.zw, lp, hm]; (try delta P.zs12); (try simp only [P.aao, P.zq, P.bp5, P.br3, P.zw, lp, hm]); (try delta P.zs12); (try simp only [P.aao, P.zq, P.bp5, P.br3, P.zw, lp, hm])
 kernel_rfl
theorem set0 (x : Int) (f : Nat → Int) : (L25 f).set 0 x = L25 (s0 x f) := by kernel_rfl
theorem b3t (f : Nat → Int) : (L25 f).getD 0 0 = f 0 := by kernel_rfl
def cR (f : Nat → Int) (j : Nat) : Int := X (X (X (X (X 0 (f j)) (f (j + 5))) (f (j + 10))) (f (j + 15))) (f (j + 20))
def thR (f : Nat → Int) (i : Nat) : Int := X (X (f i) (cR f ((i + 4) % 5))) (Rl (cR f ((i + 1) % 5)) 1)
def chR (f : Nat → Int) (i : Nat) : Int := X (f i) (bits .and .u64 (X (f (i / 5 * 5 + (i + 1) % 5)) 18446744073709551615) (f (i / 5 * 5 + (i + 2) % 5)))
theorem bof (f : Nat → Int) {ρ : Type} (k : List Int → Option ρ) : P.ab9 (L25 f) k = k (L25 (thR f)) := by
 obtain ⟨m, hm⟩ := bbr 26 (by omega)
 rw [P.aow]
 unfold P.aik
 simp only [P.afz, P.agf, P.bps, P.bt9, P.agj, P.afx, P.agh, P.bpy, P.bt6, P.agd, P.ac5, P.aai, lp, hm]; (try delta P.bpt P.bpv); (try simp only [P.afz, P.agf, P.bps, P.bt9, P.agj, P.afx, P.agh, P.bpy, P.bt6, P.agd, P.ac5, P.aai, lp, hm]); (try delta P.bpt P.bpv); (try simp only [P.afz, P.agf, P.bps, P.bt9, P.agj, P.afx, P.agh, P.bpy, P.bt6, P.agd, P.ac5, P.aai, lp, hm])
 kernel_rfl
theorem b0y (f : Nat → Int) {ρ : Type} (k : List Int → Option ρ) : P.agp (L25 f) k = k (L25 (piP f)) := by
 obtain ⟨m, hm⟩ := bbr 25 (by omega)
 rw [P.as2]
 unfold P.alk
 simp only [P.aip, P.aj2, P.bpr, P.bqc, P.ajs, P.ac5, P.aai, lp, hm]; (try delta P.bpw); (try simp only [P.aip, P.aj2, P.bpr, P.bqc, P.ajs, P.ac5, P.aai, lp, hm]); (try delta P.bpw); (try simp only [P.aip, P.aj2, P.bpr, P.bqc, P.ajs, P.ac5, P.aai, lp, hm])
 kernel_rfl
theorem chiR (v : Int) (f g : Nat → Int) (h1 h2 : List Int) {ρ : Type} (k : Int → Int → List Int → List Int → List Int → List Int → Option ρ) :
    P.aii v 0 h2 h1 (L25 g) (L25 f) k = k v 25 h2 h1 (L25 (chR f)) (L25 f) := by
 obtain ⟨m, hm⟩ := bbr 26 (by omega)
 rw [P.aqe]
 unfold P.amv P.bvz P.brf P.b0r P.amr
 simp only [lp, hm]
 kernel_rfl
theorem btv {ρ : Type} (k : List Int → Option ρ) : P.u7 k = k P.bgi := by
 obtain ⟨m, hm⟩ := bbr 169 (by omega)
 rw [P.akf]
 unfold P.aeu
 simp only [P.ac6, P.acy, P.bpx, P.brg, P.acw, lp, hm]; (try delta P.bpq); (try simp only [P.ac6, P.acy, P.bpx, P.brg, P.acw, lp, hm]); (try delta P.bpq); (try simp only [P.ac6, P.acy, P.bpx, P.brg, P.acw, lp, hm])
 kernel_rfl
end QK
end

section
/- keccak: the program's rounds are the document's. -/
namespace QK
open Q
open Go Go.Abs
set_option linter.unusedVariables false
set_option linter.unusedSimpArgs false
def U64 (x : Int) : Prop := 0 ≤ x ∧ x < 18446744073709551616
def Ws (f : Nat → Int) : Prop := ∀ i, U64 (f i)
theorem U64.bv {x : Int} (h : U64 x) : ∃ b : BitVec 64, x = (b.toNat : Int) := by
 obtain ⟨n, rfl⟩ := Int.eq_ofNat_of_zero_le h.1
 have h2 := h.2
 refine ⟨BitVec.ofNat 64 n, ?_⟩
 rw [BitVec.toNat_ofNat, Nat.mod_eq_of_lt (by omega)]
theorem bjk (b : BitVec 64) : U64 (b.toNat : Int) := by
 have := bk7 b
 unfold U64
 omega
theorem bnk (a b : BitVec 64) : X (a.toNat : Int) (b.toNat : Int) = ((a ^^^ b).toNat : Int) := ajn a b
theorem X_U {a b : Int} (ha : U64 a) (hb : U64 b) : U64 (X a b) := by
 obtain ⟨x, rfl⟩ := ha.bv
 obtain ⟨y, rfl⟩ := hb.bv
 rw [bnk]
 exact bjk _
theorem btp {a : Int} (ha : U64 a) : X 0 a = a := by
 obtain ⟨x, rfl⟩ := ha.bv
 have := bnk 0 x
 simpa using this
theorem bo9 {a b c : Int} (ha : U64 a) (hb : U64 b) (hc : U64 c) : X (X a b) c = X a (X b c) := by
 obtain ⟨x, rfl⟩ := ha.bv
 obtain ⟨y, rfl⟩ := hb.bv
 obtain ⟨z, rfl⟩ := hc.bv
 rw [bnk, bnk, bnk, bnk, BitVec.xor_assoc]
theorem bz9 {a : Int} (ha : U64 a) (n : Nat) (hn : n ≤ 64) : U64 (Rl a n) := by
 obtain ⟨x, rfl⟩ := ha.bv
 unfold Rl
 rw [bpb x n hn, bfk x (64 - n) (by omega), buz]
 exact bjk _
theorem bd5 (x y : BitVec 64) : bits .andNot .u64 (x.toNat : Int) (y.toNat : Int) = ((x &&& ~~~y).toNat : Int) := by
 have e : bits .andNot .u64 (x.toNat : Int) (y.toNat : Int) = IntKind.u64.wrap ((BitVec.ofInt 64 (x.toNat : Int) &&& ~~~BitVec.ofInt 64 (y.toNat : Int)).toNat : Int) := rfl
 rw [e, ofI, ofI, ahp _ (bk7 _)]
theorem bpi {a b : Int} (ha : U64 a) (hb : U64 b) : bits .and .u64 (X a 18446744073709551615) b = bits .andNot .u64 b a := by
 obtain ⟨x, rfl⟩ := ha.bv
 obtain ⟨y, rfl⟩ := hb.bv
 have h1 : (18446744073709551615 : Int) = ((BitVec.allOnes 64).toNat : Int) := by decide
 rw [h1, bnk, bc7, bd5, BitVec.xor_allOnes, BitVec.and_comm]
theorem blh {a b : Int} (ha : U64 a) (hb : U64 b) : U64 (bits .andNot .u64 a b) := by
 obtain ⟨x, rfl⟩ := ha.bv
 obtain ⟨y, rfl⟩ := hb.bv
 rw [bd5]
 exact bjk _
theorem bu3 {f : Nat → Int} (h : Ws f) (j : Nat) : U64 (cP f j) := X_U (X_U (X_U (X_U (h _) (h _)) (h _)) (h _)) (h _)
theorem bsi {f : Nat → Int} (h : Ws f) (j : Nat) : cR f j = cP f j := by unfold cR cP; rw [btp (h j)]
theorem bs3 {f : Nat → Int} (h : Ws f) : Ws (thP f) := fun i => X_U (h i) (X_U (bu3 h _) (bz9 (bu3 h _) 1 (by omega)))
theorem bup {f : Nat → Int} (h : Ws f) : thR f = thP f := by
 funext i
 unfold thR thP
 rw [bsi h, bsi h, bo9 (h i) (bu3 h _) (bz9 (bu3 h _) 1 (by omega))]
theorem bw8 (i : Nat) : rsT.getD i 0 ≤ 64 := by
 by_cases hi : i < 25
 ·have : ∀ i, i < 25 → rsT.getD i 0 ≤ 64 := by decide
  exact this i hi
 ·rw [bg0 (by simp [rsT]; omega)]; omega
theorem bt3 {f : Nat → Int} (h : Ws f) : Ws (piP f) := fun i => by
 unfold piP
 cases Nat.beq i 0 with
 | true => exact h 0
 | false => exact bz9 (h _) _ (bw8 i)
theorem bun {f : Nat → Int} (h : Ws f) : chR f = chP f := by
 funext i
 unfold chR chP
 rw [bpi (h _) (h _)]
theorem bzs {f : Nat → Int} (h : Ws f) : Ws (chP f) := fun i => X_U (h i) (blh (h _) (h _))
theorem s0_U {f : Nat → Int} {x : Int} (h : Ws f) (hx : U64 x) : Ws (s0 x f) := fun i => by
 unfold s0
 cases Nat.beq i 0 with
 | true => exact hx
 | false => exact h i
def rnd (c : Int) (f : Nat → Int) : Nat → Int := s0 (X (chP (piP (thP f)) 0) c) (chP (piP (thP f)))
theorem b0l {f : Nat → Int} {c : Int} (h : Ws f) (hc : U64 c) : Ws (rnd c f) := by
 have h2 := bzs (bt3 (bs3 h))
 exact s0_U h2 (X_U (h2 0) hc)
def bnz (f : Nat → Int) : Nat → Nat → Int
 | 0 => f
 | n + 1 => rnd (P.bgi.getD n 0) (bnz f n)
theorem brw (n : Nat) : U64 (P.bgi.getD n 0) := by
 by_cases hn : n < 24
 ·have : ∀ n, n < 24 → (0 ≤ P.bgi.getD n 0 ∧ P.bgi.getD n 0 < 18446744073709551616) := by decide +kernel
  exact this n hn
 ·have hl : P.bgi.length = 24 := by decide +kernel
  rw [bg0 (by omega)]
  exact ⟨by decide, by decide⟩
theorem bgm {f : Nat → Int} (h : Ws f) : ∀ n, Ws (bnz f n)
 | 0 => h
 | n + 1 => b0l (bgm h n) (brw n)
theorem ig (f : Nat → Int) {ρ : Type} (k : List Int → Option ρ) : P.ig (L25 f) k = k (L25 (bnz f 24)) := by
 rw [P.ajf]; unfold P.adw
 rw [P.amj]; unfold P.ai4 P.bvp P.btr P.bzr
 refine zo (fun i => (P.bgi, (i : Int), L25 (bnz f i), [(0 : Int), 0, 0, 0, 0, 0, 0, 0, 0, 0, 0, 0, 0, 0, 0, 0, 0, 0, 0, 0, 0, 0, 0, 0, 0])) 24 rfl (fun i hi next hn => ?_) (fun next => ?_) (by omega)
 ·simp only [P.ael, toNat_cast]
  rw [av (by omega), av (by omega), av (by omega), b1q, br0, rhoP, chiP, b3t, set0, qb (by omega) (by omega)]
  exact hn
 ·simp only [P.ael]
  rw [dh (by omega)]
theorem mo {f : Nat → Int} (h : Ws f) {ρ : Type} (k : List Int → Option ρ) : P.mo (L25 f) k = k (L25 (bnz f 24)) := by
 rw [P.am0]; unfold P.ag0
 rw [btv, P.aqs]; unfold P.ams P.bvq P.bql P.by0
 refine zo (fun i => ((i : Int), L25 (bnz f i), [(0 : Int), 0, 0, 0, 0, 0, 0, 0, 0, 0, 0, 0, 0, 0, 0, 0, 0, 0, 0, 0, 0, 0, 0, 0, 0], P.bgi)) 24 rfl (fun i hi next hn => ?_) (fun next => ?_) (by omega)
 ·have hU := bgm h i
  simp only [P.aie]
  rw [av (by omega), bof, b0y, chiR, av (by omega), av (by omega), b3t, set0, toNat_cast, qb (by omega) (by omega), bup hU, bun (bt3 (bs3 hU))]
  exact hn
 ·simp only [P.aie]
  rw [dh (by omega)]
theorem bh8 (f : Nat → Int) : (L25 f).length = 25 := by simp [L25]
theorem bna (l : List Int) (h : l.length = 25) : l = L25 fun i => l.getD i 0 := by
 apply List.ext_getElem
 ·rw [bh8, h]
 ·intro i h1 h2
  simp only [L25, List.getElem_map, List.getElem_range]
  exact (getD_lt h1).symm
end QK
end

section
/- bits: Unpack, as the document has it. -/
namespace Q
open Go Go.Abs
set_option linter.unusedVariables false
set_option linter.unusedSimpArgs false
end Q
end

section
/- bits: Digits. -/
namespace Q
open Go Go.Abs
set_option linter.unusedVariables false
set_option linter.unusedSimpArgs false
def dg (w L N : Nat) (i : Nat) : Int := ((N / 2 ^ (8 * L - w * (i + 1)) % 2 ^ w : Nat) : Int)
def ax6 (b : List Int) (w c : Int) : List Int := if Such b.length w c then (List.range c.toNat).map (dg w.toNat b.length (T 8 b.reverse)) else []
theorem bl4 (b : List Int) (t : Nat) (h : t ≤ b.length) : T 8 (b.take t).reverse = T 8 b.reverse / 2 ^ (8 * (b.length - t)) := by
 rw [List.reverse_take, bf2 8 _ _ (by simp)]
theorem ax3 (b : List Int) (t : Nat) (h : t < b.length) : T 8 (b.take (t + 1)).reverse = (b.getD t 0).toNat % 2 ^ 8 + 256 * T 8 (b.take t).reverse := by
 rw [← alu b 0 t h, List.reverse_append, List.reverse_singleton, List.singleton_append, T]
theorem oz (b : List Int) (w c : Int) (hb : In 256 b) (hn : b.length ≤ 1000000) {ρ : Type} (k : List Int → Option ρ) : P.oz b w c k = k (ax6 b w c) := by
 rw [P.amy]
 unfold P.ag2
 rw [abf b w c hn, ku]
 unfold ax6
 by_cases hs : Such b.length w c
 rotate_left
 ·rw [decide_eq_false hs, qd, if_neg hs]
 rw [decide_eq_true hs, p8, if_pos hs]
 obtain ⟨h1, h2, h3, h4⟩ := hs
 obtain ⟨w, rfl⟩ := Int.eq_ofNat_of_zero_le (show 0 ≤ w by omega)
 obtain ⟨c, rfl⟩ := Int.eq_ofNat_of_zero_le h3
 have h4 : c * w ≤ b.length * 8 := by exact_mod_cast h4
 have hc : c ≤ c * w := Nat.le_mul_of_pos_right c (by omega)
 simp only [toNat_cast, List.length_replicate]
 simp (disch := omega) only [av, dh, gu, fq, dw, dz, ku, p8, qd, qb]
 rw [P.aqo]
 unfold P.amo P.zk3 P.zs3 P.zu3
 refine zo (fun i => (b.drop (zn (w * i)), (w : Int), ((T 8 (b.take (zn (w * i))).reverse % 2 ^ 64 : Nat) : Int), ((8 * zn (w * i) - w * i : Nat) : Int), (c : Int), (i : Int), ((List.range i).map (dg w b.length (T 8 b.reverse))) ++ List.replicate (c - i) 0)) c (by simp [zn, T, bsw]) (fun i hi next hn' => ?_) (fun next => ?_) (by omega)
 ·have hwi : w * (i + 1) = w * i + w := Nat.mul_succ w i
  have hwc : w * (i + 1) ≤ b.length * 8 := Nat.le_trans (Nat.mul_le_mul (Nat.le_refl w) hi) (by rw [Nat.mul_comm]; exact h4)
  have c1 := be6 (w * i)
  have c2 := bd6 (w * i)
  have c3 := be6 (w * (i + 1))
  have c4 := bd6 (w * (i + 1))
  have c5 : zn (w * i) ≤ zn (w * (i + 1)) := by unfold zn; omega
  simp only [P.aiv]
  rw [av (by omega), P.ap3]
  unfold P.am3 P.zk2 P.zs2 P.zu2
  refine zo (fun j => (b.drop (zn (w * i) + j), (w : Int), ((T 8 (b.take (zn (w * i) + j)).reverse % 2 ^ 64 : Nat) : Int), ((8 * (zn (w * i) + j) - w * i : Nat) : Int), (i : Int), (c : Int), (i : Int), ((List.range i).map (dg w b.length (T 8 b.reverse))) ++ List.replicate (c - i) 0)) (zn (w * (i + 1)) - zn (w * i)) rfl (fun j hj next2 hn2 => ?_) (fun next2 => ?_) (by omega)
  ·have ht : zn (w * i) + j < b.length := by omega
   obtain ⟨x, hx, hx2, hx3⟩ := byte_at hb (zn (w * i) + j)
   have est := ax3 b (zn (w * i) + j) ht
   rw [← hx3] at est
   simp only [P.ah9, List.length_drop, toNat_cast]
   rw [List.take_of_length_le (l := b.drop (zn (w * i) + j)) (by simp), List.drop_drop]
   have e0 : (b.drop (zn (w * i) + j)).getD 0 0 = (x : Int) := by
    rw [← hx, afq b 0 _ ht]; rfl
   have e1 : IntKind.u64.wrap (((T 8 (b.take (zn (w * i) + j)).reverse % 2 ^ 64 : Nat) : Int) * 2 ^ 8) = ((T 8 (b.take (zn (w * i) + j)).reverse % 2 ^ 56 * 2 ^ 8 : Nat) : Int) := by
    rw [bi5]; omega
   rw [e0, e1, ahp x (by omega), bi3 _ _ (by omega) (by omega), bek _ _ _ (by omega)]
   simp (disch := omega) only [av, dh, gu, fq, dw, dz, ku, p8, qd, qb]
   rw [Nat.add_assoc, show ((8 * (zn (w * i) + j) - w * i : Nat) : Int) + 8 = ((8 * (zn (w * i) + (j + 1)) - w * i : Nat) : Int) by omega,
    show T 8 (b.take (zn (w * i) + j)).reverse % 2 ^ 56 * 2 ^ 8 + x = T 8 (b.take (zn (w * i) + (j + 1))).reverse % 2 ^ 64 by rw [← Nat.add_assoc, est]; omega]
   exact hn2
  ·have et : zn (w * i) + (zn (w * (i + 1)) - zn (w * i)) = zn (w * (i + 1)) := by omega
   simp only [P.ah9, toNat_cast]
   rw [et, dh (by omega), show ((8 * zn (w * (i + 1)) - w * i : Nat) : Int) - (w : Int) = ((8 * zn (w * (i + 1)) - w * (i + 1) : Nat) : Int) by omega,
    qb (x := ((8 * zn (w * (i + 1)) - w * (i + 1) : Nat) : Int)) (by omega) (by omega)]
   simp only [toNat_cast]
   have hq : T 8 (b.take (zn (w * (i + 1)))).reverse % 2 ^ 64 / 2 ^ (8 * zn (w * (i + 1)) - w * (i + 1)) < 18446744073709551616 := by
    have := Nat.div_le_self (T 8 (b.take (zn (w * (i + 1)))).reverse % 2 ^ 64) (2 ^ (8 * zn (w * (i + 1)) - w * (i + 1)))
    omega
   rw [fdiv_pow _ _ 64 (by omega), bft _ w hq (by omega), bhp _ _ _ _ (by omega)]
   have hw2 : 2 ^ w ≤ 2 ^ 24 := bgk (by omega)
   have hmod := Nat.mod_lt (T 8 (b.take (zn (w * (i + 1)))).reverse / 2 ^ (8 * zn (w * (i + 1)) - w * (i + 1))) (p2 w)
   rw [bu9 _ (by omega)]
   have ed : ((T 8 (b.take (zn (w * (i + 1)))).reverse / 2 ^ (8 * zn (w * (i + 1)) - w * (i + 1)) % 2 ^ w : Nat) : Int) = dg w b.length (T 8 b.reverse) i := by
    unfold dg
    rw [bl4 b _ (by omega), Nat.div_div_eq_div_mul, ← Nat.pow_add]
    congr 4; omega
   rw [ed]
   simp only [List.length_append, List.length_map, List.length_range, List.length_replicate]
   simp (disch := omega) only [av, dh, gu, fq, dw, dz, ku, p8, qd, qb]
   rw [bbn _ _ _ hi]
   exact hn'
 ·simp only [P.aiv]
  rw [dh (by omega), Nat.sub_self]
  simp
end Q
end

section
/- bits: numbers as bytes and back. -/
namespace Q
open Go Go.Abs
set_option linter.unusedVariables false
set_option linter.unusedSimpArgs false
theorem blr (w n m X : Nat) (hm : m ≤ n) (hX : X < 2 ^ (w * m)) : bsw w m X ++ List.replicate (n - m) 0 = bsw w n X := by
 refine List.ext_getElem (by simp; omega) (fun i h1 h2 => ?_)
 have hi : i < n := by simpa using h2
 rw [← getD_lt (d := 0) h2, bd7 _ _ _ _ hi]
 by_cases him : i < m
 ·rw [List.getElem_append_left (by simpa using him), ← getD_lt (d := 0), bd7 _ _ _ _ him]
 ·rw [List.getElem_append_right (by simp; omega), List.getElem_replicate, Nat.div_eq_of_lt]
  ·rfl
  ·exact Nat.lt_of_lt_of_le hX (bgk (Nat.mul_le_mul (Nat.le_refl _) (by omega)))
theorem aew (N s : Nat) (hN : N < 18446744073709551616) (hs : s ≤ 65536) {ρ : Type} (k : List Int → Option ρ) : P.aew (N : Int) (s : Int) k = k (bsw 8 s N) := by
 rw [P.awf]
 unfold P.ant
 have em : (bif decide ((8 : Int) < (s : Int)) then (8 : Int) else (s : Int)) = ((min s 8 : Nat) : Int) := by
  by_cases h : (8 : Int) < (s : Int)
  ·rw [decide_eq_true h]; simp only [cond_true]; omega
  ·rw [decide_eq_false h]; simp only [cond_false]; omega
 simp only [toNat_cast]
 rw [em]
 simp (disch := omega) only [av, dh, gu, fq, dw, dz, ku, p8, qd, qb]
 rw [P.ayd]
 unfold P.av4 P.zk4 P.zs4 P.zu4
 refine zo (fun i => ((N : Int), ((min s 8 : Nat) : Int), (i : Int), bsw 8 i N ++ List.replicate (s - i) 0)) (min s 8) (by simp [bsw]) (fun i hi next hn' => ?_) (fun next => ?_) (by omega)
 ·simp only [P.aqh, List.length_append, acd, List.length_replicate, toNat_cast]
  rw [show (8 : Int) * (i : Int) = ((8 * i : Nat) : Int) by omega, qb (x := ((8 * i : Nat) : Int)) (by omega) (by omega)]
  simp only [toNat_cast]
  rw [fdiv_pow N _ 64 (by omega), u8m]
  simp (disch := omega) only [av, dh, gu, fq, dw, dz, ku, p8, qd, qb]
  rw [List.set_append_right _ _ (by simp), acd, Nat.sub_self, show s - i = (s - (i + 1)) + 1 by omega, List.replicate_succ, List.set_cons_zero]
  rw [bfb, List.append_assoc, List.singleton_append] at hn'
  exact hn'
 ·simp only [P.aqh]
  rw [dh (by omega)]
  by_cases h : s ≤ 8
  ·rw [Nat.min_eq_left h, Nat.sub_self]; simp
  ·rw [Nat.min_eq_right (by omega), blr 8 s 8 N (by omega) (by omega)]
theorem bhb {f : Nat → Int} (n q : Nat) (v : Int) : ((List.range n).map f).set q v = (List.range n).map (fun j => if j = q then v else f j) := by
 refine List.ext_getElem (by simp) (fun i h1 h2 => ?_)
 simp only [List.getElem_set, List.getElem_map, List.getElem_range]
 by_cases h : q = i
 ·rw [if_pos h, if_pos h.symm]
 ·rw [if_neg h, if_neg (fun e => h e.symm)]
theorem beb {f : Nat → Int} (n q : Nat) (h : q < n) : ((List.range n).map f).getD q 0 = f q := by
 rw [getD_lt (by simpa using h)]; simp
theorem blg (l : List Int) : l = (List.range l.length).map (fun j => l.getD j 0) := by
 refine List.ext_getElem (by simp) (fun i h1 h2 => ?_)
 simp only [List.getElem_map, List.getElem_range]
 rw [getD_lt h1]
theorem um (N s : Nat) (hN : N < 18446744073709551616) (hs : s ≤ 65536) {ρ : Type} (k : List Int → Option ρ) : P.um (N : Int) (s : Int) k = k (bsw 8 s N).reverse := by
 rw [P.awt]
 unfold P.anz
 rw [aew N s hN hs, P.asx]
 unfold P.aro P.zk5 P.zs5 P.zu5
 simp only [acd]
 rw [qb (by omega) (by omega)]
 have hfin : (bsw 8 s N).reverse = (List.range s).map (fun q => (bsw 8 s N).getD (s - 1 - q) 0) := by
  refine List.ext_getElem (by simp) (fun i h1 h2 => ?_)
  have hi : i < s := by simpa using h2
  rw [List.getElem_reverse, List.getElem_map, List.getElem_range, getD_lt (by simp; omega)]
  congr 1; simp
 have h0 : bsw 8 s N = (List.range s).map (fun q => if q < 0 ∨ s - 0 ≤ q then (bsw 8 s N).getD (s - 1 - q) 0 else (bsw 8 s N).getD q 0) := by
  have e := blg (bsw 8 s N)
  rw [acd] at e
  refine e.trans (List.map_congr_left (fun q hq => ?_))
  have := List.mem_range.1 hq
  rw [if_neg (by omega)]
 generalize bsw 8 s N = l at h0 hfin
 refine zo (fun i => ((i : Int), (s : Int) - 1 - (i : Int), (List.range s).map (fun q => if q < i ∨ s - i ≤ q then l.getD (s - 1 - q) 0 else l.getD q 0))) (s / 2) (by rw [← h0]; simp) (fun i hi next hn' => ?_) (fun next => ?_) (by omega)
 ·simp only [P.alj, List.length_map, List.length_range, List.length_set]
  rw [show (s : Int) - 1 - (i : Int) = ((s - 1 - i : Nat) : Int) by omega]
  simp only [toNat_cast]
  rw [beb _ _ (by omega), beb _ _ (by omega), if_neg (by omega), if_neg (by omega), bhb, bhb]
  have e : (List.range s).map (fun q => if q < i + 1 ∨ s - (i + 1) ≤ q then l.getD (s - 1 - q) 0 else l.getD q 0) = (List.range s).map (fun j => if j = s - 1 - i then l.getD i 0 else if j = i then l.getD (s - 1 - i) 0 else if j < i ∨ s - i ≤ j then l.getD (s - 1 - j) 0 else l.getD j 0) := by
   refine List.map_congr_left (fun q hq => ?_)
   have := List.mem_range.1 hq
   by_cases a1 : q = s - 1 - i
   ·subst a1; rw [if_pos (by omega), if_pos rfl]; congr 1; omega
   ·rw [if_neg a1]
    by_cases a2 : q = i
    ·subst a2; rw [if_pos (by omega), if_pos rfl]
    ·rw [if_neg a2]
     by_cases a3 : q < i ∨ s - i ≤ q
     ·rw [if_pos (by omega), if_pos a3]
     ·rw [if_neg (by omega), if_neg a3]
  rw [e] at hn'
  simp (disch := omega) only [av, dh, gu, fq, dw, dz, ku, p8, qd, qb]
  rw [show ((s - 1 - i : Nat) : Int) - 1 = (s : Int) - 1 - ((i + 1 : Nat) : Int) by omega]
  exact hn'
 ·simp only [P.alj]
  rw [dh (by omega), hfin]
  congr 1
  refine List.map_congr_left (fun q hq => ?_)
  have := List.mem_range.1 hq
  by_cases a3 : q < s / 2 ∨ s - s / 2 ≤ q
  ·rw [if_pos a3]
  ·rw [if_neg a3]; congr 1; omega
theorem tu (b : List Int) (hb : In 256 b) (hn : b.length ≤ 1000000) {ρ : Type} (k : Int → Option ρ) : P.tu b k = k ((T 8 b.reverse % 2 ^ 64 : Nat) : Int) := by
 rw [P.asw]
 unfold P.ala
 rw [P.avk]
 unfold P.aut P.bvx P.bth P.b0m
 refine zo (fun i => (((T 8 (b.take i).reverse % 2 ^ 64 : Nat) : Int), b, (b.length : Int), (i : Int))) b.length (by simp [T]) (fun i hi next hn' => ?_) (fun next => ?_) (by omega)
 ·obtain ⟨x, hx, hx2, hx3⟩ := byte_at hb i
  have est := ax3 b i hi
  rw [← hx3] at est
  simp only [P.anr, toNat_cast]
  have e1 : IntKind.u64.wrap (((T 8 (b.take i).reverse % 2 ^ 64 : Nat) : Int) * 2 ^ 8) = ((T 8 (b.take i).reverse % 2 ^ 56 * 2 ^ 8 : Nat) : Int) := by
   rw [bi5]; omega
  rw [hx, e1, ahp x (by omega), bi3 _ _ (by omega) (by omega), bek _ _ _ (by omega),
   show T 8 (b.take i).reverse % 2 ^ 56 * 2 ^ 8 + x = T 8 (b.take (i + 1)).reverse % 2 ^ 64 by rw [est]; omega]
  simp (disch := omega) only [av, dh, gu, fq, dw, dz, ku, p8, qd, qb]
  exact hn'
 ·simp only [P.anr]
  rw [dh (by omega), List.take_length]
end Q
end

section
/- keccak: what is taken up, what is given out. -/
namespace QK
open Q
open Go Go.Abs
set_option linter.unusedVariables false
set_option linter.unusedSimpArgs false
def W25 (w : List Int) : Prop := w.length = 25 ∧ In 18446744073709551616 w
theorem W25.ws {w : List Int} (h : W25 w) : Ws fun i => w.getD i 0 := fun i => h.2.getD i (by omega)
theorem bzy {f : Nat → Int} (h : Ws f) : W25 (L25 f) := ⟨bh8 f, fun x hx => by
 simp only [L25, List.mem_map] at hx
 obtain ⟨i, _, rfl⟩ := hx
 exact h i⟩
def perm (w : List Int) : List Int := L25 (bnz (fun i => w.getD i 0) 24)
theorem bg4 {w : List Int} (h : W25 w) : W25 (perm w) := bzy (bgm h.ws 24)
theorem biw {w : List Int} (h : W25 w) {ρ : Type} (k : List Int → Option ρ) : P.ig w k = k (perm w) := by
 have := ig (fun i => w.getD i 0) k
 rw [← bna w h.1] at this
 exact this
theorem bgr {w : List Int} (h : W25 w) {ρ : Type} (k : List Int → Option ρ) : P.mo w k = k (perm w) := by
 have := mo h.ws k
 rw [← bna w h.1] at this
 exact this
def pt (w : List Int) (a : Nat) (c : Int) : List Int := w.set (a / 8) (X (w.getD (a / 8) 0) (IntKind.u64.wrap (IntKind.u64.wrap c * (2 : Int) ^ min (8 * (a % 8)) 64)))
theorem bqe (x : Int) : U64 (IntKind.u64.wrap x) := by
 rw [bi5]
 exact ⟨Int.emod_nonneg _ (by omega), Int.emod_lt_of_pos _ (by omega)⟩
theorem bjx {w : List Int} (h : W25 w) (a : Nat) (c : Int) : W25 (pt w a c) := by
 refine ⟨by unfold pt; rw [List.length_set]; exact h.1, fun x hx => ?_⟩
 rcases List.mem_or_eq_of_mem_set hx with hx | rfl
 ·exact h.2 x hx
 ·exact X_U (h.2.getD _ (by omega)) (bqe _)
theorem at8 (a : Nat) (h : a < 1000000) : IntKind.i64.wrap ((a : Int).tdiv 8) = ((a / 8 : Nat) : Int) := by
 rw [Int.tdiv_eq_ediv_of_nonneg (by omega), qb (by omega) (by omega)]
 omega
theorem am8 (a : Nat) (h : a < 1000000) : IntKind.i64.wrap ((8 : Int) * (a : Int).tmod 8) = ((8 * (a % 8) : Nat) : Int) := by
 rw [Int.tmod_eq_emod_of_nonneg (by omega), qb (by omega) (by omega)]
 omega
theorem w9 (w : List Int) (a : Nat) (c : Int) (h : a < 200) {ρ : Type} (k : List Int → Option ρ) : P.w9 w (a : Int) c k = k (pt w a c) := by
 rw [P.aw0]; unfold P.an6
 rw [at8 a (by omega), am8 a (by omega), toNat_cast, toNat_cast]
 simp (disch := omega) only [av, dh, gu, fq, dw, dz, ku, p8, qd, qb]
 rfl
def Rt (kd : Int) (r : Nat) : Prop := (kd = 4 ∧ r = 136) ∨ (kd = 5 ∧ r = 72) ∨ (kd = 6 ∧ r = 168) ∨ (kd = 7 ∧ r = 136)
theorem Rt.le {kd : Int} {r : Nat} (h : Rt kd r) : 72 ≤ r ∧ r ≤ 168 := by
 rcases h with ⟨_, rfl⟩ | ⟨_, rfl⟩ | ⟨_, rfl⟩ | ⟨_, rfl⟩ <;> omega
theorem bav {kd : Int} {r : Nat} (h : Rt kd r) {ρ : Type} (k : Int → Option ρ) : P.j5 kd k = k (r : Int) := by
 rw [P.amz]; unfold P.ag1
 rcases h with ⟨rfl, rfl⟩ | ⟨rfl, rfl⟩ | ⟨rfl, rfl⟩ | ⟨rfl, rfl⟩ <;> simp
theorem bht {kd : Int} {r : Nat} (h : Rt kd r) {ρ : Type} (k : Int → Option ρ) : P.aak kd k = k (r : Int) := by
 rw [P.au8]; unfold P.alp
 rcases h with ⟨rfl, rfl⟩ | ⟨rfl, rfl⟩ | ⟨rfl, rfl⟩ | ⟨rfl, rfl⟩ <;> simp
def ast (r : Nat) (s : List Int × Nat) (c : Int) : List Int × Nat := if s.2 + 1 = r then (perm (pt s.1 s.2 c), 0) else (pt s.1 s.2 c, s.2 + 1)
def apw (r : Nat) (s : List Int × Nat) (l : List Int) : List Int × Nat := l.foldl (ast r) s
def Good (r : Nat) (s : List Int × Nat) : Prop := W25 s.1 ∧ s.2 < r
theorem bj3 {r : Nat} {s : List Int × Nat} (h : Good r s) (c : Int) : Good r (ast r s c) := by
 unfold ast Good at *
 split
 ·exact ⟨bg4 (bjx h.1 _ _), by simp only; omega⟩
 ·exact ⟨bjx h.1 _ _, by simp only; omega⟩
theorem ahe {r : Nat} : ∀ (l : List Int) {s : List Int × Nat}, Good r s → Good r (apw r s l)
 | [], s, h => h
 | c :: l, s, h => ahe l (bj3 h c)
theorem bam (r : Nat) (s : List Int × Nat) (l : List Int) (i : Nat) (hi : i < l.length) : apw r s (l.take (i + 1)) = ast r (apw r s (l.take i)) (l.getD i 0) := by
 rw [← alu l 0 i hi]
 unfold apw
 rw [List.foldl_append]
 rfl
theorem bke (r : Nat) (s : List Int × Nat) (l m : List Int) : apw r s (l ++ m) = apw r (apw r s l) m := by
 unfold apw; rw [List.foldl_append]
abbrev Z25 : List Int := [0, 0, 0, 0, 0, 0, 0, 0, 0, 0, 0, 0, 0, 0, 0, 0, 0, 0, 0, 0, 0, 0, 0, 0, 0]
theorem bqh : W25 Z25 := ⟨rfl, fun x hx => by
 have : x = 0 := by simpa [Z25] using hx
 subst this
 decide⟩
theorem z8 {kd : Int} {r : Nat} (hr : Rt kd r) (w : List Int) (a : Nat) (hg : Good r (w, a)) (b : List Int) (hn : b.length < 9223372036854775807) {ρ : Type} (k : Int → List Int → Int → Bool → Option ρ) :
    P.z8 kd w (a : Int) false b k = k kd (apw r (w, a) b).1 ((apw r (w, a) b).2 : Int) false := by
 have hr2 := hr.le
 rw [P.apq]; unfold P.aix
 rw [qd, P.ar9]; unfold P.aom P.bu5 P.bue P.bxt
 refine zo (fun i => (b, (i : Int), kd, (apw r (w, a) (b.take i)).1, ((apw r (w, a) (b.take i)).2 : Int), false, (0 : Int), Z25, (0 : Int), false)) b.length (by simp [apw]) (fun i hi next hnx => ?_) (fun next => ?_) (by omega)
 ·have hg2 := ahe (b.take i) hg
  rw [bam r (w, a) b i hi] at hnx
  simp only [P.ajm, toNat_cast]
  generalize apw r (w, a) (b.take i) = s at hg2 hnx ⊢
  have hlt := hg2.2
  rw [av (by omega), av (by omega), av (by omega), w9 _ _ _ (by omega), bht hr, qb (x := (s.2 : Int) + 1) (by omega) (by omega), qb (x := (i : Int) + 1) (by omega) (by omega)]
  unfold ast at hnx
  by_cases he : s.2 + 1 = r
  ·rw [if_pos he] at hnx
   rw [dw (by omega), bgr (bjx hg2.1 _ _)]
   exact hnx
  ·rw [if_neg he] at hnx
   rw [dz (by omega)]
   exact hnx
 ·simp only [P.ajm]
  rw [dh (by omega), List.take_length]
def sq0 (r : Nat) (s : List Int × Nat) : List Int × Nat := if s.2 = r then (perm s.1, 0) else s
def sqb (s : List Int × Nat) : Int := IntKind.u8.wrap ((s.1.getD (s.2 / 8) 0).fdiv ((2 : Int) ^ min (8 * (s.2 % 8)) 64))
def sqS (r : Nat) (s : List Int × Nat) : Nat → List Int × Nat
 | 0 => s
 | n + 1 => ((sq0 r (sqS r s n)).1, (sq0 r (sqS r s n)).2 + 1)
def sqB (r : Nat) (s : List Int × Nat) (n : Nat) : Int := sqb (sq0 r (sqS r s n))
def sqO (r : Nat) (s : List Int × Nat) (m : Nat) : List Int := (List.range m).map (sqB r s)
def Gd (r : Nat) (s : List Int × Nat) : Prop := W25 s.1 ∧ s.2 ≤ r
theorem axv {r : Nat} (hr : 1 ≤ r) {s : List Int × Nat} (h : Gd r s) : ∀ n, Gd r (sqS r s n)
 | 0 => h
 | n + 1 => by
  have ih := axv hr h n
  show Gd r ((sq0 r (sqS r s n)).1, (sq0 r (sqS r s n)).2 + 1)
  revert ih
  generalize sqS r s n = t
  intro ih
  have h2 := ih.2
  unfold sq0
  by_cases he : t.2 = r
  ·rw [if_pos he]; exact ⟨bg4 ih.1, by simp only; omega⟩
  ·rw [if_neg he]; exact ⟨ih.1, by simp only; omega⟩
theorem bcs (r : Nat) (s : List Int × Nat) (m : Nat) : (sqO r s m).length = m := by simp [sqO]
theorem buq (r : Nat) (s : List Int × Nat) (m : Nat) : In 256 (sqO r s m) := fun x hx => by
 simp only [sqO, List.mem_map] at hx
 obtain ⟨i, _, rfl⟩ := hx
 unfold sqB sqb
 rw [u8m]
 exact ⟨Int.emod_nonneg _ (by omega), Int.emod_lt_of_pos _ (by omega)⟩
theorem bj9 (r : Nat) (s : List Int × Nat) (i : Nat) : sqO r s i ++ [sqB r s i] = sqO r s (i + 1) := am2 (sqB r s) i
theorem zd : (0 : Nat) / 8 = 0 := rfl
theorem zm : min (8 * ((0 : Nat) % 8)) 64 = 0 := rfl
theorem bxh {kd : Int} {r : Nat} (hr : Rt kd r) (s : List Int × Nat) (hg : Gd r s) (m : Nat) (hm : m ≤ 100000000) (z : Bool) {ρ : Type} (k : Int → Int → List Int → Int → List Int → Int → Bool → Int → List Int → Int → Bool → Option ρ) :
    P.yg (m : Int) (r : Int) [] kd s.1 (s.2 : Int) z 0 Z25 0 false k = k (m : Int) (r : Int) (sqO r s m) kd (sqS r s m).1 ((sqS r s m).2 : Int) z 0 Z25 0 false := by
 have hr2 := hr.le
 rw [P.apg]; unfold P.ald P.bvy P.bqv P.bzh
 refine zo (fun i => ((m : Int), (r : Int), sqO r s i, kd, (sqS r s i).1, ((sqS r s i).2 : Int), z, (0 : Int), Z25, (0 : Int), false)) m (by simp [sqO, sqS]) (fun i hi next hnx => ?_) (fun next => ?_) (by omega)
 ·have hg2 := axv (by omega) hg i
  rw [← bj9] at hnx
  simp only [P.ag8]
  unfold sqB at hnx
  simp only [sqS] at hnx
  have hl := bcs r s i
  generalize sqS r s i = t at hg2 hnx ⊢
  generalize sqO r s i = o at hnx hl ⊢
  have hlt := hg2.2
  rw [av (by omega)]
  unfold sq0 sqb at hnx
  by_cases he : t.2 = r
  ·rw [if_pos he] at hnx
   rw [dw (by omega), bgr hg2.1, av (by omega), qb (by omega) (by omega)]
   simp only [zd, zm] at hnx
   exact hnx
  ·rw [if_neg he] at hnx
   rw [dz (by omega), at8 _ (by omega), am8 _ (by omega), toNat_cast, toNat_cast, qb (x := (t.2 : Int) + 1) (by omega) (by omega)]
   simp (disch := omega) only [av, dh, gu, fq, dw, dz, ku, p8, qd, qb]
   exact hnx
 ·simp only [P.ag8, bcs]
  rw [dh (by omega)]
theorem bwz {kd : Int} {r : Nat} (hr : Rt kd r) (s : List Int × Nat) (hg : Gd r s) (m : Nat) (hm : m ≤ 100000000) (z : Bool) {ρ : Type} (k : Int → Int → Int → List Int → Int → Bool → Int → List Int → Int → Bool → List Int → Option ρ) :
    P.ab5 (m : Int) 0 kd s.1 (s.2 : Int) z 0 Z25 0 false (List.replicate m 0) k = k (m : Int) (m : Int) kd (sqS r s m).1 ((sqS r s m).2 : Int) z 0 Z25 0 false (sqO r s m) := by
 have hr2 := hr.le
 rw [P.amh]; unfold P.ai0 P.bu6 P.bqr P.b1w
 refine zo (fun i => ((m : Int), (i : Int), kd, (sqS r s i).1, ((sqS r s i).2 : Int), z, (0 : Int), Z25, (0 : Int), false, sqO r s i ++ List.replicate (m - i) 0)) m (by simp [sqO, sqS]) (fun i hi next hnx => ?_) (fun next => ?_) (by omega)
 ·have hg2 := axv (by omega) hg i
  have hO : sqO r s (i + 1) ++ List.replicate (m - (i + 1)) 0 = (sqO r s i ++ List.replicate (m - i) 0).set i (sqB r s i) := (bbn (sqB r s) i m hi 0).symm
  have hl : (sqO r s i ++ List.replicate (m - i) 0).length = m := by simp [sqO]; omega
  rw [hO] at hnx
  unfold sqB at hnx
  simp only [sqS] at hnx
  simp only [P.aeh, toNat_cast]
  generalize sqO r s i ++ List.replicate (m - i) 0 = o at hl hnx ⊢
  generalize sqS r s i = t at hg2 hnx ⊢
  have hlt := hg2.2
  rw [av (by omega), bav hr]
  unfold sq0 sqb at hnx
  by_cases he : t.2 = r
  ·rw [if_pos he] at hnx
   rw [dw (by omega), biw hg2.1, av (by omega), av (by omega), qb (x := (i : Int) + 1) (by omega) (by omega), qb (x := (0 : Int) + 1) (by omega) (by omega)]
   simp only [zd, zm] at hnx
   exact hnx
  ·rw [if_neg he] at hnx
   rw [dz (by omega), at8 _ (by omega), am8 _ (by omega), toNat_cast, toNat_cast, qb (x := (t.2 : Int) + 1) (by omega) (by omega), qb (x := (i : Int) + 1) (by omega) (by omega)]
   simp (disch := omega) only [av, dh, gu, fq, dw, dz, ku, p8, qd, qb]
   exact hnx
 ·simp only [P.aeh]
  rw [dh (by omega)]
  simp
end QK
end

section
/- keccak: sums. -/
namespace QK
open Q
open Go Go.Abs
set_option linter.unusedVariables false
set_option linter.unusedSimpArgs false
theorem mq {kd : Int} {r : Nat} (hr : Rt kd r) (w : List Int) (a : Nat) (hg : Good r (w, a)) (b : List Int) (hn : b.length < 9223372036854775807) {ρ : Type} (k : Int → List Int → Int → Bool → Option ρ) :
    P.mq kd w (a : Int) false b k = k kd (apw r (w, a) b).1 ((apw r (w, a) b).2 : Int) false := by
 have hr2 := hr.le
 rw [P.akn]; unfold P.aeo
 rw [qd, bav hr, P.anf]; unfold P.akg P.bv7 P.brb P.b1u
 refine zo (fun i => (b, (r : Int), (b.length : Int), (i : Int), kd, (apw r (w, a) (b.take i)).1, ((apw r (w, a) (b.take i)).2 : Int), false, (0 : Int), Z25, (0 : Int), false)) b.length (by simp [apw]) (fun i hi next hnx => ?_) (fun next => ?_) (by omega)
 ·have hg2 := ahe (b.take i) hg
  rw [bam r (w, a) b i hi] at hnx
  simp only [P.aft, toNat_cast]
  generalize apw r (w, a) (b.take i) = s at hg2 hnx ⊢
  have hlt := hg2.2
  rw [at8 _ (by omega), am8 _ (by omega), toNat_cast, toNat_cast, qb (x := (s.2 : Int) + 1) (by omega) (by omega), qb (x := (i : Int) + 1) (by omega) (by omega)]
  unfold ast at hnx
  by_cases he : s.2 + 1 = r
  ·rw [if_pos he] at hnx
   simp (disch := omega) only [av, dh, gu, fq, dw, dz, ku, p8, qd, qb]
   exact (biw (bjx hg2.1 _ _) _).trans hnx
  ·rw [if_neg he] at hnx
   simp (disch := omega) only [av, dh, gu, fq, dw, dz, ku, p8, qd, qb]
   exact hnx
 ·simp only [P.aft]
  rw [dh (by omega), List.take_length]
def mark (kd : Int) : Int := if kd = 4 ∨ kd = 5 then 6 else 31
def trn (kd : Int) (r : Nat) (s : List Int × Nat) : List Int := perm (pt (pt s.1 s.2 (mark kd)) (r - 1) 128)
theorem btz {kd : Int} {r : Nat} {s : List Int × Nat} (h : W25 s.1) : W25 (trn kd r s) := bg4 (bjx (bjx h _ _) _ _)
theorem qo {kd : Int} {r : Nat} (hr : Rt kd r) (s : List Int × Nat) (hg : Good r s) (z : Bool) {ρ : Type} (k : Int → List Int → Int → Bool → Option ρ) :
    P.qo kd s.1 (s.2 : Int) z k = k kd (trn kd r s) 0 true := by
 have hr2 := hr.le
 have h2 := hg.2
 have er : (r : Int) - 1 = ((r - 1 : Nat) : Int) := by omega
 rw [P.akh]; unfold P.aer
 rw [at8 _ (by omega), am8 _ (by omega), toNat_cast, toNat_cast]
 rw [bav hr, bav hr, qb (x := (r : Int) - 1) (by omega) (by omega), er, at8 _ (by omega), am8 _ (by omega), toNat_cast, toNat_cast]
 have fin : ∀ c : Int, (P.ig (pt (pt s.1 s.2 c) (r - 1) 128) fun q => k kd q 0 true) = k kd (perm (pt (pt s.1 s.2 c) (r - 1) 128)) 0 true := fun c => biw (bjx (bjx hg.1 _ _) _ _) _
 unfold trn mark
 by_cases h4 : kd = 4
 ·rw [if_pos (.inl h4)]
  simp (disch := omega) only [av, dh, gu, fq, dw, dz, ku, p8, qd, qb]
  exact fin 6
 ·by_cases h5 : kd = 5
  ·rw [if_pos (.inr h5)]
   simp (disch := omega) only [av, dh, gu, fq, dw, dz, ku, p8, qd, qb]
   exact fin 6
  ·rw [if_neg (by omega)]
   simp (disch := omega) only [av, dh, gu, fq, dw, dz, ku, p8, qd, qb]
   exact fin 31
theorem yh {kd : Int} {r : Nat} (hr : Rt kd r) (s : List Int × Nat) (hg : Good r s) (m : Nat) (hm : m ≤ 100000000) {ρ : Type} (k : Int → List Int → Int → Bool → List Int → Option ρ) :
    P.yh kd s.1 (s.2 : Int) false (m : Int) k = k kd (sqS r (trn kd r s, 0) m).1 ((sqS r (trn kd r s, 0) m).2 : Int) true (sqO r (trn kd r s, 0) m) := by
 have hr2 := hr.le
 have h2 := hg.2
 have er : (r : Int) - 1 = ((r - 1 : Nat) : Int) := by omega
 have fin : ∀ c : Int, mark kd = c → (P.w9 s.1 (s.2 : Int) c fun q1 => P.w9 q1 (IntKind.i64.wrap ((r : Int) - 1)) 128 fun q2 => P.mo q2 fun q3 => P.yg (m : Int) (r : Int) [] kd q3 0 true 0 Z25 0 false
     fun (q4 q5 : Int) (q6 : List Int) (q7 : Int) (q8 : List Int) (q9 : Int) (q10 : Bool) (q11 : Int) (q12 : List Int) (q13 : Int) (q14 : Bool) => k q7 q8 q9 q10 q6) =
     k kd (sqS r (trn kd r s, 0) m).1 ((sqS r (trn kd r s, 0) m).2 : Int) true (sqO r (trn kd r s, 0) m) := by
  intro c hc
  rw [qb (x := (r : Int) - 1) (by omega) (by omega), er, w9 _ _ _ (by omega), w9 _ _ _ (by omega), bgr (bjx (bjx hg.1 _ _) _ _)]
  have := bxh hr (trn kd r s, 0) ⟨btz hg.1, by simp only; omega⟩ m hm true (fun (q4 q5 : Int) (q6 : List Int) (q7 : Int) (q8 : List Int) (q9 : Int) (q10 : Bool) (q11 : Int) (q12 : List Int) (q13 : Int) (q14 : Bool) => k q7 q8 q9 q10 q6)
  unfold trn at this ⊢
  rw [hc] at this ⊢
  exact this
 rw [P.aml]; unfold P.agu
 rw [dh (by omega), bht hr, ku, qd]
 by_cases h4 : kd = 4
 ·rw [dw h4]; exact fin 6 (by unfold mark; rw [if_pos (.inl h4)])
 ·rw [dz h4]
  by_cases h5 : kd = 5
  ·rw [dw h5]; exact fin 6 (by unfold mark; rw [if_pos (.inr h5)])
  ·rw [dz h5]; exact fin 31 (by unfold mark; rw [if_neg (by omega)])
theorem o8 {kd : Int} {r : Nat} (hr : Rt kd r) (s : List Int × Nat) (hg : Good r s) (m : Nat) (hm : m ≤ 100000000) {ρ : Type} (k : Int → List Int → Int → Bool → List Int → Option ρ) :
    P.o8 kd s.1 (s.2 : Int) false (m : Int) k = k kd (sqS r (trn kd r s, 0) m).1 ((sqS r (trn kd r s, 0) m).2 : Int) true (sqO r (trn kd r s, 0) m) := by
 have hr2 := hr.le
 rw [P.ajb]; unfold P.ads
 rw [dh (by omega), ku, qd, qo hr s hg, av (by omega), av (by omega), av (by omega), toNat_cast, List.length_replicate]
 exact bwz hr (trn kd r s, 0) ⟨btz hg.1, by simp only; omega⟩ m hm true _
def rOf (kd : Int) : Nat := if kd = 4 then 136 else if kd = 5 then 72 else if kd = 6 then 168 else 136
theorem brt {kd : Int} (h : kd = 4 ∨ kd = 5 ∨ kd = 6 ∨ kd = 7) : Rt kd (rOf kd) := by
 unfold Rt rOf
 rcases h with rfl | rfl | rfl | rfl <;> simp
def btb (kd : Int) (b : List Int) (m : Nat) : List Int := sqO (rOf kd) (trn kd (rOf kd) (apw (rOf kd) (Z25, 0) b), 0) m
theorem bks (kd : Int) (b : List Int) (m : Nat) : (btb kd b m).length = m := bcs _ _ _
theorem bo2 (kd : Int) (b : List Int) (m : Nat) : In 256 (btb kd b m) := buq _ _ _
theorem ag3 {kd : Int} (h : kd = 4 ∨ kd = 5 ∨ kd = 6 ∨ kd = 7) (b : List Int) (hn : b.length < 9223372036854775807) (m : Nat) (hm : m ≤ 16777216) {ρ : Type} (k : List Int → Int → Option ρ) : P.ag3 kd b (m : Int) k = k (btb kd b m) 0 := by
 have hr := brt h
 have hr2 := hr.le
 have hg : Good (rOf kd) (Z25, 0) := ⟨bqh, by simp only; omega⟩
 rw [P.axo]; unfold P.ane
 rw [P.awd]; unfold P.anb
 rw [bht hr, dz (by omega)]
 dsimp only
 rw [fq rfl, dh (by omega), dh (by omega)]
 exact (z8 hr Z25 0 hg b hn _).trans (yh hr _ (ahe b hg) m (by omega) _)
end QK
end

section
/- SHA-2: what a block does. -/
namespace Q
open Go Go.Abs
set_option linter.unusedVariables false
set_option linter.unusedSimpArgs false
structure Par (w : Nat) where
 rounds : Nat
 a : Nat × Nat × Nat
 b : Nat × Nat × Nat
 c : Nat × Nat × Nat
 d : Nat × Nat × Nat
 K : Nat → BitVec w
section
variable {w : Nat}
def hi (t : Nat × Nat × Nat) (x : BitVec w) : BitVec w := rr x t.1 ^^^ rr x t.2.1 ^^^ rr x t.2.2
def lo (t : Nat × Nat × Nat) (x : BitVec w) : BitVec w := rr x t.1 ^^^ rr x t.2.1 ^^^ (x >>> t.2.2)
def cv (l : List (BitVec w)) : List Int := l.map fun x => (x.toNat : Int)
@[simp] theorem uj (l : List (BitVec w)) : (cv l).length = l.length := by simp [cv]
theorem afu (l : List (BitVec w)) (i : Nat) : (cv l).getD i 0 = ((l.getD i 0).toNat : Int) := by
 unfold cv
 rw [List.getD_eq_getElem?_getD, List.getD_eq_getElem?_getD, List.getElem?_map]
 cases l[i]? <;> simp
theorem awe (l : List (BitVec w)) (i : Nat) (x : BitVec w) : (cv l).set i (x.toNat : Int) = cv (l.set i x) := by simp [cv, List.map_set]
theorem aff (l r : List (BitVec w)) : cv l ++ cv r = cv (l ++ r) := by simp [cv]
def bp6 (p : Par w) (t : Nat) (wt : BitVec w) (v : List (BitVec w)) : BitVec w :=
 v.getD 7 0 + hi p.d (v.getD 4 0) + (v.getD 6 0 ^^^ (v.getD 4 0 &&& (v.getD 5 0 ^^^ v.getD 6 0))) + p.K t + wt
def bzu (p : Par w) (v : List (BitVec w)) : BitVec w := hi p.c (v.getD 0 0) + ((v.getD 0 0 &&& v.getD 1 0) ||| (v.getD 2 0 &&& (v.getD 0 0 ||| v.getD 1 0)))
def rnd (p : Par w) (t : Nat) (wt : BitVec w) (v : List (BitVec w)) : List (BitVec w) :=
 [bp6 p t wt v + bzu p v, v.getD 0 0, v.getD 1 0, v.getD 2 0, v.getD 3 0 + bp6 p t wt v, v.getD 4 0, v.getD 5 0, v.getD 6 0]
def br6 (p : Par w) (l : List (BitVec w)) : BitVec w := lo p.b (l.getD (l.length - 2) 0) + l.getD (l.length - 7) 0 + lo p.a (l.getD (l.length - 15) 0) + l.getD (l.length - 16) 0
def sched (p : Par w) (l : List (BitVec w)) : Nat → List (BitVec w)
 | 0 => l
 | n + 1 => sched p l n ++ [br6 p (sched p l n)]
theorem aug (p : Par w) (l : List (BitVec w)) : ∀ n, (sched p l n).length = l.length + n
 | 0 => rfl
 | n + 1 => by simp only [sched, List.length_append, aug p l n, List.length_singleton]; omega
theorem ay3 (p : Par w) (l : List (BitVec w)) (n i : Nat) (hi : i < l.length + n) : ∀ m, (sched p l (n + m)).getD i 0 = (sched p l n).getD i 0
 | 0 => rfl
 | m + 1 => by
  rw [← Nat.add_assoc]
  simp only [sched]
  rw [List.getD_eq_getElem?_getD, List.getElem?_append_left (by rw [aug]; omega), ← List.getD_eq_getElem?_getD, ay3 p l n i hi m]
def W (p : Par w) (l : List (BitVec w)) (t : Nat) : BitVec w := (sched p l t).getD t 0
theorem bm7 (p : Par w) (l : List (BitVec w)) (hl : 0 < l.length) (n t : Nat) (h : t < l.length + n) : (sched p l n).getD t 0 = W p l t := by
 unfold W
 by_cases hn : n ≤ t
 ·have := ay3 p l n t h (t - n)
  rw [show n + (t - n) = t by omega] at this
  exact this.symm
 ·have := ay3 p l t t (by omega) (n - t)
  rw [show t + (n - t) = n by omega] at this
  exact this
theorem beh (p : Par w) (l : List (BitVec w)) (hl : l.length = 16) (t : Nat) : W p l (t + 16) = W p l t + lo p.a (W p l (t + 1)) + W p l (t + 9) + lo p.b (W p l (t + 14)) := by
 have e := bm7 p l (by omega) (t + 1) (t + 16) (by omega)
 rw [← e]
 simp only [sched]
 have hlen := aug p l t
 rw [List.getD_eq_getElem?_getD, List.getElem?_append_right (by rw [hlen]; omega), hlen, show t + 16 - (l.length + t) = 0 by omega]
 simp only [List.getElem?_cons_zero, Option.getD_some]
 unfold br6
 rw [hlen, show l.length + t - 2 = t + 14 by omega, show l.length + t - 7 = t + 9 by omega, show l.length + t - 15 = t + 1 by omega, show l.length + t - 16 = t by omega,
  bm7 p l (by omega) t _ (by omega), bm7 p l (by omega) t _ (by omega), bm7 p l (by omega) t _ (by omega), bm7 p l (by omega) t _ (by omega)]
 ac_rfl
def runs (p : Par w) (l : List (BitVec w)) (v : List (BitVec w)) : Nat → List (BitVec w)
 | 0 => v
 | t + 1 => rnd p t (W p l t) (runs p l v t)
theorem ama (p : Par w) (l v : List (BitVec w)) (hv : v.length = 8) : ∀ t, (runs p l v t).length = 8
 | 0 => hv
 | t + 1 => rfl
def bmy (p : Par w) (l v : List (BitVec w)) : List (BitVec w) := (List.range 8).map fun i => (runs p l v p.rounds).getD i 0 + v.getD i 0
def kg (w : Nat) (b : List Int) (n : Nat) : List (BitVec w) := (List.range n).map fun t => BitVec.ofNat w (T 8 ((b.take ((t + 1) * (w / 8))).drop (t * (w / 8))).reverse)
def aty (p : Par w) (v : List (BitVec w)) (b : List Int) : List (BitVec w) := bmy p (kg w b 16) v
theorem bgd (p : Par w) (v : List (BitVec w)) (b : List Int) : (aty p v b).length = 8 := by simp [aty, bmy]
theorem asr (b : List Int) (n : Nat) : kg w b (n + 1) = kg w b n ++ [BitVec.ofNat w (T 8 ((b.take ((n + 1) * (w / 8))).drop (n * (w / 8))).reverse)] := by simp [kg, List.range_succ]
theorem o7 (b : List Int) (n : Nat) : (kg w b n).length = n := by simp [kg]
def win (p : Par w) (l : List (BitVec w)) (t : Nat) : List (BitVec w) := (List.range 16).map fun j => W p l (t + (j + 16 - t % 16) % 16)
theorem arv (p : Par w) (l : List (BitVec w)) (t i : Nat) (hi : i < 16) : (win p l t).getD ((t + i) % 16) 0 = W p l (t + i) := by
 unfold win
 rw [getD_lt (by simp; omega)]
 simp only [List.getElem_map, List.getElem_range]
 congr 1
 omega
theorem bet (p : Par w) (l : List (BitVec w)) (t : Nat) : (win p l t).set (t % 16) (W p l (t + 16)) = win p l (t + 1) := by
 unfold win
 refine List.ext_getElem (by simp) (fun j h1 h2 => ?_)
 simp only [List.length_map, List.length_range] at h2
 rw [List.getElem_set]
 by_cases h : t % 16 = j
 ·rw [if_pos h]
  simp only [List.getElem_map, List.getElem_range]
  congr 1
  omega
 ·rw [if_neg h]
  simp only [List.getElem_map, List.getElem_range]
  congr 1
  omega
theorem win_zero (p : Par w) (b : List Int) : win p (kg w b 16) 0 = kg w b 16 := by
 unfold win
 refine List.ext_getElem (by simp [kg]) (fun j h1 h2 => ?_)
 rw [o7] at h2
 simp only [List.getElem_map, List.getElem_range]
 rw [show 0 + (j + 16 - 0 % 16) % 16 = j by omega, ← bm7 p _ (by rw [o7]; omega) 0 j (by rw [o7]; omega)]
 exact getD_lt (by rw [show sched p (kg w b 16) 0 = kg w b 16 from rfl, o7]; exact h2)
end
theorem bcc : ∀ x, x ∈ P.roots256 → 0 ≤ x ∧ x < 4294967296 := by decide +kernel
theorem bc8 : ∀ x, x ∈ P.roots512 → 0 ≤ x ∧ x < 18446744073709551616 := by decide +kernel
def p32 : Par 32 := ⟨64, (7, 18, 3), (17, 19, 10), (2, 13, 22), (6, 11, 25), fun t => BitVec.ofInt 32 (P.roots256.getD t 0)⟩
def p64 : Par 64 := ⟨80, (1, 8, 7), (19, 61, 6), (28, 34, 39), (14, 18, 41), fun t => BitVec.ofInt 64 (P.roots512.getD t 0)⟩
theorem K32 (t : Nat) : P.roots256.getD t 0 = ((p32.K t).toNat : Int) := by
 have := In.getD (m := 4294967296) bcc t (by omega)
 simp only [p32, BitVec.toNat_ofInt]
 omega
theorem K64 (t : Nat) : P.roots512.getD t 0 = ((p64.K t).toNat : Int) := by
 have := In.getD (m := 18446744073709551616) bc8 t (by omega)
 simp only [p64, BitVec.toNat_ofInt]
 omega
end Q
end

section
/- SHA-2: the program's engine of 32 bits. -/
namespace Q
open Go Go.Abs
set_option linter.unusedVariables false
set_option linter.unusedSimpArgs false
theorem ain (rd : Int) (t0 t1 t2 t3 : List Int) (x : BitVec 32) (m : Int) (n : Nat) (hm : m = (n : Int)) (hn : n ≤ 32) {ρ : Type} (k : Int → Option ρ) :
    P.bf 32 rd t0 t1 t2 t3 (x.toNat : Int) m k = k ((rr x n).toNat : Int) := by
 subst hm
 rw [P.aa7]
 unfold P.uw
 rw [dh (by omega), qb (by omega) (by omega), dh (by omega), show (32 : Int) - (n : Int) = ((32 - n : Nat) : Int) by omega]
 simp only [toNat_cast]
 rw [bon _ _ hn, bw4 _ _ (by omega), b3h]
 rfl
theorem bgq (rd : Int) (x : BitVec 32) {ρ : Type} (k : Int → Option ρ) : P.jf 32 rd [7, 18, 3] [17, 19, 10] [2, 13, 22] [6, 11, 25] (x.toNat : Int) 3 k = k ((hi p32.d x).toNat : Int) := by
 rw [P.zl]
 unfold P.ru
 simp only [List.getD_cons_zero, List.getD_cons_succ]
 rw [dh (by decide), dh (by decide), dh (by decide), av (by decide), ain _ _ _ _ _ _ _ 6 (by rfl) (by omega), ain _ _ _ _ _ _ _ 11 (by rfl) (by omega), ain _ _ _ _ _ _ _ 25 (by rfl) (by omega), ax1, ax1]
 rfl
theorem bi4 (rd : Int) (x : BitVec 32) {ρ : Type} (k : Int → Option ρ) : P.jf 32 rd [7, 18, 3] [17, 19, 10] [2, 13, 22] [6, 11, 25] (x.toNat : Int) 2 k = k ((hi p32.c x).toNat : Int) := by
 rw [P.zl]
 unfold P.ru
 simp only [List.getD_cons_zero, List.getD_cons_succ]
 rw [dh (by decide), dh (by decide), av (by decide), ain _ _ _ _ _ _ _ 2 (by rfl) (by omega), ain _ _ _ _ _ _ _ 13 (by rfl) (by omega), ain _ _ _ _ _ _ _ 22 (by rfl) (by omega), ax1, ax1]
 rfl
theorem bj2 (rd : Int) (x : BitVec 32) {ρ : Type} (k : Int → Option ρ) : P.jm 32 rd [7, 18, 3] [17, 19, 10] [2, 13, 22] [6, 11, 25] (x.toNat : Int) 0 k = k ((lo p32.a x).toNat : Int) := by
 rw [P.aae]
 unfold P.sw
 simp only [List.getD_cons_zero, List.getD_cons_succ]
 rw [av (by decide), ain _ _ _ _ _ _ _ 7 (by rfl) (by omega), ain _ _ _ _ _ _ _ 18 (by rfl) (by omega), dh (by decide), ax1, show (3 : Int).toNat = 3 from rfl, bon _ _ (by omega), ax1]
 rfl
theorem bmb (rd : Int) (x : BitVec 32) {ρ : Type} (k : Int → Option ρ) : P.jm 32 rd [7, 18, 3] [17, 19, 10] [2, 13, 22] [6, 11, 25] (x.toNat : Int) 1 k = k ((lo p32.b x).toNat : Int) := by
 rw [P.aae]
 unfold P.sw
 simp only [List.getD_cons_zero, List.getD_cons_succ]
 rw [dh (by decide), av (by decide), ain _ _ _ _ _ _ _ 17 (by rfl) (by omega), ain _ _ _ _ _ _ _ 19 (by rfl) (by omega), dh (by decide), ax1, show (10 : Int).toNat = 10 from rfl, bon _ _ (by omega), ax1]
 rfl
theorem bk0 (t : Nat) (h : t < 64) {ρ : Type} (k : Int → Option ρ) : P.mg (t : Int) k = k ((p32.K t).toNat : Int) := by
 rw [P.amx]
 unfold P.ahi
 rw [av (by omega), av (by omega), toNat_cast, K32]
theorem v8 {w : Nat} (v : List (BitVec w)) (hv : v.length = 8) : v = [v.getD 0 0, v.getD 1 0, v.getD 2 0, v.getD 3 0, v.getD 4 0, v.getD 5 0, v.getD 6 0, v.getD 7 0] := by
 match v, hv with
 | [a, b, c, d, e, f, g, h], _ => rfl
theorem b2u (t : Nat) : ((t : Nat) : Int).tmod 16 = ((t % 16 : Nat) : Int) := by
 rw [Int.tmod_eq_emod_of_nonneg (by omega)]; rfl
theorem bs2 (b : List Int) (hb : In 256 b) (hl : b.length = 16 * 4) (rd : Int) (t0 t1 t2 t3 h1 h2 : List Int) {ρ : Type} (k0 : List Int → Int → Int → Int → Int → List Int → List Int → List Int → List Int → List Int → List Int → List Int → Option ρ) :
    P.yx b 4 0 32 rd t0 t1 t2 t3 h1 h2 (List.replicate 16 0) k0 = k0 b 4 16 32 rd t0 t1 t2 t3 h1 h2 (cv (kg 32 b 16)) := by
 rw [P.afv]
 unfold P.ach P.buv P.bsa P.bwv
 refine zo (fun i => (b, 4, (i : Int), 32, rd, t0, t1, t2, t3, h1, h2, cv (kg 32 b i) ++ List.replicate (16 - i) 0)) 16 (by simp [kg, cv]) (fun i hi next hn' => ?_) (fun next => ?_) (by omega)
 ·simp only [P.y7, toNat_cast]
  have e1 : IntKind.i64.wrap ((i : Int) * 4) = ((i * 4 : Nat) : Int) := by rw [qb (by omega) (by omega)]; omega
  have e2 : IntKind.i64.wrap (IntKind.i64.wrap ((i : Int) + 1) * 4) = (((i + 1) * 4 : Nat) : Int) := by rw [qb (x := (i : Int) + 1) (by omega) (by omega), qb (by omega) (by omega)]; omega
  rw [e1, e2]
  simp only [toNat_cast]
  have hlen : ((b.take ((i + 1) * 4)).drop (i * 4)).length = 4 := by simp; omega
  rw [av (by omega), av (by omega), av (by omega), av (by omega), tu _ ((hb.take _).drop _) (by omega), av (by omega), av (by omega)]
  have e3 : IntKind.u32.wrap ((T 8 ((b.take ((i + 1) * 4)).drop (i * 4)).reverse % 2 ^ 64 : Nat) : Int) = (((BitVec.ofNat 32 (T 8 ((b.take ((i + 1) * 4)).drop (i * 4)).reverse)).toNat : Nat) : Int) := by
   rw [brp, BitVec.toNat_ofNat]; omega
  have e4 : IntKind.i64.wrap ((i : Int) + 1) = ((i + 1 : Nat) : Int) := by rw [qb (by omega) (by omega)]; omega
  rw [e3, e4]
  have e5 : (cv (kg 32 b i) ++ List.replicate (16 - i) (0 : Int)).set i (((BitVec.ofNat 32 (T 8 ((b.take ((i + 1) * 4)).drop (i * 4)).reverse)).toNat : Nat) : Int) = cv (kg 32 b (i + 1)) ++ List.replicate (16 - (i + 1)) 0 := by
   rw [List.set_append_right _ _ (by simp [o7]), uj, o7, Nat.sub_self, show 16 - i = (16 - (i + 1)) + 1 by omega, List.replicate_succ, List.set_cons_zero, asr, ← aff, List.append_assoc]
   rfl
  rw [e5]
  exact hn'
 ·simp only [P.y7]
  rw [dh (by omega)]
  simp
theorem boy (l v : List (BitVec 32)) (hv : v.length = 8) (h2 h1 : List Int) {ρ : Type} (k0 : Int → Int → List Int → List Int → List Int → Int → Int → List Int → List Int → List Int → List Int → List Int → Option ρ) (hl : l.length = 16) :
    P.qy 64 0 (cv (win p32 l 0)) h2 h1 32 64 [7, 18, 3] [17, 19, 10] [2, 13, 22] [6, 11, 25] (cv v) k0 =
     k0 64 64 (cv (win p32 l 64)) h2 h1 32 64 [7, 18, 3] [17, 19, 10] [2, 13, 22] [6, 11, 25] (cv (runs p32 l v 64)) := by
 rw [P.afg]
 unfold P.abu P.bvr P.bst P.bx8
 refine zo (fun t => (64, (t : Int), cv (win p32 l t), h2, h1, 32, 64, [7, 18, 3], [17, 19, 10], [2, 13, 22], [6, 11, 25], cv (runs p32 l v t))) 64 rfl (fun t ht next hn' => ?_) (fun next => ?_) (by omega)
 ·simp only [P.xw]
  have e1 : IntKind.i64.wrap ((t : Int) + 1) = ((t + 1 : Nat) : Int) := by rw [qb (by omega) (by omega)]; omega
  have e9 : IntKind.i64.wrap ((t : Int) + 9) = ((t + 9 : Nat) : Int) := by rw [qb (by omega) (by omega)]; omega
  have e14 : IntKind.i64.wrap ((t : Int) + 14) = ((t + 14 : Nat) : Int) := by rw [qb (by omega) (by omega)]; omega
  simp only [e1, e9, e14, b2u, toNat_cast, afu]
  have g0 := arv p32 l t 0 (by omega)
  rw [Nat.add_zero] at g0
  rw [g0, arv p32 l t 1 (by omega), arv p32 l t 9 (by omega), arv p32 l t 14 (by omega)]
  have hV := v8 _ (ama p32 l v hv t)
  rw [av (by omega), av (by omega), av (by omega), bgq, bk0 t ht, bi4, av (by omega), av (by omega), bj2, av (by omega), av (by omega), av (by omega), av (by omega), bmb, av (by omega), av (by omega)]
  simp only [add32, ax1, byu, b3h]
  rw [← beh p32 l hl t, awe, bet]
  have hr : cv (runs p32 l v (t + 1)) = (((List.take 1 (cv (runs p32 l v t))).append (List.take 7 (List.take 7 (List.drop 0 (cv (runs p32 l v t)))) ++ List.drop (1 + min 7 (List.take 7 (List.drop 0 (cv (runs p32 l v t)))).length) (cv (runs p32 l v t)))).set 4
      (((runs p32 l v t).getD 3 0 + bp6 p32 t (W p32 l t) (runs p32 l v t)).toNat : Int)).set 0 ((bp6 p32 t (W p32 l t) (runs p32 l v t) + bzu p32 (runs p32 l v t)).toNat : Int) := by
   rw [hV]
   rfl
  have h3 : ((List.take 1 (cv (runs p32 l v t))).append (List.take 7 (List.take 7 (List.drop 0 (cv (runs p32 l v t)))) ++ List.drop (1 + min 7 (List.take 7 (List.drop 0 (cv (runs p32 l v t)))).length) (cv (runs p32 l v t)))).getD 4 0 = (((runs p32 l v t).getD 3 0).toNat : Int) := by
   rw [hV]
   rfl
  rw [h3, add32]
  rw [hr] at hn'
  exact hn'
 ·simp only [P.xw]
  rw [dh (by omega)]
  rfl
theorem bn0 (v u : List (BitVec 32)) (hv : v.length = 8) (hu : u.length = 8) (h2 : List Int) {ρ : Type} (k0 : Int → List Int → List Int → List Int → Option ρ) :
    P.ql 0 (cv v) h2 (cv u) k0 = k0 8 (cv v) h2 (cv ((List.range 8).map fun i => u.getD i 0 + v.getD i 0)) := by
 rw [P.ae9]
 unfold P.abk P.bv3 P.btd P.b2l
 have hs : ∀ i, i ≤ 8 → (((List.range i).map fun i => u.getD i 0 + v.getD i 0) ++ u.drop i).length = 8 := fun i hi => by simp; omega
 refine zo (fun i => ((i : Int), cv v, h2, cv (((List.range i).map fun i => u.getD i 0 + v.getD i 0) ++ u.drop i))) 8 (by simp) (fun i hi next hn' => ?_) (fun next => ?_) (by omega)
 ·simp only [P.wu, toNat_cast, afu]
  have e1 : IntKind.i64.wrap ((i : Int) + 1) = ((i + 1 : Nat) : Int) := by rw [qb (by omega) (by omega)]; omega
  have e2 : (((List.range i).map fun i => u.getD i 0 + v.getD i 0) ++ u.drop i).getD i 0 = u.getD i 0 := by
   rw [List.getD_eq_getElem?_getD, List.getElem?_append_right (by simp), List.getElem?_drop, List.length_map, List.length_range, List.getD_eq_getElem?_getD]
   congr 2
   omega
  rw [e1, e2, add32, awe]
  have e3 : (((List.range i).map fun i => u.getD i 0 + v.getD i 0) ++ u.drop i).set i (u.getD i 0 + v.getD i 0) = ((List.range (i + 1)).map fun i => u.getD i 0 + v.getD i 0) ++ u.drop (i + 1) := by
   rw [List.set_append_right _ _ (by simp), List.length_map, List.length_range, Nat.sub_self, List.range_succ, List.map_append, List.append_assoc, List.drop_eq_getElem_cons (by omega), List.set_cons_zero]
   rfl
  rw [e3]
  simp (disch := omega) only [av, dh, gu, fq, dw, dz, ku, p8, qd, qb]
  exact hn'
 ·simp only [P.wu]
  rw [dh (by omega), List.drop_eq_nil_of_le (by omega), List.append_nil]
  rfl
theorem bgo (v : List (BitVec 32)) (hv : v.length = 8) (b : List Int) (hb : In 256 b) (hl : b.length = 16 * 4) {ρ : Type} (k : List Int → Option ρ) :
    P.j6 32 64 [7, 18, 3] [17, 19, 10] [2, 13, 22] [6, 11, 25] (cv v) b k = k (cv (aty p32 v b)) := by
 rw [P.acj]
 unfold P.xg
 rw [show IntKind.i64.wrap ((32 : Int).tdiv 8) = 4 from rfl]
 have := bs2 b hb hl 64 [7, 18, 3] [17, 19, 10] [2, 13, 22] [6, 11, 25] (cv v) (List.replicate 8 0) (fun (q0 : List Int) (q1 q2 q3 q4 : Int) (q5 q6 q7 q8 q9 q10 q11 : List Int) =>
  P.qy q4 (0 : Int) q11 q10 q9 q3 q4 q5 q6 q7 q8 q9
   fun (q12 q13 : Int) (q14 q15 q16 : List Int) (q17 q18 : Int) (q19 q20 q21 q22 q23 : List Int) =>
   P.ql (0 : Int) q16 q15 q23 fun (q24 : Int) (q25 q26 q27 : List Int) => k q27)
 refine this.trans ?_
 rw [← win_zero p32, boy _ v hv _ _ _ (o7 b 16), bn0 v _ hv (ama _ _ _ hv _)]
 rfl
end Q
end

section
/- SHA-2: the document's block of words of 32 bits. -/
namespace Q
open Go Go.Abs
set_option linter.unusedVariables false
set_option linter.unusedSimpArgs false
theorem acs (b : List Int) (hb : In 256 b) (hn : b.length ≤ 1000000) {ρ : Type} (k : Int → Option ρ) : P.acs b k = k ((T 8 b.reverse % 2 ^ 64 : Nat) : Int) := by
 rw [P.aw3]
 unfold P.ano
 rw [P.ayq]
 unfold P.av2 P.bu0 P.bqb P.bzv
 refine zo (fun i => (b, ((T 8 (b.take i).reverse % 2 ^ 64 : Nat) : Int), (i : Int))) b.length (by simp [T]) (fun i hi next hn' => ?_) (fun next => ?_) (by omega)
 ·obtain ⟨x, hx, hx2, hx3⟩ := byte_at hb i
  have est := ax3 b i hi
  rw [← hx3] at est
  simp only [P.aqu, toNat_cast]
  have e1 : IntKind.u64.wrap (IntKind.u64.wrap (((T 8 (b.take i).reverse % 2 ^ 64 : Nat) : Int) * 256) + IntKind.u64.wrap (x : Int)) = ((T 8 (b.take (i + 1)).reverse % 2 ^ 64 : Nat) : Int) := by
   rw [bi5, bi5, bi5, est]; omega
  rw [hx, e1]
  simp (disch := omega) only [av, dh, gu, fq, dw, dz, ku, p8, qd, qb]
  exact hn'
 ·simp only [P.aqu]
  rw [dh (by omega), List.take_length]
theorem ak6 (x m : Int) (n : Nat) (hm : m = (n : Int)) (hn : n ≤ 32) : ∃ q, ∀ {ρ : Type} (k : Int → Option ρ), P.yc x m false k = k q := by
 subst hm
 refine ⟨bits .or .u64 (x.fdiv ((2 : Int) ^ min ((n : Int)).toNat 64)) (bits .and .u64 (IntKind.u64.wrap (x * (2 : Int) ^ min ((32 : Int) - (n : Int)).toNat 64)) 4294967295), fun k => ?_⟩
 rw [P.ahz]
 unfold P.ado
 rw [qd, dh (by omega), qb (by omega) (by omega), dh (by omega)]
theorem bgu (x a b c : Int) (l m n : Nat) (ha : a = (l : Int)) (hb : b = (m : Int)) (hc : c = (n : Int)) (h1 : l ≤ 32) (h2 : m ≤ 32) (h3 : n ≤ 32) : ∃ q, ∀ {ρ : Type} (k : Int → Option ρ), P.yt x a b c false false k = k q := by
 obtain ⟨q1, e1⟩ := ak6 x a l ha h1
 obtain ⟨q2, e2⟩ := ak6 x b m hb h2
 obtain ⟨q3, e3⟩ := ak6 x c n hc h3
 refine ⟨bits .xor .u64 (bits .xor .u64 q1 q2) q3, fun k => ?_⟩
 rw [P.aey]
 unfold P.abh
 rw [dh (by omega), ku, qd, e3, e1, e2]
theorem bea (x a b c : Int) (l m n : Nat) (ha : a = (l : Int)) (hb : b = (m : Int)) (hc : c = (n : Int)) (h1 : l ≤ 32) (h2 : m ≤ 32) (h3 : n ≤ 32) : ∃ q, ∀ {ρ : Type} (k : Int → Option ρ), P.yt x a b c true false k = k q := by
 obtain ⟨q1, e1⟩ := ak6 x a l ha h1
 obtain ⟨q2, e2⟩ := ak6 x b m hb h2
 refine ⟨bits .xor .u64 (bits .xor .u64 q1 q2) (x.fdiv ((2 : Int) ^ min c.toNat 64)), fun k => ?_⟩
 rw [P.aey]
 unfold P.abh
 rw [dh (by omega), ku, p8, e1, e2]
theorem akw (x : BitVec 32) (m : Int) (n : Nat) (hm : m = (n : Int)) (hn : n ≤ 32) {ρ : Type} (k : Int → Option ρ) : P.yc (x.toNat : Int) m false k = k ((rr x n).toNat : Int) := by
 subst hm
 rw [P.ahz]
 unfold P.ado
 rw [qd, dh (by omega), qb (by omega) (by omega), dh (by omega), show (32 : Int) - (n : Int) = ((32 - n : Nat) : Int) by omega]
 simp only [toNat_cast]
 rw [b30 _ _ (by omega), nshl _ _ (by omega), nor]
 rfl
theorem bmj (x : BitVec 32) (t : Nat × Nat × Nat) (a b c : Int) (ha : a = (t.1 : Int)) (hb : b = (t.2.1 : Int)) (hc : c = (t.2.2 : Int)) (h1 : t.1 ≤ 32) (h2 : t.2.1 ≤ 32) (h3 : t.2.2 ≤ 32) {ρ : Type} (k : Int → Option ρ) :
    P.yt (x.toNat : Int) a b c false false k = k ((hi t x).toNat : Int) := by
 rw [P.aey]
 unfold P.abh
 rw [dh (by omega), ku, qd, akw _ _ _ hc h3, akw _ _ _ ha h1, akw _ _ _ hb h2, bmz, bmz]
 rfl
theorem bm0 (x : BitVec 32) (t : Nat × Nat × Nat) (a b c : Int) (ha : a = (t.1 : Int)) (hb : b = (t.2.1 : Int)) (hc : c = (t.2.2 : Int)) (h1 : t.1 ≤ 32) (h2 : t.2.1 ≤ 32) (h3 : t.2.2 ≤ 32) {ρ : Type} (k : Int → Option ρ) :
    P.yt (x.toNat : Int) a b c true false k = k ((lo t x).toNat : Int) := by
 rw [P.aey]
 unfold P.abh
 rw [dh (by omega), ku, p8, akw _ _ _ ha h1, akw _ _ _ hb h2, bmz, hc]
 simp only [toNat_cast]
 rw [b30 _ _ (by omega), bmz]
 rfl
theorem b2f (a b c d : BitVec 32) : bits .and .u64 (IntKind.u64.wrap (IntKind.u64.wrap (IntKind.u64.wrap ((a.toNat : Int) + (b.toNat : Int)) + (c.toNat : Int)) + (d.toNat : Int))) 4294967295 = ((a + b + c + d).toNat : Int) := by
 have ha := asg a
 have hb := asg b
 have hc := asg c
 have hd := asg d
 rw [← Int.natCast_add, ahp _ (by omega), ← Int.natCast_add, ahp _ (by omega), ← Int.natCast_add, ahp _ (by omega), bgj _ (by omega), BitVec.toNat_add, BitVec.toNat_add, BitVec.toNat_add]
 omega
theorem b2g (a b : BitVec 32) : bits .and .u64 (IntKind.u64.wrap ((a.toNat : Int) + (b.toNat : Int))) 4294967295 = ((a + b).toNat : Int) := by
 have ha := asg a
 have hb := asg b
 rw [← Int.natCast_add, ahp _ (by omega), bgj _ (by omega), BitVec.toNat_add]
theorem by1 (d a b c e f : BitVec 32) : bits .and .u64 (IntKind.u64.wrap ((d.toNat : Int) + IntKind.u64.wrap (IntKind.u64.wrap (IntKind.u64.wrap (IntKind.u64.wrap ((a.toNat : Int) + (b.toNat : Int)) + (c.toNat : Int)) + (e.toNat : Int)) + (f.toNat : Int)))) 4294967295 = ((d + (a + b + c + e + f)).toNat : Int) := by
 have hd := asg d
 have ha := asg a
 have hb := asg b
 have hc := asg c
 have he := asg e
 have hf := asg f
 rw [← Int.natCast_add, ahp _ (by omega), ← Int.natCast_add, ahp _ (by omega), ← Int.natCast_add, ahp _ (by omega), ← Int.natCast_add, ahp _ (by omega), ← Int.natCast_add, ahp _ (by omega), bgj _ (by omega), BitVec.toNat_add, BitVec.toNat_add, BitVec.toNat_add, BitVec.toNat_add, BitVec.toNat_add]
 omega
theorem by4 (a b c e f g h : BitVec 32) : bits .and .u64 (IntKind.u64.wrap (IntKind.u64.wrap (IntKind.u64.wrap (IntKind.u64.wrap (IntKind.u64.wrap ((a.toNat : Int) + (b.toNat : Int)) + (c.toNat : Int)) + (e.toNat : Int)) + (f.toNat : Int)) + IntKind.u64.wrap ((g.toNat : Int) + (h.toNat : Int)))) 4294967295 = (((a + b + c + e + f) + (g + h)).toNat : Int) := by
 have ha := asg a
 have hb := asg b
 have hc := asg c
 have he := asg e
 have hf := asg f
 have hg := asg g
 have hh := asg h
 rw [← Int.natCast_add, ahp _ (by omega), ← Int.natCast_add, ahp _ (by omega), ← Int.natCast_add, ahp _ (by omega), ← Int.natCast_add, ahp _ (by omega), ← Int.natCast_add (g.toNat), ahp _ (by omega), ← Int.natCast_add, ahp _ (by omega), bgj _ (by omega), BitVec.toNat_add, BitVec.toNat_add, BitVec.toNat_add, BitVec.toNat_add, BitVec.toNat_add, BitVec.toNat_add]
 omega
theorem bxy (e f g : BitVec 32) : bits .xor .u64 (bits .and .u64 (e.toNat : Int) (f.toNat : Int)) (bits .and .u64 (bits .xor .u64 4294967295 (e.toNat : Int)) (g.toNat : Int)) = ((g ^^^ (e &&& (f ^^^ g))).toNat : Int) := by
 rw [show (4294967295 : Int) = ((BitVec.allOnes 32).toNat : Int) from rfl, nand, bmz, nand, bmz, bq7]
theorem bsp (a b c : BitVec 32) : bits .xor .u64 (bits .xor .u64 (bits .and .u64 (a.toNat : Int) (b.toNat : Int)) (bits .and .u64 (a.toNat : Int) (c.toNat : Int))) (bits .and .u64 (b.toNat : Int) (c.toNat : Int)) = (((a &&& b) ||| (c &&& (a ||| b))).toNat : Int) := by
 rw [nand, nand, nand, bmz, bmz, bmx]
def ar1 (b : List Int) (t : Nat) : List (BitVec 32) := (List.range t).map (W p32 (kg 32 b 16))
theorem awq (b : List Int) (t : Nat) : ar1 b (t + 1) = ar1 b t ++ [W p32 (kg 32 b 16) t] := by simp [ar1, List.range_succ]
theorem bas (b : List Int) (t : Nat) : (ar1 b t).length = t := by simp [ar1]
theorem apt (b : List Int) (t i : Nat) (h : i < t) : (ar1 b t).getD i 0 = W p32 (kg 32 b 16) i := by
 unfold ar1
 rw [getD_lt (by simpa using h)]; simp
theorem boi (b : List Int) (t : Nat) (h : t < 16) : W p32 (kg 32 b 16) t = BitVec.ofNat 32 (T 8 ((b.take ((t + 1) * 4)).drop (t * 4)).reverse) := by
 rw [← bm7 p32 _ (by rw [o7]; omega) 0 t (by rw [o7]; omega), show sched p32 (kg 32 b 16) 0 = kg 32 b 16 from rfl, getD_lt (by rw [o7]; exact h)]
 simp [kg]
theorem bgn (b : List Int) (hb : In 256 b) (hl : b.length = 16 * 4) {ρ : Type} (k : List Int → Option ρ) : P.abt b false 64 4294967295 k = k (cv (ar1 b 64)) := by
 rw [P.aly]
 unfold P.agk
 rw [qd, P.alr]
 unfold P.alx P.bq9 P.bp1 P.bu7
 refine zo (fun t => (b, false, 64, 4294967295, 4, (t : Int), cv (ar1 b t))) 64 rfl (fun t ht next hn' => ?_) (fun next => ?_) (by omega)
 ·simp only [P.afd, toNat_cast]
  have e1 : IntKind.i64.wrap ((t : Int) + 1) = ((t + 1 : Nat) : Int) := by rw [qb (by omega) (by omega)]; omega
  rw [av (by omega)]
  have hlen := bas b t
  by_cases h16 : t < 16
  ·have e2 : IntKind.i64.wrap ((t : Int) * 4) = ((t * 4 : Nat) : Int) := by rw [qb (by omega) (by omega)]; omega
   have e3 : IntKind.i64.wrap (IntKind.i64.wrap ((t : Int) * 4) + 4) = (((t + 1) * 4 : Nat) : Int) := by rw [e2, qb (by omega) (by omega)]; omega
   have hl2 : ((b.take ((t + 1) * 4)).drop (t * 4)).length = 4 := by simp; omega
   rw [av (by omega), e3, e2, av (by omega), av (by omega), av (by omega)]
   simp only [toNat_cast]
   have hT := bve 8 ((b.take ((t + 1) * 4)).drop (t * 4)).reverse
   rw [List.length_reverse, hl2] at hT
   have e4 : ((T 8 ((b.take ((t + 1) * 4)).drop (t * 4)).reverse % 2 ^ 64 : Nat) : Int) = ((W p32 (kg 32 b 16) t).toNat : Int) := by
    rw [boi b t h16, BitVec.toNat_ofNat, Nat.mod_eq_of_lt (by omega), Nat.mod_eq_of_lt (by omega)]
   rw [acs _ ((hb.take _).drop _) (by omega), av (by rw [uj]; omega), e4, e1, show [((W p32 (kg 32 b 16) t).toNat : Int)] = cv [W p32 (kg 32 b 16) t] from rfl, aff, ← awq]
   exact hn'
  ·have e15 : IntKind.i64.wrap ((t : Int) - 15) = ((t - 15 : Nat) : Int) := by rw [qb (by omega) (by omega)]; omega
   have e2 : IntKind.i64.wrap ((t : Int) - 2) = ((t - 2 : Nat) : Int) := by rw [qb (by omega) (by omega)]; omega
   have e7 : IntKind.i64.wrap ((t : Int) - 7) = ((t - 7 : Nat) : Int) := by rw [qb (by omega) (by omega)]; omega
   have e16 : IntKind.i64.wrap ((t : Int) - 16) = ((t - 16 : Nat) : Int) := by rw [qb (by omega) (by omega)]; omega
   simp only [e15, e2, e7, e16, toNat_cast, afu, uj, hlen]
   rw [apt b t _ (by omega), apt b t _ (by omega), apt b t _ (by omega), apt b t _ (by omega)]
   rw [dh (by omega), av (by omega), av (by omega), bm0 _ p32.a _ _ _ (by rfl) (by rfl) (by rfl) (by decide) (by decide) (by decide), av (by omega), av (by omega), bm0 _ p32.b _ _ _ (by rfl) (by rfl) (by rfl) (by decide) (by decide) (by decide), qd]
   have hW := beh p32 (kg 32 b 16) (o7 b 16) (t - 16)
   rw [show t - 16 + 16 = t by omega, show t - 16 + 1 = t - 15 by omega, show t - 16 + 9 = t - 7 by omega, show t - 16 + 14 = t - 2 by omega] at hW
   have hW2 : lo p32.b (W p32 (kg 32 b 16) (t - 2)) + W p32 (kg 32 b 16) (t - 7) + lo p32.a (W p32 (kg 32 b 16) (t - 15)) + W p32 (kg 32 b 16) (t - 16) = W p32 (kg 32 b 16) t := by rw [hW]; ac_rfl
   rw [av (by omega), av (by omega), av (by omega), av (by omega), av (by omega), b2f, hW2, e1, show [((W p32 (kg 32 b 16) t).toNat : Int)] = cv [W p32 (kg 32 b 16) t] from rfl, aff, ← awq]
   exact hn'
 ·simp only [P.afd]
  rw [dh (by omega)]
theorem bn2 (b : List Int) (v : List (BitVec 32)) (hv : v.length = 8) (h0 h1 : List Int) {ρ : Type} (k0 : Bool → Int → Int → Int → List Int → List Int → List Int → List Int → List Int → List Int → Option ρ) :
    P.ad7 false 64 4294967295 0 h0 h1 P.roots256 P.roots512 (cv (ar1 b 64)) (cv v) k0 = k0 false 64 4294967295 64 h0 h1 P.roots256 P.roots512 (cv (ar1 b 64)) (cv (runs p32 (kg 32 b 16) v 64)) := by
 rw [P.ake]
 unfold P.ajv P.bqp P.bp2 P.bu2
 refine zo (fun t => (false, 64, 4294967295, (t : Int), h0, h1, P.roots256, P.roots512, cv (ar1 b 64), cv (runs p32 (kg 32 b 16) v t))) 64 rfl (fun t ht next hn' => ?_) (fun next => ?_) (by omega)
 ·simp only [P.ad5]
  have e1 : IntKind.i64.wrap ((t : Int) + 1) = ((t + 1 : Nat) : Int) := by rw [qb (by omega) (by omega)]; omega
  have hlen := bas b 64
  simp only [e1, toNat_cast, afu, uj, hlen]
  rw [apt b 64 t ht, K32]
  rw [av (by omega), bmj _ p32.c _ _ _ (by rfl) (by rfl) (by rfl) (by decide) (by decide) (by decide), bmj _ p32.d _ _ _ (by rfl) (by rfl) (by rfl) (by decide) (by decide) (by decide), qd]
  rw [av (by omega), av (by omega), av (by omega), av (by omega), bxy, bsp, by4, by1]
  exact hn'
 ·simp only [P.ad5]
  rw [dh (by omega)]
  rfl
theorem bo3 (v u : List (BitVec 32)) (hv : v.length = 8) (hu : u.length = 8) (h1 : List Int) {ρ : Type} (k0 : Int → Int → List Int → List Int → List Int → Option ρ) :
    P.ad4 4294967295 0 (cv v) h1 (cv u) k0 = k0 4294967295 8 (cv v) h1 (cv ((List.range 8).map fun i => u.getD i 0 + v.getD i 0)) := by
 rw [P.akk]
 unfold P.ajz P.br8 P.bp0 P.bux
 refine zo (fun i => (4294967295, (i : Int), cv v, h1, cv (((List.range i).map fun i => u.getD i 0 + v.getD i 0) ++ u.drop i))) 8 (by simp) (fun i hi next hn' => ?_) (fun next => ?_) (by omega)
 ·simp only [P.adj, toNat_cast, afu]
  have e1 : IntKind.i64.wrap ((i : Int) + 1) = ((i + 1 : Nat) : Int) := by rw [qb (by omega) (by omega)]; omega
  have e2 : (((List.range i).map fun i => u.getD i 0 + v.getD i 0) ++ u.drop i).getD i 0 = u.getD i 0 := by
   rw [List.getD_eq_getElem?_getD, List.getElem?_append_right (by simp), List.getElem?_drop, List.length_map, List.length_range, List.getD_eq_getElem?_getD]
   congr 2
   omega
  rw [e1, e2, b2g, awe]
  have e3 : (((List.range i).map fun i => u.getD i 0 + v.getD i 0) ++ u.drop i).set i (u.getD i 0 + v.getD i 0) = ((List.range (i + 1)).map fun i => u.getD i 0 + v.getD i 0) ++ u.drop (i + 1) := by
   rw [List.set_append_right _ _ (by simp), List.length_map, List.length_range, Nat.sub_self, List.range_succ, List.map_append, List.append_assoc, List.drop_eq_getElem_cons (by omega), List.set_cons_zero]
   rfl
  rw [e3]
  simp (disch := omega) only [av, dh, gu, fq, dw, dz, ku, p8, qd, qb]
  exact hn'
 ·simp only [P.adj]
  rw [dh (by omega), List.drop_eq_nil_of_le (by omega), List.append_nil]
  rfl
theorem bgw (v : List (BitVec 32)) (hv : v.length = 8) (b : List Int) (hb : In 256 b) (hl : b.length = 16 * 4) {ρ : Type} (k : List Int → Option ρ) : P.acu (cv v) b false k = k (cv (aty p32 v b)) := by
 rw [P.aln]
 unfold P.agi
 have hr1 : ∀ (k : List Int → Option ρ), P.wm k = k P.roots256 := fun k => by rw [P.agy]; kernel_rfl
 have hr2 : ∀ (k : List Int → Option ρ), P.wh k = k P.roots512 := fun k => by rw [P.aho]; kernel_rfl
 rw [hr1, hr2, qd, bgn b hb hl, bn2 b v hv, bo3 v _ hv (ama _ _ _ hv _)]
 rfl
end Q
end

section
/- SHA-2: the program's engine of 64 bits. -/
namespace Q
open Go Go.Abs
set_option linter.unusedVariables false
set_option linter.unusedSimpArgs false
theorem aiu (rd : Int) (t0 t1 t2 t3 : List Int) (x : BitVec 64) (m : Int) (n : Nat) (hm : m = (n : Int)) (hn : n ≤ 64) {ρ : Type} (k : Int → Option ρ) :
    P.bg 64 rd t0 t1 t2 t3 (x.toNat : Int) m k = k ((rr x n).toNat : Int) := by
 subst hm
 rw [P.aa8]
 unfold P.uy
 rw [dh (by omega), qb (by omega) (by omega), dh (by omega), show (64 : Int) - (n : Int) = ((64 - n : Nat) : Int) by omega]
 simp only [toNat_cast]
 rw [bfk _ _ hn, bpb _ _ (by omega), buz]
 rfl
theorem bhn (rd : Int) (x : BitVec 64) {ρ : Type} (k : Int → Option ρ) : P.jg 64 rd [1, 8, 7] [19, 61, 6] [28, 34, 39] [14, 18, 41] (x.toNat : Int) 3 k = k ((hi p64.d x).toNat : Int) := by
 rw [P.zh]
 unfold P.qz
 simp only [List.getD_cons_zero, List.getD_cons_succ]
 rw [dh (by decide), dh (by decide), dh (by decide), av (by decide), aiu _ _ _ _ _ _ _ 14 (by rfl) (by omega), aiu _ _ _ _ _ _ _ 18 (by rfl) (by omega), aiu _ _ _ _ _ _ _ 41 (by rfl) (by omega), ajn, ajn]
 rfl
theorem bid (rd : Int) (x : BitVec 64) {ρ : Type} (k : Int → Option ρ) : P.jg 64 rd [1, 8, 7] [19, 61, 6] [28, 34, 39] [14, 18, 41] (x.toNat : Int) 2 k = k ((hi p64.c x).toNat : Int) := by
 rw [P.zh]
 unfold P.qz
 simp only [List.getD_cons_zero, List.getD_cons_succ]
 rw [dh (by decide), dh (by decide), av (by decide), aiu _ _ _ _ _ _ _ 28 (by rfl) (by omega), aiu _ _ _ _ _ _ _ 34 (by rfl) (by omega), aiu _ _ _ _ _ _ _ 39 (by rfl) (by omega), ajn, ajn]
 rfl
theorem bkr (rd : Int) (x : BitVec 64) {ρ : Type} (k : Int → Option ρ) : P.jl 64 rd [1, 8, 7] [19, 61, 6] [28, 34, 39] [14, 18, 41] (x.toNat : Int) 0 k = k ((lo p64.a x).toNat : Int) := by
 rw [P.aah]
 unfold P.ug
 simp only [List.getD_cons_zero, List.getD_cons_succ]
 rw [av (by decide), aiu _ _ _ _ _ _ _ 1 (by rfl) (by omega), aiu _ _ _ _ _ _ _ 8 (by rfl) (by omega), dh (by decide), ajn, show (7 : Int).toNat = 7 from rfl, bfk _ _ (by omega), ajn]
 rfl
theorem bkj (rd : Int) (x : BitVec 64) {ρ : Type} (k : Int → Option ρ) : P.jl 64 rd [1, 8, 7] [19, 61, 6] [28, 34, 39] [14, 18, 41] (x.toNat : Int) 1 k = k ((lo p64.b x).toNat : Int) := by
 rw [P.aah]
 unfold P.ug
 simp only [List.getD_cons_zero, List.getD_cons_succ]
 rw [dh (by decide), av (by decide), aiu _ _ _ _ _ _ _ 19 (by rfl) (by omega), aiu _ _ _ _ _ _ _ 61 (by rfl) (by omega), dh (by decide), ajn, show (6 : Int).toNat = 6 from rfl, bfk _ _ (by omega), ajn]
 rfl
theorem bkm (t : Nat) (h : t < 80) {ρ : Type} (k : Int → Option ρ) : P.mh (t : Int) k = k ((p64.K t).toNat : Int) := by
 rw [P.am1]
 unfold P.ahh
 rw [av (by omega), av (by omega), toNat_cast, K64]
theorem bqq (b : List Int) (hb : In 256 b) (hl : b.length = 16 * 8) (rd : Int) (t0 t1 t2 t3 h1 h2 : List Int) {ρ : Type} (k0 : List Int → Int → Int → Int → Int → List Int → List Int → List Int → List Int → List Int → List Int → List Int → Option ρ) :
    P.y5 b 8 0 64 rd t0 t1 t2 t3 h1 h2 (List.replicate 16 0) k0 = k0 b 8 16 64 rd t0 t1 t2 t3 h1 h2 (cv (kg 64 b 16)) := by
 rw [P.af3]
 unfold P.aci P.bvf P.bum P.b2a
 refine zo (fun i => (b, 8, (i : Int), 64, rd, t0, t1, t2, t3, h1, h2, cv (kg 64 b i) ++ List.replicate (16 - i) 0)) 16 (by simp [kg, cv]) (fun i hi next hn' => ?_) (fun next => ?_) (by omega)
 ·simp only [P.yw, toNat_cast]
  have e1 : IntKind.i64.wrap ((i : Int) * 8) = ((i * 8 : Nat) : Int) := by rw [qb (by omega) (by omega)]; omega
  have e2 : IntKind.i64.wrap (IntKind.i64.wrap ((i : Int) + 1) * 8) = (((i + 1) * 8 : Nat) : Int) := by rw [qb (x := (i : Int) + 1) (by omega) (by omega), qb (by omega) (by omega)]; omega
  rw [e1, e2]
  simp only [toNat_cast]
  have hlen : ((b.take ((i + 1) * 8)).drop (i * 8)).length = 8 := by simp; omega
  rw [av (by omega), av (by omega), av (by omega), av (by omega), tu _ ((hb.take _).drop _) (by omega), av (by omega), av (by omega)]
  have e3 : ((T 8 ((b.take ((i + 1) * 8)).drop (i * 8)).reverse % 2 ^ 64 : Nat) : Int) = (((BitVec.ofNat 64 (T 8 ((b.take ((i + 1) * 8)).drop (i * 8)).reverse)).toNat : Nat) : Int) := by
   rw [BitVec.toNat_ofNat]
  have e4 : IntKind.i64.wrap ((i : Int) + 1) = ((i + 1 : Nat) : Int) := by rw [qb (by omega) (by omega)]; omega
  rw [e3, e4]
  have e5 : (cv (kg 64 b i) ++ List.replicate (16 - i) (0 : Int)).set i (((BitVec.ofNat 64 (T 8 ((b.take ((i + 1) * 8)).drop (i * 8)).reverse)).toNat : Nat) : Int) = cv (kg 64 b (i + 1)) ++ List.replicate (16 - (i + 1)) 0 := by
   rw [List.set_append_right _ _ (by simp [o7]), uj, o7, Nat.sub_self, show 16 - i = (16 - (i + 1)) + 1 by omega, List.replicate_succ, List.set_cons_zero, asr, ← aff, List.append_assoc]
   rfl
  rw [e5]
  exact hn'
 ·simp only [P.yw]
  rw [dh (by omega)]
  simp
theorem bom (l v : List (BitVec 64)) (hv : v.length = 8) (h2 h1 : List Int) {ρ : Type} (k0 : Int → Int → List Int → List Int → List Int → Int → Int → List Int → List Int → List Int → List Int → List Int → Option ρ) (hl : l.length = 16) :
    P.qp 80 0 (cv (win p64 l 0)) h2 h1 64 80 [1, 8, 7] [19, 61, 6] [28, 34, 39] [14, 18, 41] (cv v) k0 =
     k0 80 80 (cv (win p64 l 80)) h2 h1 64 80 [1, 8, 7] [19, 61, 6] [28, 34, 39] [14, 18, 41] (cv (runs p64 l v 80)) := by
 rw [P.afs]
 unfold P.abe P.bvo P.bq5 P.bzx
 refine zo (fun t => (80, (t : Int), cv (win p64 l t), h2, h1, 64, 80, [1, 8, 7], [19, 61, 6], [28, 34, 39], [14, 18, 41], cv (runs p64 l v t))) 80 rfl (fun t ht next hn' => ?_) (fun next => ?_) (by omega)
 ·simp only [P.xu]
  have e1 : IntKind.i64.wrap ((t : Int) + 1) = ((t + 1 : Nat) : Int) := by rw [qb (by omega) (by omega)]; omega
  have e9 : IntKind.i64.wrap ((t : Int) + 9) = ((t + 9 : Nat) : Int) := by rw [qb (by omega) (by omega)]; omega
  have e14 : IntKind.i64.wrap ((t : Int) + 14) = ((t + 14 : Nat) : Int) := by rw [qb (by omega) (by omega)]; omega
  simp only [e1, e9, e14, b2u, toNat_cast, afu]
  have g0 := arv p64 l t 0 (by omega)
  rw [Nat.add_zero] at g0
  rw [g0, arv p64 l t 1 (by omega), arv p64 l t 9 (by omega), arv p64 l t 14 (by omega)]
  have hV := v8 _ (ama p64 l v hv t)
  rw [av (by omega), av (by omega), av (by omega), bhn, bkm t ht, bid, av (by omega), av (by omega), bkr, av (by omega), av (by omega), av (by omega), av (by omega), bkj, av (by omega), av (by omega)]
  simp only [ako, ajn, bc7, buz]
  rw [← beh p64 l hl t, awe, bet]
  have hr : cv (runs p64 l v (t + 1)) = (((List.take 1 (cv (runs p64 l v t))).append (List.take 7 (List.take 7 (List.drop 0 (cv (runs p64 l v t)))) ++ List.drop (1 + min 7 (List.take 7 (List.drop 0 (cv (runs p64 l v t)))).length) (cv (runs p64 l v t)))).set 4
      (((runs p64 l v t).getD 3 0 + bp6 p64 t (W p64 l t) (runs p64 l v t)).toNat : Int)).set 0 ((bp6 p64 t (W p64 l t) (runs p64 l v t) + bzu p64 (runs p64 l v t)).toNat : Int) := by
   rw [hV]
   rfl
  have h3 : ((List.take 1 (cv (runs p64 l v t))).append (List.take 7 (List.take 7 (List.drop 0 (cv (runs p64 l v t)))) ++ List.drop (1 + min 7 (List.take 7 (List.drop 0 (cv (runs p64 l v t)))).length) (cv (runs p64 l v t)))).getD 4 0 = (((runs p64 l v t).getD 3 0).toNat : Int) := by
   rw [hV]
   rfl
  rw [h3, ako]
  rw [hr] at hn'
  exact hn'
 ·simp only [P.xu]
  rw [dh (by omega)]
  rfl
theorem bnb (v u : List (BitVec 64)) (hv : v.length = 8) (hu : u.length = 8) (h2 : List Int) {ρ : Type} (k0 : Int → List Int → List Int → List Int → Option ρ) :
    P.qw 0 (cv v) h2 (cv u) k0 = k0 8 (cv v) h2 (cv ((List.range 8).map fun i => u.getD i 0 + v.getD i 0)) := by
 rw [P.afl]
 unfold P.abg P.bvd P.bua P.bwl
 have hs : ∀ i, i ≤ 8 → (((List.range i).map fun i => u.getD i 0 + v.getD i 0) ++ u.drop i).length = 8 := fun i hi => by simp; omega
 refine zo (fun i => ((i : Int), cv v, h2, cv (((List.range i).map fun i => u.getD i 0 + v.getD i 0) ++ u.drop i))) 8 (by simp) (fun i hi next hn' => ?_) (fun next => ?_) (by omega)
 ·simp only [P.xk, toNat_cast, afu]
  have e1 : IntKind.i64.wrap ((i : Int) + 1) = ((i + 1 : Nat) : Int) := by rw [qb (by omega) (by omega)]; omega
  have e2 : (((List.range i).map fun i => u.getD i 0 + v.getD i 0) ++ u.drop i).getD i 0 = u.getD i 0 := by
   rw [List.getD_eq_getElem?_getD, List.getElem?_append_right (by simp), List.getElem?_drop, List.length_map, List.length_range, List.getD_eq_getElem?_getD]
   congr 2
   omega
  rw [e1, e2, ako, awe]
  have e3 : (((List.range i).map fun i => u.getD i 0 + v.getD i 0) ++ u.drop i).set i (u.getD i 0 + v.getD i 0) = ((List.range (i + 1)).map fun i => u.getD i 0 + v.getD i 0) ++ u.drop (i + 1) := by
   rw [List.set_append_right _ _ (by simp), List.length_map, List.length_range, Nat.sub_self, List.range_succ, List.map_append, List.append_assoc, List.drop_eq_getElem_cons (by omega), List.set_cons_zero]
   rfl
  rw [e3]
  simp (disch := omega) only [av, dh, gu, fq, dw, dz, ku, p8, qd, qb]
  exact hn'
 ·simp only [P.xk]
  rw [dh (by omega), List.drop_eq_nil_of_le (by omega), List.append_nil]
  rfl
theorem bhx (v : List (BitVec 64)) (hv : v.length = 8) (b : List Int) (hb : In 256 b) (hl : b.length = 16 * 8) {ρ : Type} (k : List Int → Option ρ) :
    P.jy 64 80 [1, 8, 7] [19, 61, 6] [28, 34, 39] [14, 18, 41] (cv v) b k = k (cv (aty p64 v b)) := by
 rw [P.acn]
 unfold P.yj
 rw [show IntKind.i64.wrap ((64 : Int).tdiv 8) = 8 from rfl]
 have := bqq b hb hl 80 [1, 8, 7] [19, 61, 6] [28, 34, 39] [14, 18, 41] (cv v) (List.replicate 8 0) (fun (q0 : List Int) (q1 q2 q3 q4 : Int) (q5 q6 q7 q8 q9 q10 q11 : List Int) =>
  P.qp q4 (0 : Int) q11 q10 q9 q3 q4 q5 q6 q7 q8 q9
   fun (q12 q13 : Int) (q14 q15 q16 : List Int) (q17 q18 : Int) (q19 q20 q21 q22 q23 : List Int) =>
   P.qw (0 : Int) q16 q15 q23 fun (q24 : Int) (q25 q26 q27 : List Int) => k q27)
 refine this.trans ?_
 rw [← win_zero p64, bom _ v hv _ _ _ (o7 b 16), bnb v _ hv (ama _ _ _ hv _)]
 rfl
end Q
end
