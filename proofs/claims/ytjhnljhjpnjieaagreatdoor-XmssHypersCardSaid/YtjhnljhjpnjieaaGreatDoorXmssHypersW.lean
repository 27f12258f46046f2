/-
  XmssHypers, part 23: an interpreter of my own over abstract values, the pure functions, the walks and the plain law.
-/

import Derived.Test.YtjhnljhjpnjieaaGreatDoorXmssHypersV
import Derived.Laws.Bits64
import Derived.Test.YtjhnljhjpnjieaaGreatDoorXmssHypersG
import Derived.Test.YtjhnljhjpnjieaaGreatDoorXmssHypersI
import Derived.Test.YtjhnljhjpnjieaaGreatDoorXmssHypersH

section
/- Small laws for the plain proofs. -/
namespace Q
open Go Go.Abs
set_option linter.unusedVariables false
def In (m : Int) (l : List Int) : Prop := ∀ x, x ∈ l → 0 ≤ x ∧ x < m
theorem wf_u8 {n : Int} (h : wfI .u8 n) : 0 ≤ n ∧ n < 256 := by
 simp [wfI, Lit.wf, IntKind.min, IntKind.max, IntKind.signed, IntKind.bits] at h; omega
theorem wf_u64 {n : Int} (h : wfI .u64 n) : 0 ≤ n ∧ n < 18446744073709551616 := by
 simp [wfI, Lit.wf, IntKind.min, IntKind.max, IntKind.signed, IntKind.bits] at h; omega
theorem bhq {l : List Int} (h : ∀ x, x ∈ l → wfI .u8 x) : In 256 l := fun x hx => wf_u8 (h x hx)
theorem In.tail {m x : Int} {l : List Int} (h : In m (x :: l)) : In m l := fun y hy => h y (List.mem_cons_of_mem _ hy)
theorem In.app {m : Int} {l r : List Int} (h1 : In m l) (h2 : In m r) : In m (l ++ r) := fun y hy => (List.mem_append.1 hy).elim (h1 y) (h2 y)
theorem In.left {m : Int} {l r : List Int} (h : In m (l ++ r)) : In m l := fun y hy => h y (List.mem_append_left _ hy)
theorem In.right {m : Int} {l r : List Int} (h : In m (l ++ r)) : In m r := fun y hy => h y (List.mem_append_right _ hy)
theorem In.take {m : Int} {l : List Int} (h : In m l) (n : Nat) : In m (l.take n) := fun y hy => h y (List.mem_of_mem_take hy)
theorem In.drop {m : Int} {l : List Int} (h : In m l) (n : Nat) : In m (l.drop n) := fun y hy => h y (List.mem_of_mem_drop hy)
theorem In.nil {m : Int} : In m [] := fun y hy => by simp at hy
theorem In.rev {m : Int} {l : List Int} (h : In m l) : In m l.reverse := fun y hy => h y (by simpa using hy)
theorem In.getD {m : Int} {l : List Int} (h : In m l) (i : Nat) (hm : 0 < m) : 0 ≤ l.getD i 0 ∧ l.getD i 0 < m := by
 rw [List.getD_eq_getElem?_getD]
 by_cases hi : i < l.length
 ·rw [List.getElem?_eq_getElem hi]; exact h _ (List.getElem_mem hi)
 ·rw [List.getElem?_eq_none (by omega)]; exact ⟨Int.le_refl 0, hm⟩
theorem In.map {m : Int} {α : Type} {l : List α} {f : α → Int} (h : ∀ a, a ∈ l → 0 ≤ f a ∧ f a < m) : In m (l.map f) := fun y hy => by
 obtain ⟨a, ha, rfl⟩ := List.mem_map.1 hy
 exact h a ha
theorem gu {α : Type} {a b : Int} (h : ¬ a = b) (x y : α) : br (a != b) x y = x := by rw [bne_iff_ne.2 h]; exact oh x y
theorem cu {α : Type} {a b : Int} (h : a = b) (x y : α) : br (a != b) x y = y := by rw [bne_eq_false_iff_eq.2 h]; exact qm x y
theorem fq {α : Type} {a b : Int} (h : a = b) (x y : α) : br (a == b) x y = x := by rw [beq_iff_eq.2 h]; exact oh x y
theorem fu {α : Type} {a b : Int} (h : ¬ a = b) (x y : α) : br (a == b) x y = y := by rw [beq_eq_false_iff_ne.2 h]; exact qm x y
theorem jh {α : Type} (b : Bool) (x y : α) : br (!b) x y = br b y x := by cases b <;> simp
theorem b0v {α : Type} (p : Prop) [Decidable p] (x y : α) : br (decide p) x y = if p then x else y := by
 by_cases h : p
 ·rw [bg h, if_pos h]
 ·rw [dn h, if_neg h]
theorem bou {X Y ρ : Type} {stp : X → (X → Option ρ) → (Y → Option ρ) → Option ρ} {K : Y → Option ρ} {r : Option ρ} (S : Nat → X) (n : Nat)
    (hstep : ∀ i, i < n → ∀ next, next (S (i + 1)) = r → stp (S i) next K = r) (hend : ∀ next, stp (S n) next K = r) {i : Nat} (hi : i ≤ n) (hn : n ≤ 18446744073709551616) : lp stp (S i) K = r := by
 have key : ∀ m i, m + i = n → lpN stp K m (S i) = r ∧ ∀ q, m ≤ q → lpN stp K q (S i) = r := by
  intro m
  induction m with
  | zero =>
   intro i hi
   have : i = n := by omega
   subst this
   refine ⟨hend _, fun q _ => ?_⟩
   cases q with
   | zero => exact hend _
   | succ q => exact hend _
  | succ m ih =>
   intro i hi
   refine ⟨hstep i (by omega) _ (ih (i + 1) (by omega)).1, fun q hq => ?_⟩
   cases q with
   | zero => omega
   | succ q => exact hstep i (by omega) _ ((ih (i + 1) (by omega)).2 q (by omega))
 exact (key (n - i) i (by omega)).2 FU (by rw [bso]; omega)
theorem getD_lt {α : Type} {l : List α} {d : α} {i : Nat} (h : i < l.length) : l.getD i d = l[i] := by
 rw [List.getD_eq_getElem?_getD, List.getElem?_eq_getElem h]; rfl
theorem bho {α : Type} {l : List α} {d : α} {i : Nat} (h : l.length ≤ i) : l.getD i d = d := by
 rw [List.getD_eq_getElem?_getD, List.getElem?_eq_none h]; rfl
theorem toNat_cast (n : Nat) : ((n : Int)).toNat = n := Int.toNat_natCast n
theorem bes (f : Nat → Int) (i n : Nat) (h : i < n) (d : Int) : ((List.range i).map f ++ List.replicate (n - i) d).set i (f i) = (List.range (i + 1)).map f ++ List.replicate (n - (i + 1)) d := by
 rw [List.set_append_right _ _ (by simp), show n - i = (n - (i + 1)) + 1 by omega, List.replicate_succ]
 simp [List.range_succ]
theorem xu {α : Type} (f : Nat → α) (i : Nat) : (List.range i).map f ++ [f i] = (List.range (i + 1)).map f := by simp [List.range_succ]
theorem aob {α : Type} (l : List α) (d : α) (i : Nat) (h : i < l.length) : l.take i ++ [l.getD i d] = l.take (i + 1) := by
 rw [getD_lt h, List.take_add_one, List.getElem?_eq_getElem h]; rfl
theorem afn {α : Type} (l : List α) (d : α) (i : Nat) (h : i < l.length) : l.drop i = l.getD i d :: l.drop (i + 1) := by
 rw [getD_lt h]; exact List.drop_eq_getElem_cons h
end Q
end

section
/- The bit operations as numbers. -/
namespace Q
open Go Go.Abs
set_option linter.unusedVariables false
theorem ca1 (x y : Nat) (hx : x < 256) (hy : y < 256) : bits .or .u8 (x : Int) (y : Int) = ((x ||| y : Nat) : Int) := by
 have h1 : x ||| y < 256 := Nat.or_lt_two_pow (n := 8) hx hy
 have e : bits .or .u8 (x : Int) (y : Int) = IntKind.u8.wrap ((BitVec.ofInt 8 (x : Int) ||| BitVec.ofInt 8 (y : Int)).toNat : Int) := rfl
 have e2 : (BitVec.ofInt 8 (x : Int) ||| BitVec.ofInt 8 (y : Int)).toNat = x ||| y := by
  rw [BitVec.toNat_or, BitVec.toNat_ofInt, BitVec.toNat_ofInt]; congr 1 <;> omega
 rw [e, e2]; exact IntWalk.u8_in _ ⟨by omega, by omega⟩
theorem byj (x y : Nat) (hx : x < 256) (hy : y < 256) : bits .xor .u8 (x : Int) (y : Int) = ((x ^^^ y : Nat) : Int) := by
 have h1 : x ^^^ y < 256 := Nat.xor_lt_two_pow (n := 8) hx hy
 have e : bits .xor .u8 (x : Int) (y : Int) = IntKind.u8.wrap ((BitVec.ofInt 8 (x : Int) ^^^ BitVec.ofInt 8 (y : Int)).toNat : Int) := rfl
 have e2 : (BitVec.ofInt 8 (x : Int) ^^^ BitVec.ofInt 8 (y : Int)).toNat = x ^^^ y := by
  rw [BitVec.toNat_xor, BitVec.toNat_ofInt, BitVec.toNat_ofInt]; congr 1 <;> omega
 rw [e, e2]; exact IntWalk.u8_in _ ⟨by omega, by omega⟩
theorem byg (x y : Nat) (hx : x < 256) (hy : y < 256) : bits .and .u8 (x : Int) (y : Int) = ((x &&& y : Nat) : Int) := by
 have h1 : x &&& y < 256 := Nat.and_lt_two_pow (n := 8) x hy
 have e : bits .and .u8 (x : Int) (y : Int) = IntKind.u8.wrap ((BitVec.ofInt 8 (x : Int) &&& BitVec.ofInt 8 (y : Int)).toNat : Int) := rfl
 have e2 : (BitVec.ofInt 8 (x : Int) &&& BitVec.ofInt 8 (y : Int)).toNat = x &&& y := by
  rw [BitVec.toNat_and, BitVec.toNat_ofInt, BitVec.toNat_ofInt]; congr 1 <;> omega
 rw [e, e2]; exact IntWalk.u8_in _ ⟨by omega, by omega⟩
theorem bnt (x y : Nat) (hx : x < 18446744073709551616) (hy : y < 18446744073709551616) : bits .or .u64 (x : Int) (y : Int) = ((x ||| y : Nat) : Int) := by
 have h1 : x ||| y < 18446744073709551616 := Nat.or_lt_two_pow (n := 64) hx hy
 have e : bits .or .u64 (x : Int) (y : Int) = IntKind.u64.wrap ((BitVec.ofInt 64 (x : Int) ||| BitVec.ofInt 64 (y : Int)).toNat : Int) := rfl
 have e2 : (BitVec.ofInt 64 (x : Int) ||| BitVec.ofInt 64 (y : Int)).toNat = x ||| y := by
  rw [BitVec.toNat_or, BitVec.toNat_ofInt, BitVec.toNat_ofInt]; congr 1 <;> omega
 rw [e, e2]; exact IntWalk.u64_in _ ⟨by omega, by omega⟩
theorem aq2 (x y : Nat) (hx : x < 18446744073709551616) (hy : y < 18446744073709551616) : bits .and .u64 (x : Int) (y : Int) = ((x &&& y : Nat) : Int) := by
 have h1 : x &&& y < 18446744073709551616 := Nat.and_lt_two_pow (n := 64) x hy
 have e : bits .and .u64 (x : Int) (y : Int) = IntKind.u64.wrap ((BitVec.ofInt 64 (x : Int) &&& BitVec.ofInt 64 (y : Int)).toNat : Int) := rfl
 have e2 : (BitVec.ofInt 64 (x : Int) &&& BitVec.ofInt 64 (y : Int)).toNat = x &&& y := by
  rw [BitVec.toNat_and, BitVec.toNat_ofInt, BitVec.toNat_ofInt]; congr 1 <;> omega
 rw [e, e2]; exact IntWalk.u64_in _ ⟨by omega, by omega⟩
theorem bty (x y : Nat) (hx : x < 4294967296) (hy : y < 4294967296) : bits .and .u32 (x : Int) (y : Int) = ((x &&& y : Nat) : Int) := by
 have h1 : x &&& y < 4294967296 := Nat.and_lt_two_pow (n := 32) x hy
 have e : bits .and .u32 (x : Int) (y : Int) = IntKind.u32.wrap ((BitVec.ofInt 32 (x : Int) &&& BitVec.ofInt 32 (y : Int)).toNat : Int) := rfl
 have e2 : (BitVec.ofInt 32 (x : Int) &&& BitVec.ofInt 32 (y : Int)).toNat = x &&& y := by
  rw [BitVec.toNat_and, BitVec.toNat_ofInt, BitVec.toNat_ofInt]; congr 1 <;> omega
 rw [e, e2]; exact IntWalk.u32_in _ ⟨by omega, by omega⟩
theorem u8m (n : Int) : IntKind.u8.wrap n = n % 256 := by simp [IntKind.wrap, IntKind.bits, IntKind.signed]
theorem bzl (n : Int) : IntKind.u32.wrap n = n % 4294967296 := by simp [IntKind.wrap, IntKind.bits, IntKind.signed]
theorem bnc (n : Int) : IntKind.u64.wrap n = n % 18446744073709551616 := by simp [IntKind.wrap, IntKind.bits, IntKind.signed]
theorem xor_zero {x y : Nat} : x ^^^ y = 0 ↔ x = y := by
 constructor
 ·intro h
  have : (x ^^^ y) ^^^ y = x := by rw [Nat.xor_assoc, Nat.xor_self, Nat.xor_zero]
  rw [h, Nat.zero_xor] at this
  exact this.symm
 ·rintro rfl; exact Nat.xor_self _
theorem bjo (a x i : Nat) (hx : x < 2 ^ i) : (a * 2 ^ i) ||| x = a * 2 ^ i + x := by
 rw [← Nat.shiftLeft_eq, Nat.shiftLeft_add_eq_or_of_lt hx]
end Q
end

section
/- Numbers and their digits, the lowest first. -/
namespace Q
open Go Go.Abs
set_option linter.unusedVariables false
def T (w : Nat) : List Int → Nat
 | [] => 0
 | x :: l => x.toNat % 2 ^ w + 2 ^ w * T w l
theorem p2 (n : Nat) : 0 < 2 ^ n := Nat.pow_pos (by omega)
theorem b0z (w : Nat) : ∀ l : List Int, T w l < 2 ^ (w * l.length)
 | [] => by simp [T]
 | x :: l => by
  have ih := b0z w l
  have h1 := Nat.mod_lt x.toNat (p2 w)
  rw [List.length_cons, Nat.mul_succ, Nat.add_comm, Nat.pow_add]
  simp only [T]
  have : 2 ^ w * (T w l + 1) ≤ 2 ^ w * 2 ^ (w * l.length) := Nat.mul_le_mul (Nat.le_refl _) ih
  rw [Nat.mul_add] at this
  omega
theorem bd8 (w : Nat) : ∀ a b : List Int, T w (a ++ b) = T w a + 2 ^ (w * a.length) * T w b
 | [], b => by simp [T]
 | x :: a, b => by
  rw [List.cons_append, T, T, bd8 w a b, List.length_cons, Nat.mul_succ, Nat.add_comm (w * a.length) w, Nat.pow_add, Nat.mul_add, Nat.mul_assoc]
  omega
theorem bxy (w : Nat) (l : List Int) (k : Nat) (h : k ≤ l.length) : T w l = T w (l.take k) + 2 ^ (w * k) * T w (l.drop k) := by
 have := bd8 w (l.take k) (l.drop k)
 rw [List.take_append_drop, List.length_take, Nat.min_eq_left h] at this
 exact this
theorem bcs (w : Nat) (l : List Int) (k : Nat) (h : k ≤ l.length) : T w (l.drop k) = T w l / 2 ^ (w * k) := by
 have := b0z w (l.take k)
 rw [List.length_take, Nat.min_eq_left h] at this
 rw [bxy w l k h, Nat.add_mul_div_left _ _ (p2 _), Nat.div_eq_of_lt this, Nat.zero_add]
theorem bxg (w : Nat) (l : List Int) (k : Nat) : T w l / 2 ^ (w * k) % 2 ^ w = (l.getD k 0).toNat % 2 ^ w := by
 by_cases h : k < l.length
 ·rw [← bcs w l k (by omega), afn l 0 k h, T, Nat.add_mul_mod_self_left, Nat.mod_mod]
 ·rw [bho (by omega), Nat.div_eq_of_lt]
  ·rfl
  ·exact Nat.lt_of_lt_of_le (b0z w l) (Nat.pow_le_pow_right (by omega) (Nat.mul_le_mul (Nat.le_refl _) (by omega)))
theorem tu {X Y ρ : Type} {stp : X → (X → Option ρ) → (Y → Option ρ) → Option ρ} {K : Y → Option ρ} {r : Option ρ} (S : Nat → X) (n : Nat) {x : X} (hx : x = S 0)
    (hstep : ∀ i, i < n → ∀ next, next (S (i + 1)) = r → stp (S i) next K = r) (hend : ∀ next, stp (S n) next K = r) (hn : n ≤ 18446744073709551616) : lp stp x K = r := by
 rw [hx]; exact bou S n hstep hend (Nat.zero_le _) hn
def bsw (w n X : Nat) : List Int := (List.range n).map fun i => ((X / 2 ^ (w * i) % 2 ^ w : Nat) : Int)
@[simp] theorem abb (w n X : Nat) : (bsw w n X).length = n := by simp [bsw]
theorem bjm (w n X i : Nat) (h : i < n) : (bsw w n X).getD i 0 = ((X / 2 ^ (w * i) % 2 ^ w : Nat) : Int) := by
 rw [getD_lt (by simpa using h)]; simp [bsw]
theorem bdv (w n X : Nat) : bsw w (n + 1) X = bsw w n X ++ [((X / 2 ^ (w * n) % 2 ^ w : Nat) : Int)] := by simp [bsw, List.range_succ]
theorem bi7 (w n X : Nat) : In (2 ^ w) (bsw w n X) := by
 refine In.map (fun i _ => ⟨Int.natCast_nonneg _, ?_⟩)
 have := Nat.mod_lt (X / 2 ^ (w * i)) (p2 w)
 have e : ((2 : Int) ^ w) = ((2 ^ w : Nat) : Int) := by simp
 rw [e]; omega
theorem bzt (w X : Nat) : ∀ n, T w (bsw w n X) = X % 2 ^ (w * n)
 | 0 => by simp [bsw, T, Nat.mod_one]
 | n + 1 => by
  rw [bdv, bd8, bzt w X n, abb, Nat.mul_succ, Nat.pow_add, Nat.mod_mul]
  simp only [T, Int.toNat_natCast, Nat.mod_mod, Nat.mul_zero, Nat.add_zero]
theorem bfc (X h w m : Nat) (hm : h + w ≤ m) : X % 2 ^ m / 2 ^ h % 2 ^ w = X / 2 ^ h % 2 ^ w := by
 have e : (2 : Nat) ^ m = 2 ^ h * (2 ^ w * 2 ^ (m - (h + w))) := by rw [← Nat.pow_add, ← Nat.pow_add]; congr 1; omega
 rw [e, Nat.mod_mul_right_div_self, Nat.mod_mul_right_mod]
theorem bik (X h w a b : Nat) (hb : a + b ≤ w) : X / 2 ^ h % 2 ^ w / 2 ^ a % 2 ^ b = X / 2 ^ (h + a) % 2 ^ b := by
 rw [bfc _ _ _ _ hb, Nat.div_div_eq_div_mul, ← Nat.pow_add]
theorem bpj (X h w a : Nat) : X / 2 ^ h % 2 ^ w + 2 ^ w * (X / 2 ^ (h + w) % 2 ^ a) = X / 2 ^ h % 2 ^ (w + a) := by
 rw [Nat.pow_add 2 w a, Nat.mod_mul, Nat.pow_add, Nat.div_div_eq_div_mul]
end Q
end





section
/- bits: Unpack. -/
namespace Q
open Go Go.Abs
set_option linter.unusedVariables false
set_option linter.unusedSimpArgs false
def Such (n : Nat) (w c : Int) : Prop := 1 ≤ w ∧ w ≤ 24 ∧ 0 ≤ c ∧ c * w ≤ n * 8
instance (n : Nat) (w c : Int) : Decidable (Such n w c) := inferInstanceAs (Decidable (_ ∧ _))
theorem bl5 (n : Nat) (w c : Int) (hn : n ≤ 1000000) {ρ : Type} (k : Bool → Option ρ) :
    br (decide (w ≥ (1 : Int))) (br (decide (w ≤ (24 : Int))) (br (decide (c ≥ (0 : Int))) (br (decide (w = (0 : Int))) none
     (k (decide (c ≤ IntKind.i64.wrap ((IntKind.i64.wrap ((↑n : Int) * (8 : Int))).tdiv w))))) (k false)) (k false)) (k false) = k (decide (Such n w c)) := by
 by_cases h1 : w ≥ 1
 ·by_cases h2 : w ≤ 24
  ·by_cases h3 : c ≥ 0
   ·rw [bg h1, bg h2, bg h3, dn (by omega)]
    congr 1
    have e0 : ((n : Int) * 8).tdiv w = (n : Int) * 8 / w := Int.tdiv_eq_ediv_of_nonneg (by omega)
    have e1 : (n : Int) * 8 / w ≤ n * 8 := Int.ediv_le_self _ (by omega)
    have e2 : 0 ≤ (n : Int) * 8 / w := Int.ediv_nonneg (by omega) (by omega)
    rw [ni (x := (n : Int) * 8) (by omega) (by omega), e0, ni (by omega) (by omega)]
    apply decide_eq_decide.2
    rw [Int.le_ediv_iff_mul_le (by omega)]
    unfold Such
    omega
   ·rw [bg h1, bg h2, dn h3, decide_eq_false (fun h => h3 h.2.2.1)]
  ·rw [bg h1, dn h2, decide_eq_false (fun h => h2 h.2.1)]
 ·rw [dn h1, decide_eq_false (fun h => h1 h.1)]
theorem adg (b : List Int) (w c : Int) (hn : b.length ≤ 1000000) {ρ : Type} (k : Bool → Option ρ) : P.adg b w c k = k (decide (Such b.length w c)) := by
 rw [P.awh]; exact bl5 b.length w c hn k
theorem ae5 (b : List Int) (w c : Int) (hn : b.length ≤ 1000000) {ρ : Type} (k : Bool → Option ρ) : P.ae5 b w c k = k (decide (Such b.length w c)) := by
 rw [P.axh]; exact bl5 b.length w c hn k
theorem fdiv_pow (a n m : Nat) (h : n ≤ m) : (a : Int).fdiv ((2 : Int) ^ min n m) = ((a / 2 ^ n : Nat) : Int) := by
 rw [Nat.min_eq_left h, show ((2 : Int) ^ n) = ((2 ^ n : Nat) : Int) by simp, ← Int.ofNat_fdiv]
theorem mul_pow (a n m : Nat) (h : n ≤ m) : (a : Int) * ((2 : Int) ^ min n m) = ((a * 2 ^ n : Nat) : Int) := by
 rw [Nat.min_eq_left h, show ((2 : Int) ^ n) = ((2 ^ n : Nat) : Int) by simp, ← Int.natCast_mul]
theorem afr (a : Nat) (h : a < 18446744073709551616) : IntKind.u64.wrap (a : Int) = (a : Int) := by rw [bnc]; omega
theorem bom (a : Nat) (h : a < 4294967296) : IntKind.u32.wrap (a : Int) = (a : Int) := by rw [bzl]; omega
theorem u8n (a : Nat) (h : a < 256) : IntKind.u8.wrap (a : Int) = (a : Int) := by rw [u8m]; omega
theorem bkx {a b : Nat} (h : a ≤ b) : 2 ^ a ≤ 2 ^ b := Nat.pow_le_pow_right (by omega) h
theorem brn (w : Nat) (h : w ≤ 24) : IntKind.u64.wrap (IntKind.u64.wrap ((1 : Int) * (2 : Int) ^ min w 64) - (1 : Int)) = ((2 ^ w - 1 : Nat) : Int) := by
 have h1 := p2 w
 have h2 : 2 ^ w ≤ 2 ^ 24 := bkx h
 rw [show (1 : Int) = ((1 : Nat) : Int) from rfl, mul_pow 1 w 64 (by omega), afr _ (by omega), show ((1 * 2 ^ w : Nat) : Int) - ((1 : Nat) : Int) = ((2 ^ w - 1 : Nat) : Int) by omega, afr _ (by omega)]
theorem bk0 (x w : Nat) (hx : x < 18446744073709551616) (h : w ≤ 24) : bits .and .u64 (x : Int) (IntKind.u64.wrap (IntKind.u64.wrap ((1 : Int) * (2 : Int) ^ min w 64) - (1 : Int))) = ((x % 2 ^ w : Nat) : Int) := by
 have h2 : 2 ^ w ≤ 2 ^ 24 := bkx h
 rw [brn w h, aq2 _ _ hx (by omega), Nat.and_two_pow_sub_one_eq_mod]
def aa2 (n : Nat) : Nat := (n + 7) / 8
theorem bjq (n : Nat) : n ≤ 8 * aa2 n := by unfold aa2; omega
theorem bj4 (n : Nat) : 8 * aa2 n < n + 8 := by unfold aa2; omega
theorem byte_at {b : List Int} (hb : In 256 b) (t : Nat) : ∃ x : Nat, b.getD t 0 = (x : Int) ∧ x < 256 ∧ x = (b.getD t 0).toNat % 2 ^ 8 := by
 have := hb.getD t (by omega)
 exact ⟨(b.getD t 0).toNat, by omega, by omega, by omega⟩
end Q
end

section
/- Words of 32 and of 64 bits. -/
namespace Q
open Go Go.Abs
set_option linter.unusedVariables false
set_option linter.unusedSimpArgs false
theorem ofI {w : Nat} (x : BitVec w) : BitVec.ofInt w (x.toNat : Int) = x := by simp
theorem aw4 (x : BitVec 32) : x.toNat < 4294967296 := x.isLt
theorem bqm (x : BitVec 64) : x.toNat < 18446744073709551616 := x.isLt
theorem bdd (x y : BitVec 32) : bits .xor .u32 (x.toNat : Int) (y.toNat : Int) = ((x ^^^ y).toNat : Int) := by
 have e : bits .xor .u32 (x.toNat : Int) (y.toNat : Int) = IntKind.u32.wrap ((BitVec.ofInt 32 (x.toNat : Int) ^^^ BitVec.ofInt 32 (y.toNat : Int)).toNat : Int) := rfl
 rw [e, ofI, ofI, bom _ (aw4 _)]
theorem b3y (x y : BitVec 32) : bits .and .u32 (x.toNat : Int) (y.toNat : Int) = ((x &&& y).toNat : Int) := by
 have e : bits .and .u32 (x.toNat : Int) (y.toNat : Int) = IntKind.u32.wrap ((BitVec.ofInt 32 (x.toNat : Int) &&& BitVec.ofInt 32 (y.toNat : Int)).toNat : Int) := rfl
 rw [e, ofI, ofI, bom _ (aw4 _)]
theorem cde (x y : BitVec 32) : bits .or .u32 (x.toNat : Int) (y.toNat : Int) = ((x ||| y).toNat : Int) := by
 have e : bits .or .u32 (x.toNat : Int) (y.toNat : Int) = IntKind.u32.wrap ((BitVec.ofInt 32 (x.toNat : Int) ||| BitVec.ofInt 32 (y.toNat : Int)).toNat : Int) := rfl
 rw [e, ofI, ofI, bom _ (aw4 _)]
theorem add32 (x y : BitVec 32) : IntKind.u32.wrap ((x.toNat : Int) + (y.toNat : Int)) = ((x + y).toNat : Int) := by
 rw [bzl, BitVec.toNat_add]; omega
theorem alx (x y : BitVec 64) : bits .xor .u64 (x.toNat : Int) (y.toNat : Int) = ((x ^^^ y).toNat : Int) := by
 have e : bits .xor .u64 (x.toNat : Int) (y.toNat : Int) = IntKind.u64.wrap ((BitVec.ofInt 64 (x.toNat : Int) ^^^ BitVec.ofInt 64 (y.toNat : Int)).toNat : Int) := rfl
 rw [e, ofI, ofI, afr _ (bqm _)]
theorem bh7 (x y : BitVec 64) : bits .and .u64 (x.toNat : Int) (y.toNat : Int) = ((x &&& y).toNat : Int) := by
 have e : bits .and .u64 (x.toNat : Int) (y.toNat : Int) = IntKind.u64.wrap ((BitVec.ofInt 64 (x.toNat : Int) &&& BitVec.ofInt 64 (y.toNat : Int)).toNat : Int) := rfl
 rw [e, ofI, ofI, afr _ (bqm _)]
theorem b2a (x y : BitVec 64) : bits .or .u64 (x.toNat : Int) (y.toNat : Int) = ((x ||| y).toNat : Int) := by
 have e : bits .or .u64 (x.toNat : Int) (y.toNat : Int) = IntKind.u64.wrap ((BitVec.ofInt 64 (x.toNat : Int) ||| BitVec.ofInt 64 (y.toNat : Int)).toNat : Int) := rfl
 rw [e, ofI, ofI, afr _ (bqm _)]
theorem am4 (x y : BitVec 64) : IntKind.u64.wrap ((x.toNat : Int) + (y.toNat : Int)) = ((x + y).toNat : Int) := by
 rw [bnc, BitVec.toNat_add]; omega
theorem bhy (x y : Nat) (hx : x < 18446744073709551616) (hy : y < 18446744073709551616) : bits .xor .u64 (x : Int) (y : Int) = ((x ^^^ y : Nat) : Int) := by
 have := alx (BitVec.ofNat 64 x) (BitVec.ofNat 64 y)
 rw [BitVec.toNat_xor, BitVec.toNat_ofNat, BitVec.toNat_ofNat, Nat.mod_eq_of_lt (by omega), Nat.mod_eq_of_lt (by omega)] at this
 exact this
/- words of 32 bits as numbers of 64 -/
theorem nlt (x : BitVec 32) : x.toNat < 18446744073709551616 := by have := aw4 x; omega
theorem bry (x y : BitVec 32) : bits .xor .u64 (x.toNat : Int) (y.toNat : Int) = ((x ^^^ y).toNat : Int) := by rw [bhy _ _ (nlt x) (nlt y), BitVec.toNat_xor]
theorem nand (x y : BitVec 32) : bits .and .u64 (x.toNat : Int) (y.toNat : Int) = ((x &&& y).toNat : Int) := by rw [aq2 _ _ (nlt x) (nlt y), BitVec.toNat_and]
theorem nor (x y : BitVec 32) : bits .or .u64 (x.toNat : Int) (y.toNat : Int) = ((x ||| y).toNat : Int) := by rw [bnt _ _ (nlt x) (nlt y), BitVec.toNat_or]
theorem bmi (n : Nat) (h : n < 18446744073709551616) : bits .and .u64 (n : Int) 4294967295 = ((n % 4294967296 : Nat) : Int) := by
 rw [show (4294967295 : Int) = ((2 ^ 32 - 1 : Nat) : Int) from rfl, aq2 _ _ h (by omega), Nat.and_two_pow_sub_one_eq_mod]
theorem bq5 (n : Nat) (h : n < 18446744073709551616) : bits .and .u64 (n : Int) 18446744073709551615 = (n : Int) := by
 rw [show (18446744073709551615 : Int) = ((2 ^ 64 - 1 : Nat) : Int) from rfl, aq2 _ _ h (by omega), Nat.and_two_pow_sub_one_eq_mod, Nat.mod_eq_of_lt (by omega)]
def rr {w : Nat} (x : BitVec w) (n : Nat) : BitVec w := (x >>> n) ||| (x <<< (w - n))
theorem azk {w : Nat} (x : BitVec w) (n : Nat) : (x >>> n).toNat = x.toNat / 2 ^ n := by rw [BitVec.toNat_ushiftRight, Nat.shiftRight_eq_div_pow]
theorem ay1 {w : Nat} (x : BitVec w) (n : Nat) : (x <<< n).toNat = x.toNat * 2 ^ n % 2 ^ w := by rw [BitVec.toNat_shiftLeft, Nat.shiftLeft_eq]
theorem bsj (x : BitVec 32) (n : Nat) (h : n ≤ 32) : (x.toNat : Int).fdiv ((2 : Int) ^ min n 32) = ((x >>> n).toNat : Int) := by rw [fdiv_pow _ _ _ h, azk]
theorem b8s (x : BitVec 32) (n : Nat) (h : n ≤ 32) : IntKind.u32.wrap ((x.toNat : Int) * (2 : Int) ^ min n 32) = ((x <<< n).toNat : Int) := by
 rw [mul_pow _ _ _ h, bzl, ay1]; omega
theorem bky (x : BitVec 64) (n : Nat) (h : n ≤ 64) : (x.toNat : Int).fdiv ((2 : Int) ^ min n 64) = ((x >>> n).toNat : Int) := by rw [fdiv_pow _ _ _ h, azk]
theorem bti (x : BitVec 64) (n : Nat) (h : n ≤ 64) : IntKind.u64.wrap ((x.toNat : Int) * (2 : Int) ^ min n 64) = ((x <<< n).toNat : Int) := by
 rw [mul_pow _ _ _ h, bnc, ay1]; omega
theorem cc0 (x : BitVec 32) (n : Nat) (h : n ≤ 64) : (x.toNat : Int).fdiv ((2 : Int) ^ min n 64) = ((x >>> n).toNat : Int) := by rw [fdiv_pow _ _ _ h, azk]
theorem nshl (x : BitVec 32) (n : Nat) (h : n ≤ 32) : bits .and .u64 (IntKind.u64.wrap ((x.toNat : Int) * (2 : Int) ^ min n 64)) 4294967295 = ((x <<< n).toNat : Int) := by
 have h1 := aw4 x
 have h2 : 2 ^ n ≤ 2 ^ 32 := bkx h
 have h3 : x.toNat * 2 ^ n ≤ 4294967295 * 2 ^ 32 := Nat.mul_le_mul (by omega) h2
 rw [mul_pow _ _ _ (by omega), afr _ (by omega), bmi _ (by omega), ay1]
theorem b0r {w : Nat} (e f g : BitVec w) : (e &&& f) ^^^ ((BitVec.allOnes w ^^^ e) &&& g) = g ^^^ (e &&& (f ^^^ g)) := by
 ext i hi
 simp
 cases e[i] <;> cases f[i] <;> cases g[i] <;> rfl
theorem br9 {w : Nat} (a b c : BitVec w) : ((a &&& b) ^^^ (a &&& c)) ^^^ (b &&& c) = (a &&& b) ||| (c &&& (a ||| b)) := by
 ext i hi
 simp
 cases a[i] <;> cases b[i] <;> cases c[i] <;> rfl
end Q
end

section
/- keccak: 25 words by a function of their number; the program's round and the document's. -/
namespace QK
open Q
open Go Go.Abs
set_option linter.unusedVariables false
set_option linter.unusedSimpArgs false
set_option maxRecDepth 100000
def L25 (f : Nat → Int) : List Int := (List.range 25).map f
def X (a b : Int) : Int := bits .xor .u64 a b
def Rl (a : Int) (n : Nat) : Int := bits .or .u64 (IntKind.u64.wrap (a * 2 ^ min n 64)) (a.fdiv (2 ^ min (64 - n) 64))
def cP (f : Nat → Int) (j : Nat) : Int := X (X (X (X (f j) (f (j + 5))) (f (j + 10))) (f (j + 15))) (f (j + 20))
def thP (f : Nat → Int) (i : Nat) : Int := X (f i) (X (cP f ((i + 4) % 5)) (Rl (cP f ((i + 1) % 5)) 1))
def psT : List Nat := [0, 6, 12, 18, 24, 3, 9, 10, 16, 22, 1, 7, 13, 19, 20, 4, 5, 11, 17, 23, 2, 8, 14, 15, 21]
def rsT : List Nat := [0, 44, 43, 21, 14, 28, 20, 3, 45, 61, 1, 6, 25, 8, 18, 27, 36, 10, 15, 56, 62, 55, 39, 41, 2]
def piP (f : Nat → Int) (i : Nat) : Int := bif Nat.beq i 0 then f 0 else Rl (f (psT.getD i 0)) (rsT.getD i 0)
def chP (f : Nat → Int) (i : Nat) : Int := X (f i) (bits .andNot .u64 (f (i / 5 * 5 + (i + 2) % 5)) (f (i / 5 * 5 + (i + 1) % 5)))
def s0 (x : Int) (f : Nat → Int) (i : Nat) : Int := bif Nat.beq i 0 then x else f i
theorem bgs (n : Nat) (h : n ≤ 1000) : ∃ m, FU = m + n := ⟨FU - n, by have := bso; omega⟩
theorem b62 (f : Nat → Int) (h1 : List Int) {ρ : Type} (k : Int → List Int → List Int → List Int → Option ρ) :
    P.aee 0 h1 (L25 f) [0, 0, 0, 0, 0] k = k 5 h1 (L25 f) [cP f 0, cP f 1, cP f 2, cP f 3, cP f 4] := by
 obtain ⟨m, hm⟩ := bgs 6 (by omega)
 rw [P.am7]
 unfold P.aje P.zk8 P.zs8 P.zu8 P.ain lp
 rw [hm]
 kernel_rfl
theorem bvb (c : Int) (f : Nat → Int) (h1 h2 : List Int) {ρ : Type} (k : Int → Int → List Int → List Int → List Int → List Int → Option ρ) :
    P.aeh c 0 (L25 f) h1 h2 [cP f 0, cP f 1, cP f 2, cP f 3, cP f 4] k = k c 5 (L25 (thP f)) h1 h2 [cP f 0, cP f 1, cP f 2, cP f 3, cP f 4] := by
 obtain ⟨m, hm⟩ := bgs 6 (by omega)
 rw [P.am9]
 unfold P.ai0 P.b3f P.by3 P.cbd P.aiy
 simp only [P.acd, P.abt, P.zk9, P.zu9, P.abl, P.ru, P.o7, lp, hm]; (try delta P.zs9); (try simp only [P.acd, P.abt, P.zk9, P.zu9, P.abl, P.ru, P.o7, lp, hm]); (try delta P.zs9); (try simp only [P.acd, P.abt, P.zk9, P.zu9, P.abl, P.ru, P.o7, lp, hm])
 kernel_rfl
theorem rhoP (c : Int) (f : Nat → Int) (h1 h2 h3 : List Int) {ρ : Type} (k : Int → Int → List Int → Int → List Int → List Int → List Int → List Int → Option ρ) :
    P.ad4 c ((L25 f).getD 1 0) P.bu0 0 h3 h2 h1 (L25 f) k = k c (f 1) P.bu0 24 h3 h2 h1 (L25 (piP f)) := by
 obtain ⟨m, hm⟩ := bgs 25 (by omega)
 rw [P.alv]
 unfold P.ahl P.b2j P.bwk P.b4y P.ahm
 simp only [P.ru, P.o7, lp, hm]
 kernel_rfl
theorem chiP (c : Int) (f : Nat → Int) (h1 h2 h3 : List Int) {ρ : Type} (k : Int → Int → List Int → List Int → List Int → List Int → Option ρ) :
    P.ad7 c 0 (L25 f) h1 h2 h3 k = k c 25 (L25 (chP f)) h1 h2 h3 := by
 obtain ⟨m, hm⟩ := bgs 6 (by omega)
 rw [P.ame]
 unfold P.ahk P.b28 P.bxw P.b58 P.ahp
 simp only [P.abr, P.aa5, P.buu, P.bx6, P.aa3, lp, hm]; (try delta P.zs12); (try simp only [P.abr, P.aa5, P.buu, P.bx6, P.aa3, lp, hm]); (try delta P.zs12); (try simp only [P.abr, P.aa5, P.buu, P.bx6, P.aa3, lp, hm])
 kernel_rfl
theorem set0 (x : Int) (f : Nat → Int) : (L25 f).set 0 x = L25 (s0 x f) := by kernel_rfl
theorem cct (f : Nat → Int) : (L25 f).getD 0 0 = f 0 := by kernel_rfl
def cR (f : Nat → Int) (j : Nat) : Int := X (X (X (X (X 0 (f j)) (f (j + 5))) (f (j + 10))) (f (j + 15))) (f (j + 20))
def thR (f : Nat → Int) (i : Nat) : Int := X (X (f i) (cR f ((i + 4) % 5))) (Rl (cR f ((i + 1) % 5)) 1)
def chR (f : Nat → Int) (i : Nat) : Int := X (f i) (bits .and .u64 (X (f (i / 5 * 5 + (i + 1) % 5)) 18446744073709551615) (f (i / 5 * 5 + (i + 2) % 5)))
theorem bt5 (f : Nat → Int) {ρ : Type} (k : List Int → Option ρ) : P.ado (L25 f) k = k (L25 (thR f)) := by
 obtain ⟨m, hm⟩ := bgs 26 (by omega)
 rw [P.ar4]
 unfold P.ajw
 simp only [P.ahd, P.ah1, P.bu9, P.byh, P.aht, P.ag7, P.ah4, P.bu6, P.bwu, P.ahv, P.ael, P.abj, lp, hm]; (try delta P.bva P.bu1); (try simp only [P.ahd, P.ah1, P.bu9, P.byh, P.aht, P.ag7, P.ah4, P.bu6, P.bwu, P.ahv, P.ael, P.abj, lp, hm]); (try delta P.bva P.bu1); (try simp only [P.ahd, P.ah1, P.bu9, P.byh, P.aht, P.ag7, P.ah4, P.bu6, P.bwu, P.ahv, P.ael, P.abj, lp, hm])
 kernel_rfl
theorem b5b (f : Nat → Int) {ρ : Type} (k : List Int → Option ρ) : P.ahu (L25 f) k = k (L25 (piP f)) := by
 obtain ⟨m, hm⟩ := bgs 25 (by omega)
 rw [P.ayy]
 unfold P.aok
 simp only [P.ajz, P.ami, P.bu7, P.b0f, P.aly, P.ael, P.abj, lp, hm]; (try delta P.bus); (try simp only [P.ajz, P.ami, P.bu7, P.b0f, P.aly, P.ael, P.abj, lp, hm]); (try delta P.bus); (try simp only [P.ajz, P.ami, P.bu7, P.b0f, P.aly, P.ael, P.abj, lp, hm])
 kernel_rfl
theorem chiR (v : Int) (f g : Nat → Int) (h1 h2 : List Int) {ρ : Type} (k : Int → Int → List Int → List Int → List Int → List Int → Option ρ) :
    P.aj9 v 0 h2 h1 (L25 g) (L25 f) k = k v 25 h2 h1 (L25 (chR f)) (L25 f) := by
 obtain ⟨m, hm⟩ := bgs 26 (by omega)
 rw [P.aud]
 unfold P.ap9 P.b2p P.bzm P.b5y P.ap5
 simp only [lp, hm]
 kernel_rfl
theorem b0y {ρ : Type} (k : List Int → Option ρ) : P.y9 k = k P.blw := by
 obtain ⟨m, hm⟩ := bgs 169 (by omega)
 rw [P.amy]
 unfold P.af8
 simp only [P.aef, P.aeb, P.bu4, P.bwj, P.aea, lp, hm]; (try delta P.buv); (try simp only [P.aef, P.aeb, P.bu4, P.bwj, P.aea, lp, hm]); (try delta P.buv); (try simp only [P.aef, P.aeb, P.bu4, P.bwj, P.aea, lp, hm])
 kernel_rfl
end QK
end

section
/- keccak: the program's rounds are the document's. -/
namespace QK
open Q
open Go Go.Abs
set_option linter.unusedVariables false
set_option linter.unusedSimpArgs false
def U64 (x : Int) : Prop := 0 ≤ x ∧ x < 18446744073709551616
def Ws (f : Nat → Int) : Prop := ∀ i, U64 (f i)
theorem U64.bv {x : Int} (h : U64 x) : ∃ b : BitVec 64, x = (b.toNat : Int) := by
 obtain ⟨n, rfl⟩ := Int.eq_ofNat_of_zero_le h.1
 have h2 := h.2
 refine ⟨BitVec.ofNat 64 n, ?_⟩
 rw [BitVec.toNat_ofNat, Nat.mod_eq_of_lt (by omega)]
theorem bmw (b : BitVec 64) : U64 (b.toNat : Int) := by
 have := bqm b
 unfold U64
 omega
theorem btm (a b : BitVec 64) : X (a.toNat : Int) (b.toNat : Int) = ((a ^^^ b).toNat : Int) := alx a b
theorem X_U {a b : Int} (ha : U64 a) (hb : U64 b) : U64 (X a b) := by
 obtain ⟨x, rfl⟩ := ha.bv
 obtain ⟨y, rfl⟩ := hb.bv
 rw [btm]
 exact bmw _
theorem b06 {a : Int} (ha : U64 a) : X 0 a = a := by
 obtain ⟨x, rfl⟩ := ha.bv
 have := btm 0 x
 simpa using this
theorem bun {a b c : Int} (ha : U64 a) (hb : U64 b) (hc : U64 c) : X (X a b) c = X a (X b c) := by
 obtain ⟨x, rfl⟩ := ha.bv
 obtain ⟨y, rfl⟩ := hb.bv
 obtain ⟨z, rfl⟩ := hc.bv
 rw [btm, btm, btm, btm, BitVec.xor_assoc]
theorem b4s {a : Int} (ha : U64 a) (n : Nat) (hn : n ≤ 64) : U64 (Rl a n) := by
 obtain ⟨x, rfl⟩ := ha.bv
 unfold Rl
 rw [bti x n hn, bky x (64 - n) (by omega), b2a]
 exact bmw _
theorem bko (x y : BitVec 64) : bits .andNot .u64 (x.toNat : Int) (y.toNat : Int) = ((x &&& ~~~y).toNat : Int) := by
 have e : bits .andNot .u64 (x.toNat : Int) (y.toNat : Int) = IntKind.u64.wrap ((BitVec.ofInt 64 (x.toNat : Int) &&& ~~~BitVec.ofInt 64 (y.toNat : Int)).toNat : Int) := rfl
 rw [e, ofI, ofI, afr _ (bqm _)]
theorem bs8 {a b : Int} (ha : U64 a) (hb : U64 b) : bits .and .u64 (X a 18446744073709551615) b = bits .andNot .u64 b a := by
 obtain ⟨x, rfl⟩ := ha.bv
 obtain ⟨y, rfl⟩ := hb.bv
 have h1 : (18446744073709551615 : Int) = ((BitVec.allOnes 64).toNat : Int) := by decide
 rw [h1, btm, bh7, bko, BitVec.xor_allOnes, BitVec.and_comm]
theorem bpi {a b : Int} (ha : U64 a) (hb : U64 b) : U64 (bits .andNot .u64 a b) := by
 obtain ⟨x, rfl⟩ := ha.bv
 obtain ⟨y, rfl⟩ := hb.bv
 rw [bko]
 exact bmw _
theorem b2h {f : Nat → Int} (h : Ws f) (j : Nat) : U64 (cP f j) := X_U (X_U (X_U (X_U (h _) (h _)) (h _)) (h _)) (h _)
theorem b0q {f : Nat → Int} (h : Ws f) (j : Nat) : cR f j = cP f j := by unfold cR cP; rw [b06 (h j)]
theorem bzr {f : Nat → Int} (h : Ws f) : Ws (thP f) := fun i => X_U (h i) (X_U (b2h h _) (b4s (b2h h _) 1 (by omega)))
theorem bvk {f : Nat → Int} (h : Ws f) : thR f = thP f := by
 funext i
 unfold thR thP
 rw [b0q h, b0q h, bun (h i) (b2h h _) (b4s (b2h h _) 1 (by omega))]
theorem b85 (i : Nat) : rsT.getD i 0 ≤ 64 := by
 by_cases hi : i < 25
 ·have : ∀ i, i < 25 → rsT.getD i 0 ≤ 64 := by decide
  exact this i hi
 ·rw [bho (by simp [rsT]; omega)]; omega
theorem bzy {f : Nat → Int} (h : Ws f) : Ws (piP f) := fun i => by
 unfold piP
 cases Nat.beq i 0 with
 | true => exact h 0
 | false => exact b4s (h _) _ (b85 i)
theorem bw1 {f : Nat → Int} (h : Ws f) : chR f = chP f := by
 funext i
 unfold chR chP
 rw [bs8 (h _) (h _)]
theorem b3x {f : Nat → Int} (h : Ws f) : Ws (chP f) := fun i => X_U (h i) (bpi (h _) (h _))
theorem s0_U {f : Nat → Int} {x : Int} (h : Ws f) (hx : U64 x) : Ws (s0 x f) := fun i => by
 unfold s0
 cases Nat.beq i 0 with
 | true => exact hx
 | false => exact h i
def rnd (c : Int) (f : Nat → Int) : Nat → Int := s0 (X (chP (piP (thP f)) 0) c) (chP (piP (thP f)))
theorem b79 {f : Nat → Int} {c : Int} (h : Ws f) (hc : U64 c) : Ws (rnd c f) := by
 have h2 := b3x (bzy (bzr h))
 exact s0_U h2 (X_U (h2 0) hc)
def btf (f : Nat → Int) : Nat → Nat → Int
 | 0 => f
 | n + 1 => rnd (P.blw.getD n 0) (btf f n)
theorem bww (n : Nat) : U64 (P.blw.getD n 0) := by
 by_cases hn : n < 24
 ·have : ∀ n, n < 24 → (0 ≤ P.blw.getD n 0 ∧ P.blw.getD n 0 < 18446744073709551616) := by decide +kernel
  exact this n hn
 ·have hl : P.blw.length = 24 := by decide +kernel
  rw [bho (by omega)]
  exact ⟨by decide, by decide⟩
theorem boy {f : Nat → Int} (h : Ws f) : ∀ n, Ws (btf f n)
 | 0 => h
 | n + 1 => b79 (boy h n) (bww n)
theorem jf (f : Nat → Int) {ρ : Type} (k : List Int → Option ρ) : P.jf (L25 f) k = k (L25 (btf f 24)) := by
 rw [P.akr]; unfold P.aez
 rw [P.apg]; unfold P.ak2 P.b2w P.byl P.b6t
 refine tu (fun i => (P.blw, (i : Int), L25 (btf f i), [(0 : Int), 0, 0, 0, 0, 0, 0, 0, 0, 0, 0, 0, 0, 0, 0, 0, 0, 0, 0, 0, 0, 0, 0, 0, 0])) 24 rfl (fun i hi next hn => ?_) (fun next => ?_) (by omega)
 ·simp only [P.af9, toNat_cast]
  rw [bg (by omega), bg (by omega), bg (by omega), b62, bvb, rhoP, chiP, cct, set0, ni (by omega) (by omega)]
  exact hn
 ·simp only [P.af9]
  rw [dn (by omega)]
theorem o9 {f : Nat → Int} (h : Ws f) {ρ : Type} (k : List Int → Option ρ) : P.o9 (L25 f) k = k (L25 (btf f 24)) := by
 rw [P.apl]; unfold P.ait
 rw [b0y, P.aur]; unfold P.apx P.b1z P.byc P.b7r
 refine tu (fun i => ((i : Int), L25 (btf f i), [(0 : Int), 0, 0, 0, 0, 0, 0, 0, 0, 0, 0, 0, 0, 0, 0, 0, 0, 0, 0, 0, 0, 0, 0, 0, 0], P.blw)) 24 rfl (fun i hi next hn => ?_) (fun next => ?_) (by omega)
 ·have hU := boy h i
  simp only [P.ajy]
  rw [bg (by omega), bt5, b5b, chiR, bg (by omega), bg (by omega), cct, set0, toNat_cast, ni (by omega) (by omega), bvk hU, bw1 (bzy (bzr hU))]
  exact hn
 ·simp only [P.ajy]
  rw [dn (by omega)]
theorem bl8 (f : Nat → Int) : (L25 f).length = 25 := by simp [L25]
theorem brq (l : List Int) (h : l.length = 25) : l = L25 fun i => l.getD i 0 := by
 apply List.ext_getElem
 ·rw [bl8, h]
 ·intro i h1 h2
  simp only [L25, List.getElem_map, List.getElem_range]
  exact (getD_lt h1).symm
end QK
end

section
/- bits: Unpack, as the document has it. -/
namespace Q
open Go Go.Abs
set_option linter.unusedVariables false
set_option linter.unusedSimpArgs false
theorem td8 (p : Nat) : (p : Int).tdiv 8 = ((p / 8 : Nat) : Int) := by rw [Int.tdiv_eq_ediv_of_nonneg (by omega)]; omega
theorem tm8 (p : Nat) : (p : Int).tmod 8 = ((p % 8 : Nat) : Int) := by rw [Int.tmod_eq_emod_of_nonneg (by omega)]; omega
theorem wmul (i w : Nat) (h : w * i ≤ 9223372036854775807) : IntKind.i64.wrap ((i : Int) * (w : Int)) = ((w * i : Nat) : Int) := by
 rw [← Int.natCast_mul, Nat.mul_comm, ni (by omega) (by omega)]
theorem b0n (x s : Nat) (hx : x < 256) (hs : s ≤ 8) : bits .and .u8 ((x : Int).fdiv ((2 : Int) ^ min s 8)) 1 = ((x / 2 ^ s % 2 : Nat) : Int) := by
 have := Nat.div_le_self x (2 ^ s)
 rw [fdiv_pow x s 8 hs, show (1 : Int) = ((1 : Nat) : Int) from rfl, byg _ _ (by omega) (by omega), Nat.and_one_is_mod]
theorem buh (v x : Nat) (hv : v < 16777216) (hx : x < 2) : IntKind.u32.wrap (IntKind.u32.wrap ((v : Int) * 2) + IntKind.u32.wrap (x : Int)) = ((x + 2 * v : Nat) : Int) := by
 rw [bom x (by omega), show (v : Int) * 2 = ((v * 2 : Nat) : Int) by omega, bom _ (by omega), ← Int.natCast_add, bom _ (by omega)]; omega
theorem bxi (V h j : Nat) : V / 2 ^ h % 2 + 2 * (V / 2 ^ (h + 1) % 2 ^ j) = V / 2 ^ h % 2 ^ (j + 1) := by
 have := bpj V h 1 j
 rw [Nat.add_comm j 1]; exact this
end Q
end

section
/- bits: Digits. -/
namespace Q
open Go Go.Abs
set_option linter.unusedVariables false
set_option linter.unusedSimpArgs false
def dg (w L N : Nat) (i : Nat) : Int := ((N / 2 ^ (8 * L - w * (i + 1)) % 2 ^ w : Nat) : Int)
def uj (b : List Int) (w c : Int) : List Int := if Such b.length w c then (List.range c.toNat).map (dg w.toNat b.length (T 8 b.reverse)) else []
theorem bp6 (b : List Int) (t : Nat) (h : t ≤ b.length) : T 8 (b.take t).reverse = T 8 b.reverse / 2 ^ (8 * (b.length - t)) := by
 rw [List.reverse_take, bcs 8 _ _ (by simp)]
theorem bdh (b : List Int) (t : Nat) (h : t < b.length) : T 8 (b.take (t + 1)).reverse = (b.getD t 0).toNat % 2 ^ 8 + 256 * T 8 (b.take t).reverse := by
 rw [← aob b 0 t h, List.reverse_append, List.reverse_singleton, List.singleton_append, T]
theorem bp1 (b : List Int) (q : Nat) (h : q < b.length) : (b.getD q 0).toNat % 2 ^ 8 = T 8 b.reverse / 2 ^ (8 * (b.length - 1 - q)) % 2 ^ 8 := by
 rw [bxg]
 congr 2
 rw [getD_lt h, getD_lt (by simp; omega), List.getElem_reverse]
 congr 1; omega
theorem vw (b : List Int) (w c : Int) (hb : In 256 b) (hn : b.length ≤ 1000000) {ρ : Type} (k : List Int → Option ρ) : P.vw b w c k = k (uj b w c) := by
 rw [P.ap8]
 unfold P.ai7
 rw [adg b w c hn, jh]
 unfold uj
 by_cases hs : Such b.length w c
 rotate_left
 ·rw [decide_eq_false hs, qm, if_neg hs]
 rw [decide_eq_true hs, oh, if_pos hs]
 obtain ⟨h1, h2, h3, h4⟩ := hs
 obtain ⟨w, rfl⟩ := Int.eq_ofNat_of_zero_le (show 0 ≤ w by omega)
 obtain ⟨c, rfl⟩ := Int.eq_ofNat_of_zero_le h3
 have h4 : c * w ≤ b.length * 8 := by exact_mod_cast h4
 have hc : c ≤ c * w := Nat.le_mul_of_pos_right c (by omega)
 simp only [toNat_cast, List.length_replicate]
 simp (disch := omega) only [bg, dn, gu, cu, fq, fu, jh, oh, qm, ni]
 rw [P.aug]
 unfold P.ap4 P.b2r P.bv7 P.b5w
 refine tu (fun i => (b.drop (aa2 (w * i)), (w : Int), ((T 8 (b.take (aa2 (w * i))).reverse % 2 ^ 64 : Nat) : Int), ((8 * aa2 (w * i) - w * i : Nat) : Int), (c : Int), (i : Int), ((List.range i).map (dg w b.length (T 8 b.reverse))) ++ List.replicate (c - i) 0)) c (by simp [aa2, T, bsw]) (fun i hi next hn' => ?_) (fun next => ?_) (by omega)
 ·have hwi : w * (i + 1) = w * i + w := Nat.mul_succ w i
  have hwc : w * (i + 1) ≤ b.length * 8 := Nat.le_trans (Nat.mul_le_mul (Nat.le_refl w) hi) (by rw [Nat.mul_comm]; exact h4)
  have c1 := bjq (w * i)
  have c2 := bj4 (w * i)
  have c3 := bjq (w * (i + 1))
  have c4 := bj4 (w * (i + 1))
  have c5 : aa2 (w * i) ≤ aa2 (w * (i + 1)) := by unfold aa2; omega
  simp only [P.aj5]
  rw [bg (by omega), P.au3]
  unfold P.apm P.b3e P.bx7 P.b7b
  refine tu (fun j => (b.drop (aa2 (w * i) + j), (w : Int), ((T 8 (b.take (aa2 (w * i) + j)).reverse % 2 ^ 64 : Nat) : Int), ((8 * (aa2 (w * i) + j) - w * i : Nat) : Int), (i : Int), (c : Int), (i : Int), ((List.range i).map (dg w b.length (T 8 b.reverse))) ++ List.replicate (c - i) 0)) (aa2 (w * (i + 1)) - aa2 (w * i)) rfl (fun j hj next2 hn2 => ?_) (fun next2 => ?_) (by omega)
  ·have ht : aa2 (w * i) + j < b.length := by omega
   obtain ⟨x, hx, hx2, hx3⟩ := byte_at hb (aa2 (w * i) + j)
   have est := bdh b (aa2 (w * i) + j) ht
   rw [← hx3] at est
   simp only [P.aki, List.length_drop, toNat_cast]
   rw [List.take_of_length_le (l := b.drop (aa2 (w * i) + j)) (by simp), List.drop_drop]
   have e0 : (b.drop (aa2 (w * i) + j)).getD 0 0 = (x : Int) := by
    rw [← hx, afn b 0 _ ht]; rfl
   have e1 : IntKind.u64.wrap (((T 8 (b.take (aa2 (w * i) + j)).reverse % 2 ^ 64 : Nat) : Int) * 2 ^ 8) = ((T 8 (b.take (aa2 (w * i) + j)).reverse % 2 ^ 56 * 2 ^ 8 : Nat) : Int) := by
    rw [bnc]; omega
   rw [e0, e1, afr x (by omega), bnt _ _ (by omega) (by omega), bjo _ _ _ (by omega)]
   simp (disch := omega) only [bg, dn, gu, cu, fq, fu, jh, oh, qm, ni]
   rw [Nat.add_assoc, show ((8 * (aa2 (w * i) + j) - w * i : Nat) : Int) + 8 = ((8 * (aa2 (w * i) + (j + 1)) - w * i : Nat) : Int) by omega,
    show T 8 (b.take (aa2 (w * i) + j)).reverse % 2 ^ 56 * 2 ^ 8 + x = T 8 (b.take (aa2 (w * i) + (j + 1))).reverse % 2 ^ 64 by rw [← Nat.add_assoc, est]; omega]
   exact hn2
  ·have et : aa2 (w * i) + (aa2 (w * (i + 1)) - aa2 (w * i)) = aa2 (w * (i + 1)) := by omega
   simp only [P.aki, toNat_cast]
   rw [et, dn (by omega), show ((8 * aa2 (w * (i + 1)) - w * i : Nat) : Int) - (w : Int) = ((8 * aa2 (w * (i + 1)) - w * (i + 1) : Nat) : Int) by omega,
    ni (x := ((8 * aa2 (w * (i + 1)) - w * (i + 1) : Nat) : Int)) (by omega) (by omega)]
   simp only [toNat_cast]
   have hq : T 8 (b.take (aa2 (w * (i + 1)))).reverse % 2 ^ 64 / 2 ^ (8 * aa2 (w * (i + 1)) - w * (i + 1)) < 18446744073709551616 := by
    have := Nat.div_le_self (T 8 (b.take (aa2 (w * (i + 1)))).reverse % 2 ^ 64) (2 ^ (8 * aa2 (w * (i + 1)) - w * (i + 1)))
    omega
   rw [fdiv_pow _ _ 64 (by omega), bk0 _ w hq (by omega), bfc _ _ _ _ (by omega)]
   have hw2 : 2 ^ w ≤ 2 ^ 24 := bkx (by omega)
   have hmod := Nat.mod_lt (T 8 (b.take (aa2 (w * (i + 1)))).reverse / 2 ^ (8 * aa2 (w * (i + 1)) - w * (i + 1))) (p2 w)
   rw [bom _ (by omega)]
   have ed : ((T 8 (b.take (aa2 (w * (i + 1)))).reverse / 2 ^ (8 * aa2 (w * (i + 1)) - w * (i + 1)) % 2 ^ w : Nat) : Int) = dg w b.length (T 8 b.reverse) i := by
    unfold dg
    rw [bp6 b _ (by omega), Nat.div_div_eq_div_mul, ← Nat.pow_add]
    congr 4; omega
   rw [ed]
   simp only [List.length_append, List.length_map, List.length_range, List.length_replicate]
   simp (disch := omega) only [bg, dn, gu, cu, fq, fu, jh, oh, qm, ni]
   rw [bes _ _ _ hi]
   exact hn'
 ·simp only [P.aj5]
  rw [dn (by omega), Nat.sub_self]
  simp
theorem qo (b : List Int) (w c : Int) (hb : In 256 b) (hn : b.length ≤ 1000000) {ρ : Type} (k : List Int → Option ρ) : P.qo b w c k = k (uj b w c) := by
 rw [P.arw]
 unfold P.aj6
 rw [ae5 b w c hn, jh]
 unfold uj
 by_cases hs : Such b.length w c
 rotate_left
 ·rw [decide_eq_false hs, qm, if_neg hs]
 rw [decide_eq_true hs, oh, if_pos hs]
 obtain ⟨h1, h2, h3, h4⟩ := hs
 obtain ⟨w, rfl⟩ := Int.eq_ofNat_of_zero_le (show 0 ≤ w by omega)
 obtain ⟨c, rfl⟩ := Int.eq_ofNat_of_zero_le h3
 have h4 : c * w ≤ b.length * 8 := by exact_mod_cast h4
 have hc : c ≤ c * w := Nat.le_mul_of_pos_right c (by omega)
 simp only [toNat_cast]
 rw [P.aws]
 unfold P.as0 P.b1c P.b0c P.b8e
 refine tu (fun i => (b, (w : Int), (c : Int), (i : Int), (List.range i).map (dg w b.length (T 8 b.reverse)))) c (by simp) (fun i hi next hn' => ?_) (fun next => ?_) (by omega)
 ·have hwi : w * (i + 1) = w * i + w := Nat.mul_succ w i
  have hwc : w * (i + 1) ≤ b.length * 8 := Nat.le_trans (Nat.mul_le_mul (Nat.le_refl w) hi) (by rw [Nat.mul_comm]; exact h4)
  simp only [P.al3]
  rw [bg (by omega), P.awl]
  unfold P.ar2 P.b2u P.b0u P.b8m
  refine tu (fun j => (b, (w : Int), (c : Int), (i : Int), ((T 8 b.reverse / 2 ^ (8 * b.length - (w * i + j)) % 2 ^ j : Nat) : Int), (j : Int), (List.range i).map (dg w b.length (T 8 b.reverse)))) w (by simp [Nat.mod_one]) (fun j hj next2 hn2 => ?_) (fun next2 => ?_) (by omega)
  ·obtain ⟨x, hx, hx2, hx3⟩ := byte_at hb ((w * i + j) / 8)
   simp only [P.alq]
   rw [wmul i w (by omega), ← Int.natCast_add, ni (x := ((w * i + j : Nat) : Int)) (by omega) (by omega), td8, tm8, ni (x := (((w * i + j) / 8 : Nat) : Int)) (by omega) (by omega),
    show (7 : Int) - (((w * i + j) % 8 : Nat) : Int) = ((7 - (w * i + j) % 8 : Nat) : Int) by omega, ni (x := ((7 - (w * i + j) % 8 : Nat) : Int)) (by omega) (by omega)]
   simp only [toNat_cast]
   have hv := Nat.mod_lt (T 8 b.reverse / 2 ^ (8 * b.length - (w * i + j))) (p2 j)
   have hv2 : 2 ^ j ≤ 2 ^ 24 := bkx (by omega)
   rw [hx, b0n x _ hx2 (by omega), buh _ _ (by omega) (by omega), hx3, bp1 b _ (by omega)]
   have e := bik (T 8 b.reverse) (8 * (b.length - 1 - (w * i + j) / 8)) 8 (7 - (w * i + j) % 8) 1 (by omega)
   rw [Nat.pow_one, show 8 * (b.length - 1 - (w * i + j) / 8) + (7 - (w * i + j) % 8) = 8 * b.length - (w * i + (j + 1)) by omega] at e
   rw [e, show 8 * b.length - (w * i + j) = 8 * b.length - (w * i + (j + 1)) + 1 by omega, bxi]
   simp (disch := omega) only [bg, dn, gu, cu, fq, fu, jh, oh, qm, ni]
   exact hn2
  ·simp only [P.alq, List.length_map, List.length_range]
   simp (disch := omega) only [bg, dn, gu, cu, fq, fu, jh, oh, qm, ni]
   have ed : ((T 8 b.reverse / 2 ^ (8 * b.length - (w * i + w)) % 2 ^ w : Nat) : Int) = dg w b.length (T 8 b.reverse) i := by unfold dg; rw [hwi]
   rw [ed, xu]
   exact hn'
 ·simp only [P.al3]
  rw [dn (by omega)]
end Q
end



section
/- bits: numbers as bytes and back. -/
namespace Q
open Go Go.Abs
set_option linter.unusedVariables false
set_option linter.unusedSimpArgs false
theorem bq7 (w n m X : Nat) (hm : m ≤ n) (hX : X < 2 ^ (w * m)) : bsw w m X ++ List.replicate (n - m) 0 = bsw w n X := by
 refine List.ext_getElem (by simp; omega) (fun i h1 h2 => ?_)
 have hi : i < n := by simpa using h2
 rw [← getD_lt (d := 0) h2, bjm _ _ _ _ hi]
 by_cases him : i < m
 ·rw [List.getElem_append_left (by simpa using him), ← getD_lt (d := 0), bjm _ _ _ _ him]
 ·rw [List.getElem_append_right (by simp; omega), List.getElem_replicate, Nat.div_eq_of_lt]
  ·rfl
  ·exact Nat.lt_of_lt_of_le hX (bkx (Nat.mul_le_mul (Nat.le_refl _) (by omega)))
theorem aga (N s : Nat) (hN : N < 18446744073709551616) (hs : s ≤ 65536) {ρ : Type} (k : List Int → Option ρ) : P.aga (N : Int) (s : Int) k = k (bsw 8 s N) := by
 rw [P.bcr]
 unfold P.aq3
 have em : (bif decide ((8 : Int) < (s : Int)) then (8 : Int) else (s : Int)) = ((min s 8 : Nat) : Int) := by
  by_cases h : (8 : Int) < (s : Int)
  ·rw [decide_eq_true h]; simp only [cond_true]; omega
  ·rw [decide_eq_false h]; simp only [cond_false]; omega
 simp only [toNat_cast]
 rw [em]
 simp (disch := omega) only [bg, dn, gu, cu, fq, fu, jh, oh, qm, ni]
 rw [P.bdn]
 unfold P.bay P.zk6 P.zs6 P.zu6
 refine tu (fun i => ((N : Int), ((min s 8 : Nat) : Int), (i : Int), bsw 8 i N ++ List.replicate (s - i) 0)) (min s 8) (by simp [bsw]) (fun i hi next hn' => ?_) (fun next => ?_) (by omega)
 ·simp only [P.auu, List.length_append, abb, List.length_replicate, toNat_cast]
  rw [show (8 : Int) * (i : Int) = ((8 * i : Nat) : Int) by omega, ni (x := ((8 * i : Nat) : Int)) (by omega) (by omega)]
  simp only [toNat_cast]
  rw [fdiv_pow N _ 64 (by omega), u8m]
  simp (disch := omega) only [bg, dn, gu, cu, fq, fu, jh, oh, qm, ni]
  rw [List.set_append_right _ _ (by simp), abb, Nat.sub_self, show s - i = (s - (i + 1)) + 1 by omega, List.replicate_succ, List.set_cons_zero]
  rw [bdv, List.append_assoc, List.singleton_append] at hn'
  exact hn'
 ·simp only [P.auu]
  rw [dn (by omega)]
  by_cases h : s ≤ 8
  ·rw [Nat.min_eq_left h, Nat.sub_self]; simp
  ·rw [Nat.min_eq_right (by omega), bq7 8 s 8 N (by omega) (by omega)]
theorem bni {f : Nat → Int} (n q : Nat) (v : Int) : ((List.range n).map f).set q v = (List.range n).map (fun j => if j = q then v else f j) := by
 refine List.ext_getElem (by simp) (fun i h1 h2 => ?_)
 simp only [List.getElem_set, List.getElem_map, List.getElem_range]
 by_cases h : q = i
 ·rw [if_pos h, if_pos h.symm]
 ·rw [if_neg h, if_neg (fun e => h e.symm)]
theorem bjp {f : Nat → Int} (n q : Nat) (h : q < n) : ((List.range n).map f).getD q 0 = f q := by
 rw [getD_lt (by simpa using h)]; simp
theorem bqe (l : List Int) : l = (List.range l.length).map (fun j => l.getD j 0) := by
 refine List.ext_getElem (by simp) (fun i h1 h2 => ?_)
 simp only [List.getElem_map, List.getElem_range]
 rw [getD_lt h1]
theorem yg (N s : Nat) (hN : N < 18446744073709551616) (hs : s ≤ 65536) {ρ : Type} (k : List Int → Option ρ) : P.yg (N : Int) (s : Int) k = k (bsw 8 s N).reverse := by
 rw [P.bcu]
 unfold P.arp
 rw [aga N s hN hs, P.ax0]
 unfold P.avx P.zk7 P.zs7 P.zu7
 simp only [abb]
 rw [ni (by omega) (by omega)]
 have hfin : (bsw 8 s N).reverse = (List.range s).map (fun q => (bsw 8 s N).getD (s - 1 - q) 0) := by
  refine List.ext_getElem (by simp) (fun i h1 h2 => ?_)
  have hi : i < s := by simpa using h2
  rw [List.getElem_reverse, List.getElem_map, List.getElem_range, getD_lt (by simp; omega)]
  congr 1; simp
 have h0 : bsw 8 s N = (List.range s).map (fun q => if q < 0 ∨ s - 0 ≤ q then (bsw 8 s N).getD (s - 1 - q) 0 else (bsw 8 s N).getD q 0) := by
  have e := bqe (bsw 8 s N)
  rw [abb] at e
  refine e.trans (List.map_congr_left (fun q hq => ?_))
  have := List.mem_range.1 hq
  rw [if_neg (by omega)]
 generalize bsw 8 s N = l at h0 hfin
 refine tu (fun i => ((i : Int), (s : Int) - 1 - (i : Int), (List.range s).map (fun q => if q < i ∨ s - i ≤ q then l.getD (s - 1 - q) 0 else l.getD q 0))) (s / 2) (by rw [← h0]; simp) (fun i hi next hn' => ?_) (fun next => ?_) (by omega)
 ·simp only [P.aot, List.length_map, List.length_range, List.length_set]
  rw [show (s : Int) - 1 - (i : Int) = ((s - 1 - i : Nat) : Int) by omega]
  simp only [toNat_cast]
  rw [bjp _ _ (by omega), bjp _ _ (by omega), if_neg (by omega), if_neg (by omega), bni, bni]
  have e : (List.range s).map (fun q => if q < i + 1 ∨ s - (i + 1) ≤ q then l.getD (s - 1 - q) 0 else l.getD q 0) = (List.range s).map (fun j => if j = s - 1 - i then l.getD i 0 else if j = i then l.getD (s - 1 - i) 0 else if j < i ∨ s - i ≤ j then l.getD (s - 1 - j) 0 else l.getD j 0) := by
   refine List.map_congr_left (fun q hq => ?_)
   have := List.mem_range.1 hq
   by_cases a1 : q = s - 1 - i
   ·subst a1; rw [if_pos (by omega), if_pos rfl]; congr 1; omega
   ·rw [if_neg a1]
    by_cases a2 : q = i
    ·subst a2; rw [if_pos (by omega), if_pos rfl]
    ·rw [if_neg a2]
     by_cases a3 : q < i ∨ s - i ≤ q
     ·rw [if_pos (by omega), if_pos a3]
     ·rw [if_neg (by omega), if_neg a3]
  rw [e] at hn'
  simp (disch := omega) only [bg, dn, gu, cu, fq, fu, jh, oh, qm, ni]
  rw [show ((s - 1 - i : Nat) : Int) - 1 = (s : Int) - 1 - ((i + 1 : Nat) : Int) by omega]
  exact hn'
 ·simp only [P.aot]
  rw [dn (by omega), hfin]
  congr 1
  refine List.map_congr_left (fun q hq => ?_)
  have := List.mem_range.1 hq
  by_cases a3 : q < s / 2 ∨ s - s / 2 ≤ q
  ·rw [if_pos a3]
  ·rw [if_neg a3]; congr 1; omega
theorem zf (b : List Int) (hb : In 256 b) (hn : b.length ≤ 1000000) {ρ : Type} (k : Int → Option ρ) : P.zf b k = k ((T 8 b.reverse % 2 ^ 64 : Nat) : Int) := by
 rw [P.ayv]
 unfold P.an7
 rw [P.bab]
 unfold P.ayl P.b1r P.bvt P.b4o
 refine tu (fun i => (((T 8 (b.take i).reverse % 2 ^ 64 : Nat) : Int), b, (b.length : Int), (i : Int))) b.length (by simp [T]) (fun i hi next hn' => ?_) (fun next => ?_) (by omega)
 ·obtain ⟨x, hx, hx2, hx3⟩ := byte_at hb i
  have est := bdh b i hi
  rw [← hx3] at est
  simp only [P.aq7, toNat_cast]
  have e1 : IntKind.u64.wrap (((T 8 (b.take i).reverse % 2 ^ 64 : Nat) : Int) * 2 ^ 8) = ((T 8 (b.take i).reverse % 2 ^ 56 * 2 ^ 8 : Nat) : Int) := by
   rw [bnc]; omega
  rw [hx, e1, afr x (by omega), bnt _ _ (by omega) (by omega), bjo _ _ _ (by omega),
   show T 8 (b.take i).reverse % 2 ^ 56 * 2 ^ 8 + x = T 8 (b.take (i + 1)).reverse % 2 ^ 64 by rw [est]; omega]
  simp (disch := omega) only [bg, dn, gu, cu, fq, fu, jh, oh, qm, ni]
  exact hn'
 ·simp only [P.aq7]
  rw [dn (by omega), List.take_length]
end Q
end

section
/- keccak: what is taken up, what is given out. -/
namespace QK
open Q
open Go Go.Abs
set_option linter.unusedVariables false
set_option linter.unusedSimpArgs false
def W25 (w : List Int) : Prop := w.length = 25 ∧ In 18446744073709551616 w
theorem W25.ws {w : List Int} (h : W25 w) : Ws fun i => w.getD i 0 := fun i => h.2.getD i (by omega)
theorem b7n {f : Nat → Int} (h : Ws f) : W25 (L25 f) := ⟨bl8 f, fun x hx => by
 simp only [L25, List.mem_map] at hx
 obtain ⟨i, _, rfl⟩ := hx
 exact h i⟩
def perm (w : List Int) : List Int := L25 (btf (fun i => w.getD i 0) 24)
theorem bn5 {w : List Int} (h : W25 w) : W25 (perm w) := b7n (boy h.ws 24)
theorem bov {w : List Int} (h : W25 w) {ρ : Type} (k : List Int → Option ρ) : P.jf w k = k (perm w) := by
 have := jf (fun i => w.getD i 0) k
 rw [← brq w h.1] at this
 exact this
theorem bm9 {w : List Int} (h : W25 w) {ρ : Type} (k : List Int → Option ρ) : P.o9 w k = k (perm w) := by
 have := o9 h.ws k
 rw [← brq w h.1] at this
 exact this
def pt (w : List Int) (a : Nat) (c : Int) : List Int := w.set (a / 8) (X (w.getD (a / 8) 0) (IntKind.u64.wrap (IntKind.u64.wrap c * (2 : Int) ^ min (8 * (a % 8)) 64)))
theorem bv1 (x : Int) : U64 (IntKind.u64.wrap x) := by
 rw [bnc]
 exact ⟨Int.emod_nonneg _ (by omega), Int.emod_lt_of_pos _ (by omega)⟩
theorem bo9 {w : List Int} (h : W25 w) (a : Nat) (c : Int) : W25 (pt w a c) := by
 refine ⟨by unfold pt; rw [List.length_set]; exact h.1, fun x hx => ?_⟩
 rcases List.mem_or_eq_of_mem_set hx with hx | rfl
 ·exact h.2 x hx
 ·exact X_U (h.2.getD _ (by omega)) (bv1 _)
theorem at8 (a : Nat) (h : a < 1000000) : IntKind.i64.wrap ((a : Int).tdiv 8) = ((a / 8 : Nat) : Int) := by
 rw [Int.tdiv_eq_ediv_of_nonneg (by omega), ni (by omega) (by omega)]
 omega
theorem am8 (a : Nat) (h : a < 1000000) : IntKind.i64.wrap ((8 : Int) * (a : Int).tmod 8) = ((8 * (a % 8) : Nat) : Int) := by
 rw [Int.tmod_eq_emod_of_nonneg (by omega), ni (by omega) (by omega)]
 omega
theorem zw (w : List Int) (a : Nat) (c : Int) (h : a < 200) {ρ : Type} (k : List Int → Option ρ) : P.zw w (a : Int) c k = k (pt w a c) := by
 rw [P.bcl]; unfold P.aqe
 rw [at8 a (by omega), am8 a (by omega), toNat_cast, toNat_cast]
 simp (disch := omega) only [bg, dn, gu, cu, fq, fu, jh, oh, qm, ni]
 rfl
def Rt (kd : Int) (r : Nat) : Prop := (kd = 4 ∧ r = 136) ∨ (kd = 5 ∧ r = 72) ∨ (kd = 6 ∧ r = 168) ∨ (kd = 7 ∧ r = 136)
theorem Rt.le {kd : Int} {r : Nat} (h : Rt kd r) : 72 ≤ r ∧ r ≤ 168 := by
 rcases h with ⟨_, rfl⟩ | ⟨_, rfl⟩ | ⟨_, rfl⟩ | ⟨_, rfl⟩ <;> omega
theorem bfp {kd : Int} {r : Nat} (h : Rt kd r) {ρ : Type} (k : Int → Option ρ) : P.mq kd k = k (r : Int) := by
 rw [P.apn]; unfold P.aio
 rcases h with ⟨rfl, rfl⟩ | ⟨rfl, rfl⟩ | ⟨rfl, rfl⟩ | ⟨rfl, rfl⟩ <;> simp
theorem bma {kd : Int} {r : Nat} (h : Rt kd r) {ρ : Type} (k : Int → Option ρ) : P.abk kd k = k (r : Int) := by
 rw [P.axm]; unfold P.aos
 rcases h with ⟨rfl, rfl⟩ | ⟨rfl, rfl⟩ | ⟨rfl, rfl⟩ | ⟨rfl, rfl⟩ <;> simp
def ast (r : Nat) (s : List Int × Nat) (c : Int) : List Int × Nat := if s.2 + 1 = r then (perm (pt s.1 s.2 c), 0) else (pt s.1 s.2 c, s.2 + 1)
def atv (r : Nat) (s : List Int × Nat) (l : List Int) : List Int × Nat := l.foldl (ast r) s
def Good (r : Nat) (s : List Int × Nat) : Prop := W25 s.1 ∧ s.2 < r
theorem bpg {r : Nat} {s : List Int × Nat} (h : Good r s) (c : Int) : Good r (ast r s c) := by
 unfold ast Good at *
 split
 ·exact ⟨bn5 (bo9 h.1 _ _), by simp only; omega⟩
 ·exact ⟨bo9 h.1 _ _, by simp only; omega⟩
theorem ai5 {r : Nat} : ∀ (l : List Int) {s : List Int × Nat}, Good r s → Good r (atv r s l)
 | [], s, h => h
 | c :: l, s, h => ai5 l (bpg h c)
theorem bff (r : Nat) (s : List Int × Nat) (l : List Int) (i : Nat) (hi : i < l.length) : atv r s (l.take (i + 1)) = ast r (atv r s (l.take i)) (l.getD i 0) := by
 rw [← aob l 0 i hi]
 unfold atv
 rw [List.foldl_append]
 rfl
theorem bpy (r : Nat) (s : List Int × Nat) (l m : List Int) : atv r s (l ++ m) = atv r (atv r s l) m := by
 unfold atv; rw [List.foldl_append]
abbrev Z25 : List Int := [0, 0, 0, 0, 0, 0, 0, 0, 0, 0, 0, 0, 0, 0, 0, 0, 0, 0, 0, 0, 0, 0, 0, 0, 0]
theorem bzk : W25 Z25 := ⟨rfl, fun x hx => by
 have : x = 0 := by simpa [Z25] using hx
 subst this
 decide⟩
theorem abe {kd : Int} {r : Nat} (hr : Rt kd r) (w : List Int) (a : Nat) (hg : Good r (w, a)) (b : List Int) (hn : b.length < 9223372036854775807) {ρ : Type} (k : Int → List Int → Int → Bool → Option ρ) :
    P.abe kd w (a : Int) false b k = k kd (atv r (w, a) b).1 ((atv r (w, a) b).2 : Int) false := by
 have hr2 := hr.le
 rw [P.atf]; unfold P.aju
 rw [qm, P.awk]; unfold P.atl P.b2c P.b09 P.cbj
 refine tu (fun i => (b, (i : Int), kd, (atv r (w, a) (b.take i)).1, ((atv r (w, a) (b.take i)).2 : Int), false, (0 : Int), Z25, (0 : Int), false)) b.length (by simp [atv]) (fun i hi next hnx => ?_) (fun next => ?_) (by omega)
 ·have hg2 := ai5 (b.take i) hg
  rw [bff r (w, a) b i hi] at hnx
  simp only [P.al7, toNat_cast]
  generalize atv r (w, a) (b.take i) = s at hg2 hnx ⊢
  have hlt := hg2.2
  rw [bg (by omega), bg (by omega), bg (by omega), zw _ _ _ (by omega), bma hr, ni (x := (s.2 : Int) + 1) (by omega) (by omega), ni (x := (i : Int) + 1) (by omega) (by omega)]
  unfold ast at hnx
  by_cases he : s.2 + 1 = r
  ·rw [if_pos he] at hnx
   rw [fq (by omega), bm9 (bo9 hg2.1 _ _)]
   exact hnx
  ·rw [if_neg he] at hnx
   rw [fu (by omega)]
   exact hnx
 ·simp only [P.al7]
  rw [dn (by omega), List.take_length]
def sq0 (r : Nat) (s : List Int × Nat) : List Int × Nat := if s.2 = r then (perm s.1, 0) else s
def sqb (s : List Int × Nat) : Int := IntKind.u8.wrap ((s.1.getD (s.2 / 8) 0).fdiv ((2 : Int) ^ min (8 * (s.2 % 8)) 64))
def sqS (r : Nat) (s : List Int × Nat) : Nat → List Int × Nat
 | 0 => s
 | n + 1 => ((sq0 r (sqS r s n)).1, (sq0 r (sqS r s n)).2 + 1)
def sqB (r : Nat) (s : List Int × Nat) (n : Nat) : Int := sqb (sq0 r (sqS r s n))
def sqO (r : Nat) (s : List Int × Nat) (m : Nat) : List Int := (List.range m).map (sqB r s)
def Gd (r : Nat) (s : List Int × Nat) : Prop := W25 s.1 ∧ s.2 ≤ r
theorem bed {r : Nat} (hr : 1 ≤ r) {s : List Int × Nat} (h : Gd r s) : ∀ n, Gd r (sqS r s n)
 | 0 => h
 | n + 1 => by
  have ih := bed hr h n
  show Gd r ((sq0 r (sqS r s n)).1, (sq0 r (sqS r s n)).2 + 1)
  revert ih
  generalize sqS r s n = t
  intro ih
  have h2 := ih.2
  unfold sq0
  by_cases he : t.2 = r
  ·rw [if_pos he]; exact ⟨bn5 ih.1, by simp only; omega⟩
  ·rw [if_neg he]; exact ⟨ih.1, by simp only; omega⟩
theorem biw (r : Nat) (s : List Int × Nat) (m : Nat) : (sqO r s m).length = m := by simp [sqO]
theorem byf (r : Nat) (s : List Int × Nat) (m : Nat) : In 256 (sqO r s m) := fun x hx => by
 simp only [sqO, List.mem_map] at hx
 obtain ⟨i, _, rfl⟩ := hx
 unfold sqB sqb
 rw [u8m]
 exact ⟨Int.emod_nonneg _ (by omega), Int.emod_lt_of_pos _ (by omega)⟩
theorem bp3 (r : Nat) (s : List Int × Nat) (i : Nat) : sqO r s i ++ [sqB r s i] = sqO r s (i + 1) := xu (sqB r s) i
theorem zd : (0 : Nat) / 8 = 0 := rfl
theorem zm : min (8 * ((0 : Nat) % 8)) 64 = 0 := rfl
theorem b6q {kd : Int} {r : Nat} (hr : Rt kd r) (s : List Int × Nat) (hg : Gd r s) (m : Nat) (hm : m ≤ 100000000) (z : Bool) {ρ : Type} (k : Int → Int → List Int → Int → List Int → Int → Bool → Int → List Int → Int → Bool → Option ρ) :
    P.zx (m : Int) (r : Int) [] kd s.1 (s.2 : Int) z 0 Z25 0 false k = k (m : Int) (r : Int) (sqO r s m) kd (sqS r s m).1 ((sqS r s m).2 : Int) z 0 Z25 0 false := by
 have hr2 := hr.le
 rw [P.atm]; unfold P.ano P.b1u P.bwv P.b67
 refine tu (fun i => ((m : Int), (r : Int), sqO r s i, kd, (sqS r s i).1, ((sqS r s i).2 : Int), z, (0 : Int), Z25, (0 : Int), false)) m (by simp [sqO, sqS]) (fun i hi next hnx => ?_) (fun next => ?_) (by omega)
 ·have hg2 := bed (by omega) hg i
  rw [← bp3] at hnx
  simp only [P.ai8]
  unfold sqB at hnx
  simp only [sqS] at hnx
  have hl := biw r s i
  generalize sqS r s i = t at hg2 hnx ⊢
  generalize sqO r s i = o at hnx hl ⊢
  have hlt := hg2.2
  rw [bg (by omega)]
  unfold sq0 sqb at hnx
  by_cases he : t.2 = r
  ·rw [if_pos he] at hnx
   rw [fq (by omega), bm9 hg2.1, bg (by omega), ni (by omega) (by omega)]
   simp only [zd, zm] at hnx
   exact hnx
  ·rw [if_neg he] at hnx
   rw [fu (by omega), at8 _ (by omega), am8 _ (by omega), toNat_cast, toNat_cast, ni (x := (t.2 : Int) + 1) (by omega) (by omega)]
   simp (disch := omega) only [bg, dn, gu, cu, fq, fu, jh, oh, qm, ni]
   exact hnx
 ·simp only [P.ai8, biw]
  rw [dn (by omega)]
theorem b7q {kd : Int} {r : Nat} (hr : Rt kd r) (s : List Int × Nat) (hg : Gd r s) (m : Nat) (hm : m ≤ 100000000) (z : Bool) {ρ : Type} (k : Int → Int → Int → List Int → Int → Bool → Int → List Int → Int → Bool → List Int → Option ρ) :
    P.adt (m : Int) 0 kd s.1 (s.2 : Int) z 0 Z25 0 false (List.replicate m 0) k = k (m : Int) (m : Int) kd (sqS r s m).1 ((sqS r s m).2 : Int) z 0 Z25 0 false (sqO r s m) := by
 have hr2 := hr.le
 rw [P.aph]; unfold P.aky P.b2e P.bvq P.b5n
 refine tu (fun i => ((m : Int), (i : Int), kd, (sqS r s i).1, ((sqS r s i).2 : Int), z, (0 : Int), Z25, (0 : Int), false, sqO r s i ++ List.replicate (m - i) 0)) m (by simp [sqO, sqS]) (fun i hi next hnx => ?_) (fun next => ?_) (by omega)
 ·have hg2 := bed (by omega) hg i
  have hO : sqO r s (i + 1) ++ List.replicate (m - (i + 1)) 0 = (sqO r s i ++ List.replicate (m - i) 0).set i (sqB r s i) := (bes (sqB r s) i m hi 0).symm
  have hl : (sqO r s i ++ List.replicate (m - i) 0).length = m := by simp [sqO]; omega
  rw [hO] at hnx
  unfold sqB at hnx
  simp only [sqS] at hnx
  simp only [P.afx, toNat_cast]
  generalize sqO r s i ++ List.replicate (m - i) 0 = o at hl hnx ⊢
  generalize sqS r s i = t at hg2 hnx ⊢
  have hlt := hg2.2
  rw [bg (by omega), bfp hr]
  unfold sq0 sqb at hnx
  by_cases he : t.2 = r
  ·rw [if_pos he] at hnx
   rw [fq (by omega), bov hg2.1, bg (by omega), bg (by omega), ni (x := (i : Int) + 1) (by omega) (by omega), ni (x := (0 : Int) + 1) (by omega) (by omega)]
   simp only [zd, zm] at hnx
   exact hnx
  ·rw [if_neg he] at hnx
   rw [fu (by omega), at8 _ (by omega), am8 _ (by omega), toNat_cast, toNat_cast, ni (x := (t.2 : Int) + 1) (by omega) (by omega), ni (x := (i : Int) + 1) (by omega) (by omega)]
   simp (disch := omega) only [bg, dn, gu, cu, fq, fu, jh, oh, qm, ni]
   exact hnx
 ·simp only [P.afx]
  rw [dn (by omega)]
  simp
end QK
end



section
/- keccak: sums. -/
namespace QK
open Q
open Go Go.Abs
set_option linter.unusedVariables false
set_option linter.unusedSimpArgs false
theorem p9 {kd : Int} {r : Nat} (hr : Rt kd r) (w : List Int) (a : Nat) (hg : Good r (w, a)) (b : List Int) (hn : b.length < 9223372036854775807) {ρ : Type} (k : Int → List Int → Int → Bool → Option ρ) :
    P.p9 kd w (a : Int) false b k = k kd (atv r (w, a) b).1 ((atv r (w, a) b).2 : Int) false := by
 have hr2 := hr.le
 rw [P.amn]; unfold P.af4
 rw [qm, bfp hr, P.aqa]; unfold P.ams P.b1v P.bz7 P.ca4
 refine tu (fun i => (b, (r : Int), (b.length : Int), (i : Int), kd, (atv r (w, a) (b.take i)).1, ((atv r (w, a) (b.take i)).2 : Int), false, (0 : Int), Z25, (0 : Int), false)) b.length (by simp [atv]) (fun i hi next hnx => ?_) (fun next => ?_) (by omega)
 ·have hg2 := ai5 (b.take i) hg
  rw [bff r (w, a) b i hi] at hnx
  simp only [P.ahb, toNat_cast]
  generalize atv r (w, a) (b.take i) = s at hg2 hnx ⊢
  have hlt := hg2.2
  rw [at8 _ (by omega), am8 _ (by omega), toNat_cast, toNat_cast, ni (x := (s.2 : Int) + 1) (by omega) (by omega), ni (x := (i : Int) + 1) (by omega) (by omega)]
  unfold ast at hnx
  by_cases he : s.2 + 1 = r
  ·rw [if_pos he] at hnx
   simp (disch := omega) only [bg, dn, gu, cu, fq, fu, jh, oh, qm, ni]
   exact (bov (bo9 hg2.1 _ _) _).trans hnx
  ·rw [if_neg he] at hnx
   simp (disch := omega) only [bg, dn, gu, cu, fq, fu, jh, oh, qm, ni]
   exact hnx
 ·simp only [P.ahb]
  rw [dn (by omega), List.take_length]
def mark (kd : Int) : Int := if kd = 4 ∨ kd = 5 then 6 else 31
def trn (kd : Int) (r : Nat) (s : List Int × Nat) : List Int := perm (pt (pt s.1 s.2 (mark kd)) (r - 1) 128)
theorem b0p {kd : Int} {r : Nat} {s : List Int × Nat} (h : W25 s.1) : W25 (trn kd r s) := bn5 (bo9 (bo9 h _ _) _ _)
theorem vo {kd : Int} {r : Nat} (hr : Rt kd r) (s : List Int × Nat) (hg : Good r s) (z : Bool) {ρ : Type} (k : Int → List Int → Int → Bool → Option ρ) :
    P.vo kd s.1 (s.2 : Int) z k = k kd (trn kd r s) 0 true := by
 have hr2 := hr.le
 have h2 := hg.2
 have er : (r : Int) - 1 = ((r - 1 : Nat) : Int) := by omega
 rw [P.amu]; unfold P.af7
 rw [at8 _ (by omega), am8 _ (by omega), toNat_cast, toNat_cast]
 rw [bfp hr, bfp hr, ni (x := (r : Int) - 1) (by omega) (by omega), er, at8 _ (by omega), am8 _ (by omega), toNat_cast, toNat_cast]
 have fin : ∀ c : Int, (P.jf (pt (pt s.1 s.2 c) (r - 1) 128) fun q => k kd q 0 true) = k kd (perm (pt (pt s.1 s.2 c) (r - 1) 128)) 0 true := fun c => bov (bo9 (bo9 hg.1 _ _) _ _) _
 unfold trn mark
 by_cases h4 : kd = 4
 ·rw [if_pos (.inl h4)]
  simp (disch := omega) only [bg, dn, gu, cu, fq, fu, jh, oh, qm, ni]
  exact fin 6
 ·by_cases h5 : kd = 5
  ·rw [if_pos (.inr h5)]
   simp (disch := omega) only [bg, dn, gu, cu, fq, fu, jh, oh, qm, ni]
   exact fin 6
  ·rw [if_neg (by omega)]
   simp (disch := omega) only [bg, dn, gu, cu, fq, fu, jh, oh, qm, ni]
   exact fin 31
theorem aaj {kd : Int} {r : Nat} (hr : Rt kd r) (s : List Int × Nat) (hg : Good r s) (m : Nat) (hm : m ≤ 100000000) {ρ : Type} (k : Int → List Int → Int → Bool → List Int → Option ρ) :
    P.aaj kd s.1 (s.2 : Int) false (m : Int) k = k kd (sqS r (trn kd r s, 0) m).1 ((sqS r (trn kd r s, 0) m).2 : Int) true (sqO r (trn kd r s, 0) m) := by
 have hr2 := hr.le
 have h2 := hg.2
 have er : (r : Int) - 1 = ((r - 1 : Nat) : Int) := by omega
 have fin : ∀ c : Int, mark kd = c → (P.zw s.1 (s.2 : Int) c fun q1 => P.zw q1 (IntKind.i64.wrap ((r : Int) - 1)) 128 fun q2 => P.o9 q2 fun q3 => P.zx (m : Int) (r : Int) [] kd q3 0 true 0 Z25 0 false
     fun (q4 q5 : Int) (q6 : List Int) (q7 : Int) (q8 : List Int) (q9 : Int) (q10 : Bool) (q11 : Int) (q12 : List Int) (q13 : Int) (q14 : Bool) => k q7 q8 q9 q10 q6) =
     k kd (sqS r (trn kd r s, 0) m).1 ((sqS r (trn kd r s, 0) m).2 : Int) true (sqO r (trn kd r s, 0) m) := by
  intro c hc
  rw [ni (x := (r : Int) - 1) (by omega) (by omega), er, zw _ _ _ (by omega), zw _ _ _ (by omega), bm9 (bo9 (bo9 hg.1 _ _) _ _)]
  have := b6q hr (trn kd r s, 0) ⟨b0p hg.1, by simp only; omega⟩ m hm true (fun (q4 q5 : Int) (q6 : List Int) (q7 : Int) (q8 : List Int) (q9 : Int) (q10 : Bool) (q11 : Int) (q12 : List Int) (q13 : Int) (q14 : Bool) => k q7 q8 q9 q10 q6)
  unfold trn at this ⊢
  rw [hc] at this ⊢
  exact this
 rw [P.apv]; unfold P.air
 rw [dn (by omega), bma hr, jh, qm]
 by_cases h4 : kd = 4
 ·rw [fq h4]; exact fin 6 (by unfold mark; rw [if_pos (.inl h4)])
 ·rw [fu h4]
  by_cases h5 : kd = 5
  ·rw [fq h5]; exact fin 6 (by unfold mark; rw [if_pos (.inr h5)])
  ·rw [fu h5]; exact fin 31 (by unfold mark; rw [if_neg (by omega)])
theorem su {kd : Int} {r : Nat} (hr : Rt kd r) (s : List Int × Nat) (hg : Good r s) (m : Nat) (hm : m ≤ 100000000) {ρ : Type} (k : Int → List Int → Int → Bool → List Int → Option ρ) :
    P.su kd s.1 (s.2 : Int) false (m : Int) k = k kd (sqS r (trn kd r s, 0) m).1 ((sqS r (trn kd r s, 0) m).2 : Int) true (sqO r (trn kd r s, 0) m) := by
 have hr2 := hr.le
 rw [P.akq]; unfold P.afa
 rw [dn (by omega), jh, qm, vo hr s hg, bg (by omega), bg (by omega), bg (by omega), toNat_cast, List.length_replicate]
 exact b7q hr (trn kd r s, 0) ⟨b0p hg.1, by simp only; omega⟩ m hm true _
def rOf (kd : Int) : Nat := if kd = 4 then 136 else if kd = 5 then 72 else if kd = 6 then 168 else 136
theorem bwc {kd : Int} (h : kd = 4 ∨ kd = 5 ∨ kd = 6 ∨ kd = 7) : Rt kd (rOf kd) := by
 unfold Rt rOf
 rcases h with rfl | rfl | rfl | rfl <;> simp
def bx3 (kd : Int) (b : List Int) (m : Nat) : List Int := sqO (rOf kd) (trn kd (rOf kd) (atv (rOf kd) (Z25, 0) b), 0) m
theorem bqk (kd : Int) (b : List Int) (m : Nat) : (bx3 kd b m).length = m := biw _ _ _
theorem bto (kd : Int) (b : List Int) (m : Nat) : In 256 (bx3 kd b m) := byf _ _ _
theorem ai6 {kd : Int} (h : kd = 4 ∨ kd = 5 ∨ kd = 6 ∨ kd = 7) (b : List Int) (hn : b.length < 9223372036854775807) (m : Nat) (hm : m ≤ 16777216) {ρ : Type} (k : List Int → Int → Option ρ) : P.ai6 kd b (m : Int) k = k (bx3 kd b m) 0 := by
 have hr := bwc h
 have hr2 := hr.le
 have hg : Good (rOf kd) (Z25, 0) := ⟨bzk, by simp only; omega⟩
 rw [P.bcd]; unfold P.aqg
 rw [P.bax]; unfold P.aqm
 rw [bma hr, fu (by omega)]
 dsimp only
 rw [cu rfl, dn (by omega), dn (by omega)]
 exact (abe hr Z25 0 hg b hn _).trans (aaj hr _ (ai5 b hg) m (by omega) _)
end QK
end

section
/- SHA-2: what a block does. -/
namespace Q
open Go Go.Abs
set_option linter.unusedVariables false
set_option linter.unusedSimpArgs false
structure Par (w : Nat) where
 rounds : Nat
 a : Nat × Nat × Nat
 b : Nat × Nat × Nat
 c : Nat × Nat × Nat
 d : Nat × Nat × Nat
 K : Nat → BitVec w
section
variable {w : Nat}
def hi (t : Nat × Nat × Nat) (x : BitVec w) : BitVec w := rr x t.1 ^^^ rr x t.2.1 ^^^ rr x t.2.2
def lo (t : Nat × Nat × Nat) (x : BitVec w) : BitVec w := rr x t.1 ^^^ rr x t.2.1 ^^^ (x >>> t.2.2)
def cv (l : List (BitVec w)) : List Int := l.map fun x => (x.toNat : Int)
@[simp] theorem yu (l : List (BitVec w)) : (cv l).length = l.length := by simp [cv]
theorem ahc (l : List (BitVec w)) (i : Nat) : (cv l).getD i 0 = ((l.getD i 0).toNat : Int) := by
 unfold cv
 rw [List.getD_eq_getElem?_getD, List.getD_eq_getElem?_getD, List.getElem?_map]
 cases l[i]? <;> simp
theorem bav (l : List (BitVec w)) (i : Nat) (x : BitVec w) : (cv l).set i (x.toNat : Int) = cv (l.set i x) := by simp [cv, List.map_set]
theorem ag2 (l r : List (BitVec w)) : cv l ++ cv r = cv (l ++ r) := by simp [cv]
def bu2 (p : Par w) (t : Nat) (wt : BitVec w) (v : List (BitVec w)) : BitVec w :=
 v.getD 7 0 + hi p.d (v.getD 4 0) + (v.getD 6 0 ^^^ (v.getD 4 0 &&& (v.getD 5 0 ^^^ v.getD 6 0))) + p.K t + wt
def cbl (p : Par w) (v : List (BitVec w)) : BitVec w := hi p.c (v.getD 0 0) + ((v.getD 0 0 &&& v.getD 1 0) ||| (v.getD 2 0 &&& (v.getD 0 0 ||| v.getD 1 0)))
def rnd (p : Par w) (t : Nat) (wt : BitVec w) (v : List (BitVec w)) : List (BitVec w) :=
 [bu2 p t wt v + cbl p v, v.getD 0 0, v.getD 1 0, v.getD 2 0, v.getD 3 0 + bu2 p t wt v, v.getD 4 0, v.getD 5 0, v.getD 6 0]
def bye (p : Par w) (l : List (BitVec w)) : BitVec w := lo p.b (l.getD (l.length - 2) 0) + l.getD (l.length - 7) 0 + lo p.a (l.getD (l.length - 15) 0) + l.getD (l.length - 16) 0
def sched (p : Par w) (l : List (BitVec w)) : Nat → List (BitVec w)
 | 0 => l
 | n + 1 => sched p l n ++ [bye p (sched p l n)]
theorem ayu (p : Par w) (l : List (BitVec w)) : ∀ n, (sched p l n).length = l.length + n
 | 0 => rfl
 | n + 1 => by simp only [sched, List.length_append, ayu p l n, List.length_singleton]; omega
theorem bd0 (p : Par w) (l : List (BitVec w)) (n i : Nat) (hi : i < l.length + n) : ∀ m, (sched p l (n + m)).getD i 0 = (sched p l n).getD i 0
 | 0 => rfl
 | m + 1 => by
  rw [← Nat.add_assoc]
  simp only [sched]
  rw [List.getD_eq_getElem?_getD, List.getElem?_append_left (by rw [ayu]; omega), ← List.getD_eq_getElem?_getD, bd0 p l n i hi m]
def W (p : Par w) (l : List (BitVec w)) (t : Nat) : BitVec w := (sched p l t).getD t 0
theorem br2 (p : Par w) (l : List (BitVec w)) (hl : 0 < l.length) (n t : Nat) (h : t < l.length + n) : (sched p l n).getD t 0 = W p l t := by
 unfold W
 by_cases hn : n ≤ t
 ·have := bd0 p l n t h (t - n)
  rw [show n + (t - n) = t by omega] at this
  exact this.symm
 ·have := bd0 p l t t (by omega) (n - t)
  rw [show t + (n - t) = n by omega] at this
  exact this
theorem bkr (p : Par w) (l : List (BitVec w)) (hl : l.length = 16) (t : Nat) : W p l (t + 16) = W p l t + lo p.a (W p l (t + 1)) + W p l (t + 9) + lo p.b (W p l (t + 14)) := by
 have e := br2 p l (by omega) (t + 1) (t + 16) (by omega)
 rw [← e]
 simp only [sched]
 have hlen := ayu p l t
 rw [List.getD_eq_getElem?_getD, List.getElem?_append_right (by rw [hlen]; omega), hlen, show t + 16 - (l.length + t) = 0 by omega]
 simp only [List.getElem?_cons_zero, Option.getD_some]
 unfold bye
 rw [hlen, show l.length + t - 2 = t + 14 by omega, show l.length + t - 7 = t + 9 by omega, show l.length + t - 15 = t + 1 by omega, show l.length + t - 16 = t by omega,
  br2 p l (by omega) t _ (by omega), br2 p l (by omega) t _ (by omega), br2 p l (by omega) t _ (by omega), br2 p l (by omega) t _ (by omega)]
 ac_rfl
def runs (p : Par w) (l : List (BitVec w)) (v : List (BitVec w)) : Nat → List (BitVec w)
 | 0 => v
 | t + 1 => rnd p t (W p l t) (runs p l v t)
theorem ao8 (p : Par w) (l v : List (BitVec w)) (hv : v.length = 8) : ∀ t, (runs p l v t).length = 8
 | 0 => hv
 | t + 1 => rfl
def bri (p : Par w) (l v : List (BitVec w)) : List (BitVec w) := (List.range 8).map fun i => (runs p l v p.rounds).getD i 0 + v.getD i 0
def ng (w : Nat) (b : List Int) (n : Nat) : List (BitVec w) := (List.range n).map fun t => BitVec.ofNat w (T 8 ((b.take ((t + 1) * (w / 8))).drop (t * (w / 8))).reverse)
def ayx (p : Par w) (v : List (BitVec w)) (b : List Int) : List (BitVec w) := bri p (ng w b 16) v
theorem blb (p : Par w) (v : List (BitVec w)) (b : List Int) : (ayx p v b).length = 8 := by simp [ayx, bri]
theorem aym (b : List Int) (n : Nat) : ng w b (n + 1) = ng w b n ++ [BitVec.ofNat w (T 8 ((b.take ((n + 1) * (w / 8))).drop (n * (w / 8))).reverse)] := by simp [ng, List.range_succ]
theorem qz (b : List Int) (n : Nat) : (ng w b n).length = n := by simp [ng]
def win (p : Par w) (l : List (BitVec w)) (t : Nat) : List (BitVec w) := (List.range 16).map fun j => W p l (t + (j + 16 - t % 16) % 16)
theorem avs (p : Par w) (l : List (BitVec w)) (t i : Nat) (hi : i < 16) : (win p l t).getD ((t + i) % 16) 0 = W p l (t + i) := by
 unfold win
 rw [getD_lt (by simp; omega)]
 simp only [List.getElem_map, List.getElem_range]
 congr 1
 omega
theorem bjx (p : Par w) (l : List (BitVec w)) (t : Nat) : (win p l t).set (t % 16) (W p l (t + 16)) = win p l (t + 1) := by
 unfold win
 refine List.ext_getElem (by simp) (fun j h1 h2 => ?_)
 simp only [List.length_map, List.length_range] at h2
 rw [List.getElem_set]
 by_cases h : t % 16 = j
 ·rw [if_pos h]
  simp only [List.getElem_map, List.getElem_range]
  congr 1
  omega
 ·rw [if_neg h]
  simp only [List.getElem_map, List.getElem_range]
  congr 1
  omega
theorem win_zero (p : Par w) (b : List Int) : win p (ng w b 16) 0 = ng w b 16 := by
 unfold win
 refine List.ext_getElem (by simp [ng]) (fun j h1 h2 => ?_)
 rw [qz] at h2
 simp only [List.getElem_map, List.getElem_range]
 rw [show 0 + (j + 16 - 0 % 16) % 16 = j by omega, ← br2 p _ (by rw [qz]; omega) 0 j (by rw [qz]; omega)]
 exact getD_lt (by rw [show sched p (ng w b 16) 0 = ng w b 16 from rfl, qz]; exact h2)
end
theorem bh5 : ∀ x, x ∈ P.roots256 → 0 ≤ x ∧ x < 4294967296 := by decide +kernel
theorem bim : ∀ x, x ∈ P.roots512 → 0 ≤ x ∧ x < 18446744073709551616 := by decide +kernel
def p32 : Par 32 := ⟨64, (7, 18, 3), (17, 19, 10), (2, 13, 22), (6, 11, 25), fun t => BitVec.ofInt 32 (P.roots256.getD t 0)⟩
def p64 : Par 64 := ⟨80, (1, 8, 7), (19, 61, 6), (28, 34, 39), (14, 18, 41), fun t => BitVec.ofInt 64 (P.roots512.getD t 0)⟩
theorem K32 (t : Nat) : P.roots256.getD t 0 = ((p32.K t).toNat : Int) := by
 have := In.getD (m := 4294967296) bh5 t (by omega)
 simp only [p32, BitVec.toNat_ofInt]
 omega
theorem K64 (t : Nat) : P.roots512.getD t 0 = ((p64.K t).toNat : Int) := by
 have := In.getD (m := 18446744073709551616) bim t (by omega)
 simp only [p64, BitVec.toNat_ofInt]
 omega
end Q
end

section
/- SHA-2: the program's engine of 32 bits. -/
namespace Q
open Go Go.Abs
set_option linter.unusedVariables false
set_option linter.unusedSimpArgs false
theorem akh (rd : Int) (t0 t1 t2 t3 : List Int) (x : BitVec 32) (m : Int) (n : Nat) (hm : m = (n : Int)) (hn : n ≤ 32) {ρ : Type} (k : Int → Option ρ) :
    P.dw 32 rd t0 t1 t2 t3 (x.toNat : Int) m k = k ((rr x n).toNat : Int) := by
 subst hm
 rw [P.ach]
 unfold P.yx
 rw [dn (by omega), ni (by omega) (by omega), dn (by omega), show (32 : Int) - (n : Int) = ((32 - n : Nat) : Int) by omega]
 simp only [toNat_cast]
 rw [bsj _ _ hn, b8s _ _ (by omega), cde]
 rfl
theorem bo1 (rd : Int) (x : BitVec 32) {ρ : Type} (k : Int → Option ρ) : P.j6 32 rd [7, 18, 3] [17, 19, 10] [2, 13, 22] [6, 11, 25] (x.toNat : Int) 3 k = k ((hi p32.d x).toNat : Int) := by
 rw [P.aa1]
 unfold P.wo
 simp only [List.getD_cons_zero, List.getD_cons_succ]
 rw [dn (by decide), dn (by decide), dn (by decide), bg (by decide), akh _ _ _ _ _ _ _ 6 (by rfl) (by omega), akh _ _ _ _ _ _ _ 11 (by rfl) (by omega), akh _ _ _ _ _ _ _ 25 (by rfl) (by omega), bdd, bdd]
 rfl
theorem bno (rd : Int) (x : BitVec 32) {ρ : Type} (k : Int → Option ρ) : P.j6 32 rd [7, 18, 3] [17, 19, 10] [2, 13, 22] [6, 11, 25] (x.toNat : Int) 2 k = k ((hi p32.c x).toNat : Int) := by
 rw [P.aa1]
 unfold P.wo
 simp only [List.getD_cons_zero, List.getD_cons_succ]
 rw [dn (by decide), dn (by decide), bg (by decide), akh _ _ _ _ _ _ _ 2 (by rfl) (by omega), akh _ _ _ _ _ _ _ 13 (by rfl) (by omega), akh _ _ _ _ _ _ _ 22 (by rfl) (by omega), bdd, bdd]
 rfl
theorem bqg (rd : Int) (x : BitVec 32) {ρ : Type} (k : Int → Option ρ) : P.l6 32 rd [7, 18, 3] [17, 19, 10] [2, 13, 22] [6, 11, 25] (x.toNat : Int) 0 k = k ((lo p32.a x).toNat : Int) := by
 rw [P.abh]
 unfold P.x9
 simp only [List.getD_cons_zero, List.getD_cons_succ]
 rw [bg (by decide), akh _ _ _ _ _ _ _ 7 (by rfl) (by omega), akh _ _ _ _ _ _ _ 18 (by rfl) (by omega), dn (by decide), bdd, show (3 : Int).toNat = 3 from rfl, bsj _ _ (by omega), bdd]
 rfl
theorem bre (rd : Int) (x : BitVec 32) {ρ : Type} (k : Int → Option ρ) : P.l6 32 rd [7, 18, 3] [17, 19, 10] [2, 13, 22] [6, 11, 25] (x.toNat : Int) 1 k = k ((lo p32.b x).toNat : Int) := by
 rw [P.abh]
 unfold P.x9
 simp only [List.getD_cons_zero, List.getD_cons_succ]
 rw [dn (by decide), bg (by decide), akh _ _ _ _ _ _ _ 17 (by rfl) (by omega), akh _ _ _ _ _ _ _ 19 (by rfl) (by omega), dn (by decide), bdd, show (10 : Int).toNat = 10 from rfl, bsj _ _ (by omega), bdd]
 rfl
theorem brf (t : Nat) (h : t < 64) {ρ : Type} (k : Int → Option ρ) : P.o8 (t : Int) k = k ((p32.K t).toNat : Int) := by
 rw [P.apq]
 unfold P.aic
 rw [bg (by omega), bg (by omega), toNat_cast, K32]
theorem v8 {w : Nat} (v : List (BitVec w)) (hv : v.length = 8) : v = [v.getD 0 0, v.getD 1 0, v.getD 2 0, v.getD 3 0, v.getD 4 0, v.getD 5 0, v.getD 6 0, v.getD 7 0] := by
 match v, hv with
 | [a, b, c, d, e, f, g, h], _ => rfl
theorem cd6 (t : Nat) : ((t : Nat) : Int).tmod 16 = ((t % 16 : Nat) : Int) := by
 rw [Int.tmod_eq_emod_of_nonneg (by omega)]; rfl
theorem bz3 (b : List Int) (hb : In 256 b) (hl : b.length = 16 * 4) (rd : Int) (t0 t1 t2 t3 h1 h2 : List Int) {ρ : Type} (k0 : List Int → Int → Int → Int → Int → List Int → List Int → List Int → List Int → List Int → List Int → List Int → Option ρ) :
    P.aaq b 4 0 32 rd t0 t1 t2 t3 h1 h2 (List.replicate 16 0) k0 = k0 b 4 16 32 rd t0 t1 t2 t3 h1 h2 (cv (ng 32 b 16)) := by
 rw [P.ag9]
 unfold P.ad2 P.b2d P.bvm P.b47
 refine tu (fun i => (b, 4, (i : Int), 32, rd, t0, t1, t2, t3, h1, h2, cv (ng 32 b i) ++ List.replicate (16 - i) 0)) 16 (by simp [ng, cv]) (fun i hi next hn' => ?_) (fun next => ?_) (by omega)
 ·simp only [P.aan, toNat_cast]
  have e1 : IntKind.i64.wrap ((i : Int) * 4) = ((i * 4 : Nat) : Int) := by rw [ni (by omega) (by omega)]; omega
  have e2 : IntKind.i64.wrap (IntKind.i64.wrap ((i : Int) + 1) * 4) = (((i + 1) * 4 : Nat) : Int) := by rw [ni (x := (i : Int) + 1) (by omega) (by omega), ni (by omega) (by omega)]; omega
  rw [e1, e2]
  simp only [toNat_cast]
  have hlen : ((b.take ((i + 1) * 4)).drop (i * 4)).length = 4 := by simp; omega
  rw [bg (by omega), bg (by omega), bg (by omega), bg (by omega), zf _ ((hb.take _).drop _) (by omega), bg (by omega), bg (by omega)]
  have e3 : IntKind.u32.wrap ((T 8 ((b.take ((i + 1) * 4)).drop (i * 4)).reverse % 2 ^ 64 : Nat) : Int) = (((BitVec.ofNat 32 (T 8 ((b.take ((i + 1) * 4)).drop (i * 4)).reverse)).toNat : Nat) : Int) := by
   rw [bzl, BitVec.toNat_ofNat]; omega
  have e4 : IntKind.i64.wrap ((i : Int) + 1) = ((i + 1 : Nat) : Int) := by rw [ni (by omega) (by omega)]; omega
  rw [e3, e4]
  have e5 : (cv (ng 32 b i) ++ List.replicate (16 - i) (0 : Int)).set i (((BitVec.ofNat 32 (T 8 ((b.take ((i + 1) * 4)).drop (i * 4)).reverse)).toNat : Nat) : Int) = cv (ng 32 b (i + 1)) ++ List.replicate (16 - (i + 1)) 0 := by
   rw [List.set_append_right _ _ (by simp [qz]), yu, qz, Nat.sub_self, show 16 - i = (16 - (i + 1)) + 1 by omega, List.replicate_succ, List.set_cons_zero, aym, ← ag2, List.append_assoc]
   rfl
  rw [e5]
  exact hn'
 ·simp only [P.aan]
  rw [dn (by omega)]
  simp
theorem bt0 (l v : List (BitVec 32)) (hv : v.length = 8) (h2 h1 : List Int) {ρ : Type} (k0 : Int → Int → List Int → List Int → List Int → Int → Int → List Int → List Int → List Int → List Int → List Int → Option ρ) (hl : l.length = 16) :
    P.vv 64 0 (cv (win p32 l 0)) h2 h1 32 64 [7, 18, 3] [17, 19, 10] [2, 13, 22] [6, 11, 25] (cv v) k0 =
     k0 64 64 (cv (win p32 l 64)) h2 h1 32 64 [7, 18, 3] [17, 19, 10] [2, 13, 22] [6, 11, 25] (cv (runs p32 l v 64)) := by
 rw [P.ag4]
 unfold P.acy P.b22 P.by5 P.b8w
 refine tu (fun t => (64, (t : Int), cv (win p32 l t), h2, h1, 32, 64, [7, 18, 3], [17, 19, 10], [2, 13, 22], [6, 11, 25], cv (runs p32 l v t))) 64 rfl (fun t ht next hn' => ?_) (fun next => ?_) (by omega)
 ·simp only [P.aac]
  have e1 : IntKind.i64.wrap ((t : Int) + 1) = ((t + 1 : Nat) : Int) := by rw [ni (by omega) (by omega)]; omega
  have e9 : IntKind.i64.wrap ((t : Int) + 9) = ((t + 9 : Nat) : Int) := by rw [ni (by omega) (by omega)]; omega
  have e14 : IntKind.i64.wrap ((t : Int) + 14) = ((t + 14 : Nat) : Int) := by rw [ni (by omega) (by omega)]; omega
  simp only [e1, e9, e14, cd6, toNat_cast, ahc]
  have g0 := avs p32 l t 0 (by omega)
  rw [Nat.add_zero] at g0
  rw [g0, avs p32 l t 1 (by omega), avs p32 l t 9 (by omega), avs p32 l t 14 (by omega)]
  have hV := v8 _ (ao8 p32 l v hv t)
  rw [bg (by omega), bg (by omega), bg (by omega), bo1, brf t ht, bno, bg (by omega), bg (by omega), bqg, bg (by omega), bg (by omega), bg (by omega), bg (by omega), bre, bg (by omega), bg (by omega)]
  simp only [add32, bdd, b3y, cde]
  rw [← bkr p32 l hl t, bav, bjx]
  have hr : cv (runs p32 l v (t + 1)) = (((List.take 1 (cv (runs p32 l v t))).append (List.take 7 (List.take 7 (List.drop 0 (cv (runs p32 l v t)))) ++ List.drop (1 + min 7 (List.take 7 (List.drop 0 (cv (runs p32 l v t)))).length) (cv (runs p32 l v t)))).set 4
      (((runs p32 l v t).getD 3 0 + bu2 p32 t (W p32 l t) (runs p32 l v t)).toNat : Int)).set 0 ((bu2 p32 t (W p32 l t) (runs p32 l v t) + cbl p32 (runs p32 l v t)).toNat : Int) := by
   rw [hV]
   rfl
  have h3 : ((List.take 1 (cv (runs p32 l v t))).append (List.take 7 (List.take 7 (List.drop 0 (cv (runs p32 l v t)))) ++ List.drop (1 + min 7 (List.take 7 (List.drop 0 (cv (runs p32 l v t)))).length) (cv (runs p32 l v t)))).getD 4 0 = (((runs p32 l v t).getD 3 0).toNat : Int) := by
   rw [hV]
   rfl
  rw [h3, add32]
  rw [hr] at hn'
  exact hn'
 ·simp only [P.aac]
  rw [dn (by omega)]
  rfl
theorem bui (v u : List (BitVec 32)) (hv : v.length = 8) (hu : u.length = 8) (h2 : List Int) {ρ : Type} (k0 : Int → List Int → List Int → List Int → Option ρ) :
    P.uq 0 (cv v) h2 (cv u) k0 = k0 8 (cv v) h2 (cv ((List.range 8).map fun i => u.getD i 0 + v.getD i 0)) := by
 rw [P.agw]
 unfold P.acu P.b1f P.bwr P.b81
 have hs : ∀ i, i ≤ 8 → (((List.range i).map fun i => u.getD i 0 + v.getD i 0) ++ u.drop i).length = 8 := fun i hi => by simp; omega
 refine tu (fun i => ((i : Int), cv v, h2, cv (((List.range i).map fun i => u.getD i 0 + v.getD i 0) ++ u.drop i))) 8 (by simp) (fun i hi next hn' => ?_) (fun next => ?_) (by omega)
 ·simp only [P.aae, toNat_cast, ahc]
  have e1 : IntKind.i64.wrap ((i : Int) + 1) = ((i + 1 : Nat) : Int) := by rw [ni (by omega) (by omega)]; omega
  have e2 : (((List.range i).map fun i => u.getD i 0 + v.getD i 0) ++ u.drop i).getD i 0 = u.getD i 0 := by
   rw [List.getD_eq_getElem?_getD, List.getElem?_append_right (by simp), List.getElem?_drop, List.length_map, List.length_range, List.getD_eq_getElem?_getD]
   congr 2
   omega
  rw [e1, e2, add32, bav]
  have e3 : (((List.range i).map fun i => u.getD i 0 + v.getD i 0) ++ u.drop i).set i (u.getD i 0 + v.getD i 0) = ((List.range (i + 1)).map fun i => u.getD i 0 + v.getD i 0) ++ u.drop (i + 1) := by
   rw [List.set_append_right _ _ (by simp), List.length_map, List.length_range, Nat.sub_self, List.range_succ, List.map_append, List.append_assoc, List.drop_eq_getElem_cons (by omega), List.set_cons_zero]
   rfl
  rw [e3]
  simp (disch := omega) only [bg, dn, gu, cu, fq, fu, jh, oh, qm, ni]
  exact hn'
 ·simp only [P.aae]
  rw [dn (by omega), List.drop_eq_nil_of_le (by omega), List.append_nil]
  rfl
theorem bnu (v : List (BitVec 32)) (hv : v.length = 8) (b : List Int) (hb : In 256 b) (hl : b.length = 16 * 4) {ρ : Type} (k : List Int → Option ρ) :
    P.mo 32 64 [7, 18, 3] [17, 19, 10] [2, 13, 22] [6, 11, 25] (cv v) b k = k (cv (ayx p32 v b)) := by
 rw [P.ady]
 unfold P.zu
 rw [show IntKind.i64.wrap ((32 : Int).tdiv 8) = 4 from rfl]
 have := bz3 b hb hl 64 [7, 18, 3] [17, 19, 10] [2, 13, 22] [6, 11, 25] (cv v) (List.replicate 8 0) (fun (q0 : List Int) (q1 q2 q3 q4 : Int) (q5 q6 q7 q8 q9 q10 q11 : List Int) =>
  P.vv q4 (0 : Int) q11 q10 q9 q3 q4 q5 q6 q7 q8 q9
   fun (q12 q13 : Int) (q14 q15 q16 : List Int) (q17 q18 : Int) (q19 q20 q21 q22 q23 : List Int) =>
   P.uq (0 : Int) q16 q15 q23 fun (q24 : Int) (q25 q26 q27 : List Int) => k q27)
 refine this.trans ?_
 rw [← win_zero p32, bt0 _ v hv _ _ _ (qz b 16), bui v _ hv (ao8 _ _ _ hv _)]
 rfl
end Q
end

section
/- SHA-2: the document's block of words of 32 bits. -/
namespace Q
open Go Go.Abs
set_option linter.unusedVariables false
set_option linter.unusedSimpArgs false
theorem ad5 (b : List Int) (hb : In 256 b) (hn : b.length ≤ 1000000) {ρ : Type} (k : Int → Option ρ) : P.ad5 b k = k ((T 8 b.reverse % 2 ^ 64 : Nat) : Int) := by
 rw [P.bbf]
 unfold P.aq9
 rw [P.bdg]
 unfold P.bbx P.b1n P.bze P.b6h
 refine tu (fun i => (b, ((T 8 (b.take i).reverse % 2 ^ 64 : Nat) : Int), (i : Int))) b.length (by simp [T]) (fun i hi next hn' => ?_) (fun next => ?_) (by omega)
 ·obtain ⟨x, hx, hx2, hx3⟩ := byte_at hb i
  have est := bdh b i hi
  rw [← hx3] at est
  simp only [P.aut, toNat_cast]
  have e1 : IntKind.u64.wrap (IntKind.u64.wrap (((T 8 (b.take i).reverse % 2 ^ 64 : Nat) : Int) * 256) + IntKind.u64.wrap (x : Int)) = ((T 8 (b.take (i + 1)).reverse % 2 ^ 64 : Nat) : Int) := by
   rw [bnc, bnc, bnc, est]; omega
  rw [hx, e1]
  simp (disch := omega) only [bg, dn, gu, cu, fq, fu, jh, oh, qm, ni]
  exact hn'
 ·simp only [P.aut]
  rw [dn (by omega), List.take_length]
theorem an3 (x m : Int) (n : Nat) (hm : m = (n : Int)) (hn : n ≤ 32) : ∃ q, ∀ {ρ : Type} (k : Int → Option ρ), P.zy x m false k = k q := by
 subst hm
 refine ⟨bits .or .u64 (x.fdiv ((2 : Int) ^ min ((n : Int)).toNat 64)) (bits .and .u64 (IntKind.u64.wrap (x * (2 : Int) ^ min ((32 : Int) - (n : Int)).toNat 64)) 4294967295), fun k => ?_⟩
 rw [P.ajr]
 unfold P.afi
 rw [qm, dn (by omega), ni (by omega) (by omega), dn (by omega)]
theorem bmk (x a b c : Int) (l m n : Nat) (ha : a = (l : Int)) (hb : b = (m : Int)) (hc : c = (n : Int)) (h1 : l ≤ 32) (h2 : m ≤ 32) (h3 : n ≤ 32) : ∃ q, ∀ {ρ : Type} (k : Int → Option ρ), P.zn x a b c false false k = k q := by
 obtain ⟨q1, e1⟩ := an3 x a l ha h1
 obtain ⟨q2, e2⟩ := an3 x b m hb h2
 obtain ⟨q3, e3⟩ := an3 x c n hc h3
 refine ⟨bits .xor .u64 (bits .xor .u64 q1 q2) q3, fun k => ?_⟩
 rw [P.afw]
 unfold P.ac2
 rw [dn (by omega), jh, qm, e3, e1, e2]
theorem bj0 (x a b c : Int) (l m n : Nat) (ha : a = (l : Int)) (hb : b = (m : Int)) (hc : c = (n : Int)) (h1 : l ≤ 32) (h2 : m ≤ 32) (h3 : n ≤ 32) : ∃ q, ∀ {ρ : Type} (k : Int → Option ρ), P.zn x a b c true false k = k q := by
 obtain ⟨q1, e1⟩ := an3 x a l ha h1
 obtain ⟨q2, e2⟩ := an3 x b m hb h2
 refine ⟨bits .xor .u64 (bits .xor .u64 q1 q2) (x.fdiv ((2 : Int) ^ min c.toNat 64)), fun k => ?_⟩
 rw [P.afw]
 unfold P.ac2
 rw [dn (by omega), jh, oh, e1, e2]
theorem anb (x : BitVec 32) (m : Int) (n : Nat) (hm : m = (n : Int)) (hn : n ≤ 32) {ρ : Type} (k : Int → Option ρ) : P.zy (x.toNat : Int) m false k = k ((rr x n).toNat : Int) := by
 subst hm
 rw [P.ajr]
 unfold P.afi
 rw [qm, dn (by omega), ni (by omega) (by omega), dn (by omega), show (32 : Int) - (n : Int) = ((32 - n : Nat) : Int) by omega]
 simp only [toNat_cast]
 rw [cc0 _ _ (by omega), nshl _ _ (by omega), nor]
 rfl
theorem brm (x : BitVec 32) (t : Nat × Nat × Nat) (a b c : Int) (ha : a = (t.1 : Int)) (hb : b = (t.2.1 : Int)) (hc : c = (t.2.2 : Int)) (h1 : t.1 ≤ 32) (h2 : t.2.1 ≤ 32) (h3 : t.2.2 ≤ 32) {ρ : Type} (k : Int → Option ρ) :
    P.zn (x.toNat : Int) a b c false false k = k ((hi t x).toNat : Int) := by
 rw [P.afw]
 unfold P.ac2
 rw [dn (by omega), jh, qm, anb _ _ _ hc h3, anb _ _ _ ha h1, anb _ _ _ hb h2, bry, bry]
 rfl
theorem brz (x : BitVec 32) (t : Nat × Nat × Nat) (a b c : Int) (ha : a = (t.1 : Int)) (hb : b = (t.2.1 : Int)) (hc : c = (t.2.2 : Int)) (h1 : t.1 ≤ 32) (h2 : t.2.1 ≤ 32) (h3 : t.2.2 ≤ 32) {ρ : Type} (k : Int → Option ρ) :
    P.zn (x.toNat : Int) a b c true false k = k ((lo t x).toNat : Int) := by
 rw [P.afw]
 unfold P.ac2
 rw [dn (by omega), jh, oh, anb _ _ _ ha h1, anb _ _ _ hb h2, bry, hc]
 simp only [toNat_cast]
 rw [cc0 _ _ (by omega), bry]
 rfl
theorem cbt (a b c d : BitVec 32) : bits .and .u64 (IntKind.u64.wrap (IntKind.u64.wrap (IntKind.u64.wrap ((a.toNat : Int) + (b.toNat : Int)) + (c.toNat : Int)) + (d.toNat : Int))) 4294967295 = ((a + b + c + d).toNat : Int) := by
 have ha := aw4 a
 have hb := aw4 b
 have hc := aw4 c
 have hd := aw4 d
 rw [← Int.natCast_add, afr _ (by omega), ← Int.natCast_add, afr _ (by omega), ← Int.natCast_add, afr _ (by omega), bmi _ (by omega), BitVec.toNat_add, BitVec.toNat_add, BitVec.toNat_add]
 omega
theorem b48 (a b : BitVec 32) : bits .and .u64 (IntKind.u64.wrap ((a.toNat : Int) + (b.toNat : Int))) 4294967295 = ((a + b).toNat : Int) := by
 have ha := aw4 a
 have hb := aw4 b
 rw [← Int.natCast_add, afr _ (by omega), bmi _ (by omega), BitVec.toNat_add]
theorem cbg (d a b c e f : BitVec 32) : bits .and .u64 (IntKind.u64.wrap ((d.toNat : Int) + IntKind.u64.wrap (IntKind.u64.wrap (IntKind.u64.wrap (IntKind.u64.wrap ((a.toNat : Int) + (b.toNat : Int)) + (c.toNat : Int)) + (e.toNat : Int)) + (f.toNat : Int)))) 4294967295 = ((d + (a + b + c + e + f)).toNat : Int) := by
 have hd := aw4 d
 have ha := aw4 a
 have hb := aw4 b
 have hc := aw4 c
 have he := aw4 e
 have hf := aw4 f
 rw [← Int.natCast_add, afr _ (by omega), ← Int.natCast_add, afr _ (by omega), ← Int.natCast_add, afr _ (by omega), ← Int.natCast_add, afr _ (by omega), ← Int.natCast_add, afr _ (by omega), bmi _ (by omega), BitVec.toNat_add, BitVec.toNat_add, BitVec.toNat_add, BitVec.toNat_add, BitVec.toNat_add]
 omega
theorem b65 (a b c e f g h : BitVec 32) : bits .and .u64 (IntKind.u64.wrap (IntKind.u64.wrap (IntKind.u64.wrap (IntKind.u64.wrap (IntKind.u64.wrap ((a.toNat : Int) + (b.toNat : Int)) + (c.toNat : Int)) + (e.toNat : Int)) + (f.toNat : Int)) + IntKind.u64.wrap ((g.toNat : Int) + (h.toNat : Int)))) 4294967295 = (((a + b + c + e + f) + (g + h)).toNat : Int) := by
 have ha := aw4 a
 have hb := aw4 b
 have hc := aw4 c
 have he := aw4 e
 have hf := aw4 f
 have hg := aw4 g
 have hh := aw4 h
 rw [← Int.natCast_add, afr _ (by omega), ← Int.natCast_add, afr _ (by omega), ← Int.natCast_add, afr _ (by omega), ← Int.natCast_add, afr _ (by omega), ← Int.natCast_add (g.toNat), afr _ (by omega), ← Int.natCast_add, afr _ (by omega), bmi _ (by omega), BitVec.toNat_add, BitVec.toNat_add, BitVec.toNat_add, BitVec.toNat_add, BitVec.toNat_add, BitVec.toNat_add]
 omega
theorem b68 (e f g : BitVec 32) : bits .xor .u64 (bits .and .u64 (e.toNat : Int) (f.toNat : Int)) (bits .and .u64 (bits .xor .u64 4294967295 (e.toNat : Int)) (g.toNat : Int)) = ((g ^^^ (e &&& (f ^^^ g))).toNat : Int) := by
 rw [show (4294967295 : Int) = ((BitVec.allOnes 32).toNat : Int) from rfl, nand, bry, nand, bry, b0r]
theorem bv8 (a b c : BitVec 32) : bits .xor .u64 (bits .xor .u64 (bits .and .u64 (a.toNat : Int) (b.toNat : Int)) (bits .and .u64 (a.toNat : Int) (c.toNat : Int))) (bits .and .u64 (b.toNat : Int) (c.toNat : Int)) = (((a &&& b) ||| (c &&& (a ||| b))).toNat : Int) := by
 rw [nand, nand, nand, bry, bry, br9]
def awz (b : List Int) (t : Nat) : List (BitVec 32) := (List.range t).map (W p32 (ng 32 b 16))
theorem ba3 (b : List Int) (t : Nat) : awz b (t + 1) = awz b t ++ [W p32 (ng 32 b 16) t] := by simp [awz, List.range_succ]
theorem be3 (b : List Int) (t : Nat) : (awz b t).length = t := by simp [awz]
theorem atd (b : List Int) (t i : Nat) (h : i < t) : (awz b t).getD i 0 = W p32 (ng 32 b 16) i := by
 unfold awz
 rw [getD_lt (by simpa using h)]; simp
theorem bs4 (b : List Int) (t : Nat) (h : t < 16) : W p32 (ng 32 b 16) t = BitVec.ofNat 32 (T 8 ((b.take ((t + 1) * 4)).drop (t * 4)).reverse) := by
 rw [← br2 p32 _ (by rw [qz]; omega) 0 t (by rw [qz]; omega), show sched p32 (ng 32 b 16) 0 = ng 32 b 16 from rfl, getD_lt (by rw [qz]; exact h)]
 simp [ng]
theorem bmd (b : List Int) (hb : In 256 b) (hl : b.length = 16 * 4) {ρ : Type} (k : List Int → Option ρ) : P.ac8 b false 64 4294967295 k = k (cv (awz b 64)) := by
 rw [P.an9]
 unfold P.ah0
 rw [qm, P.aoq]
 unfold P.aom P.b0b P.bu5 P.b2y
 refine tu (fun t => (b, false, 64, 4294967295, 4, (t : Int), cv (awz b t))) 64 rfl (fun t ht next hn' => ?_) (fun next => ?_) (by omega)
 ·simp only [P.ag3, toNat_cast]
  have e1 : IntKind.i64.wrap ((t : Int) + 1) = ((t + 1 : Nat) : Int) := by rw [ni (by omega) (by omega)]; omega
  rw [bg (by omega)]
  have hlen := be3 b t
  by_cases h16 : t < 16
  ·have e2 : IntKind.i64.wrap ((t : Int) * 4) = ((t * 4 : Nat) : Int) := by rw [ni (by omega) (by omega)]; omega
   have e3 : IntKind.i64.wrap (IntKind.i64.wrap ((t : Int) * 4) + 4) = (((t + 1) * 4 : Nat) : Int) := by rw [e2, ni (by omega) (by omega)]; omega
   have hl2 : ((b.take ((t + 1) * 4)).drop (t * 4)).length = 4 := by simp; omega
   rw [bg (by omega), e3, e2, bg (by omega), bg (by omega), bg (by omega)]
   simp only [toNat_cast]
   have hT := b0z 8 ((b.take ((t + 1) * 4)).drop (t * 4)).reverse
   rw [List.length_reverse, hl2] at hT
   have e4 : ((T 8 ((b.take ((t + 1) * 4)).drop (t * 4)).reverse % 2 ^ 64 : Nat) : Int) = ((W p32 (ng 32 b 16) t).toNat : Int) := by
    rw [bs4 b t h16, BitVec.toNat_ofNat, Nat.mod_eq_of_lt (by omega), Nat.mod_eq_of_lt (by omega)]
   rw [ad5 _ ((hb.take _).drop _) (by omega), bg (by rw [yu]; omega), e4, e1, show [((W p32 (ng 32 b 16) t).toNat : Int)] = cv [W p32 (ng 32 b 16) t] from rfl, ag2, ← ba3]
   exact hn'
  ·have e15 : IntKind.i64.wrap ((t : Int) - 15) = ((t - 15 : Nat) : Int) := by rw [ni (by omega) (by omega)]; omega
   have e2 : IntKind.i64.wrap ((t : Int) - 2) = ((t - 2 : Nat) : Int) := by rw [ni (by omega) (by omega)]; omega
   have e7 : IntKind.i64.wrap ((t : Int) - 7) = ((t - 7 : Nat) : Int) := by rw [ni (by omega) (by omega)]; omega
   have e16 : IntKind.i64.wrap ((t : Int) - 16) = ((t - 16 : Nat) : Int) := by rw [ni (by omega) (by omega)]; omega
   simp only [e15, e2, e7, e16, toNat_cast, ahc, yu, hlen]
   rw [atd b t _ (by omega), atd b t _ (by omega), atd b t _ (by omega), atd b t _ (by omega)]
   rw [dn (by omega), bg (by omega), bg (by omega), brz _ p32.a _ _ _ (by rfl) (by rfl) (by rfl) (by decide) (by decide) (by decide), bg (by omega), bg (by omega), brz _ p32.b _ _ _ (by rfl) (by rfl) (by rfl) (by decide) (by decide) (by decide), qm]
   have hW := bkr p32 (ng 32 b 16) (qz b 16) (t - 16)
   rw [show t - 16 + 16 = t by omega, show t - 16 + 1 = t - 15 by omega, show t - 16 + 9 = t - 7 by omega, show t - 16 + 14 = t - 2 by omega] at hW
   have hW2 : lo p32.b (W p32 (ng 32 b 16) (t - 2)) + W p32 (ng 32 b 16) (t - 7) + lo p32.a (W p32 (ng 32 b 16) (t - 15)) + W p32 (ng 32 b 16) (t - 16) = W p32 (ng 32 b 16) t := by rw [hW]; ac_rfl
   rw [bg (by omega), bg (by omega), bg (by omega), bg (by omega), bg (by omega), cbt, hW2, e1, show [((W p32 (ng 32 b 16) t).toNat : Int)] = cv [W p32 (ng 32 b 16) t] from rfl, ag2, ← ba3]
   exact hn'
 ·simp only [P.ag3]
  rw [dn (by omega)]
theorem bsg (b : List Int) (v : List (BitVec 32)) (hv : v.length = 8) (h0 h1 : List Int) {ρ : Type} (k0 : Bool → Int → Int → Int → List Int → List Int → List Int → List Int → List Int → List Int → Option ρ) :
    P.afc false 64 4294967295 0 h0 h1 P.roots256 P.roots512 (cv (awz b 64)) (cv v) k0 = k0 false 64 4294967295 64 h0 h1 P.roots256 P.roots512 (cv (awz b 64)) (cv (runs p32 (ng 32 b 16) v 64)) := by
 rw [P.amq]
 unfold P.ald P.bwt P.buz P.b2m
 refine tu (fun t => (false, 64, 4294967295, (t : Int), h0, h1, P.roots256, P.roots512, cv (awz b 64), cv (runs p32 (ng 32 b 16) v t))) 64 rfl (fun t ht next hn' => ?_) (fun next => ?_) (by omega)
 ·simp only [P.afb]
  have e1 : IntKind.i64.wrap ((t : Int) + 1) = ((t + 1 : Nat) : Int) := by rw [ni (by omega) (by omega)]; omega
  have hlen := be3 b 64
  simp only [e1, toNat_cast, ahc, yu, hlen]
  rw [atd b 64 t ht, K32]
  rw [bg (by omega), brm _ p32.c _ _ _ (by rfl) (by rfl) (by rfl) (by decide) (by decide) (by decide), brm _ p32.d _ _ _ (by rfl) (by rfl) (by rfl) (by decide) (by decide) (by decide), qm]
  rw [bg (by omega), bg (by omega), bg (by omega), bg (by omega), b68, bv8, b65, cbg]
  exact hn'
 ·simp only [P.afb]
  rw [dn (by omega)]
  rfl
theorem bt6 (v u : List (BitVec 32)) (hv : v.length = 8) (hu : u.length = 8) (h1 : List Int) {ρ : Type} (k0 : Int → Int → List Int → List Int → List Int → Option ρ) :
    P.ae6 4294967295 0 (cv v) h1 (cv u) k0 = k0 4294967295 8 (cv v) h1 (cv ((List.range 8).map fun i => u.getD i 0 + v.getD i 0)) := by
 rw [P.amo]
 unfold P.alc P.bwl P.bu8 P.b27
 refine tu (fun i => (4294967295, (i : Int), cv v, h1, cv (((List.range i).map fun i => u.getD i 0 + v.getD i 0) ++ u.drop i))) 8 (by simp) (fun i hi next hn' => ?_) (fun next => ?_) (by omega)
 ·simp only [P.ae9, toNat_cast, ahc]
  have e1 : IntKind.i64.wrap ((i : Int) + 1) = ((i + 1 : Nat) : Int) := by rw [ni (by omega) (by omega)]; omega
  have e2 : (((List.range i).map fun i => u.getD i 0 + v.getD i 0) ++ u.drop i).getD i 0 = u.getD i 0 := by
   rw [List.getD_eq_getElem?_getD, List.getElem?_append_right (by simp), List.getElem?_drop, List.length_map, List.length_range, List.getD_eq_getElem?_getD]
   congr 2
   omega
  rw [e1, e2, b48, bav]
  have e3 : (((List.range i).map fun i => u.getD i 0 + v.getD i 0) ++ u.drop i).set i (u.getD i 0 + v.getD i 0) = ((List.range (i + 1)).map fun i => u.getD i 0 + v.getD i 0) ++ u.drop (i + 1) := by
   rw [List.set_append_right _ _ (by simp), List.length_map, List.length_range, Nat.sub_self, List.range_succ, List.map_append, List.append_assoc, List.drop_eq_getElem_cons (by omega), List.set_cons_zero]
   rfl
  rw [e3]
  simp (disch := omega) only [bg, dn, gu, cu, fq, fu, jh, oh, qm, ni]
  exact hn'
 ·simp only [P.ae9]
  rw [dn (by omega), List.drop_eq_nil_of_le (by omega), List.append_nil]
  rfl
theorem bmo (v : List (BitVec 32)) (hv : v.length = 8) (b : List Int) (hb : In 256 b) (hl : b.length = 16 * 4) {ρ : Type} (k : List Int → Option ρ) : P.ad8 (cv v) b false k = k (cv (ayx p32 v b)) := by
 rw [P.anp]
 unfold P.ahx
 have hr1 : ∀ (k : List Int → Option ρ), P.zk k = k P.roots256 := fun k => by rw [P.ai1]; kernel_rfl
 have hr2 : ∀ (k : List Int → Option ρ), P.zi k = k P.roots512 := fun k => by rw [P.aii]; kernel_rfl
 rw [hr1, hr2, qm, bmd b hb hl, bsg b v hv, bt6 v _ hv (ao8 _ _ _ hv _)]
 rfl
end Q
end
