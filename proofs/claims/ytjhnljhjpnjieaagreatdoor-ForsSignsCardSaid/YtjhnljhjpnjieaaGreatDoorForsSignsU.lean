/-
  ForsSigns, part 21: an interpreter of my own over abstract values, the pure functions, the walks and the plain law.
-/

import Derived.Test.YtjhnljhjpnjieaaGreatDoorForsSignsH
import Derived.Laws.Bits64
import Derived.Test.YtjhnljhjpnjieaaGreatDoorForsSignsL
import Derived.Test.YtjhnljhjpnjieaaGreatDoorForsSignsK
import Derived.Test.YtjhnljhjpnjieaaGreatDoorForsSignsI
import Derived.Test.YtjhnljhjpnjieaaGreatDoorForsSignsJ

section
/- Small laws for the plain proofs. -/
namespace Q
open Go Go.Abs
set_option linter.unusedVariables false
def In (m : Int) (l : List Int) : Prop := ∀ x, x ∈ l → 0 ≤ x ∧ x < m
theorem wf_u8 {n : Int} (h : wfI .u8 n) : 0 ≤ n ∧ n < 256 := by
 simp [wfI, Lit.wf, IntKind.min, IntKind.max, IntKind.signed, IntKind.bits] at h; omega
theorem bcu {l : List Int} (h : ∀ x, x ∈ l → wfI .u8 x) : In 256 l := fun x hx => wf_u8 (h x hx)
theorem In.tail {m x : Int} {l : List Int} (h : In m (x :: l)) : In m l := fun y hy => h y (List.mem_cons_of_mem _ hy)
theorem In.app {m : Int} {l r : List Int} (h1 : In m l) (h2 : In m r) : In m (l ++ r) := fun y hy => (List.mem_append.1 hy).elim (h1 y) (h2 y)
theorem In.left {m : Int} {l r : List Int} (h : In m (l ++ r)) : In m l := fun y hy => h y (List.mem_append_left _ hy)
theorem In.right {m : Int} {l r : List Int} (h : In m (l ++ r)) : In m r := fun y hy => h y (List.mem_append_right _ hy)
theorem In.take {m : Int} {l : List Int} (h : In m l) (n : Nat) : In m (l.take n) := fun y hy => h y (List.mem_of_mem_take hy)
theorem In.drop {m : Int} {l : List Int} (h : In m l) (n : Nat) : In m (l.drop n) := fun y hy => h y (List.mem_of_mem_drop hy)
theorem In.nil {m : Int} : In m [] := fun y hy => by simp at hy
theorem In.rev {m : Int} {l : List Int} (h : In m l) : In m l.reverse := fun y hy => h y (by simpa using hy)
theorem In.getD {m : Int} {l : List Int} (h : In m l) (i : Nat) (hm : 0 < m) : 0 ≤ l.getD i 0 ∧ l.getD i 0 < m := by
 rw [List.getD_eq_getElem?_getD]
 by_cases hi : i < l.length
 ·rw [List.getElem?_eq_getElem hi]; exact h _ (List.getElem_mem hi)
 ·rw [List.getElem?_eq_none (by omega)]; exact ⟨Int.le_refl 0, hm⟩
theorem In.map {m : Int} {α : Type} {l : List α} {f : α → Int} (h : ∀ a, a ∈ l → 0 ≤ f a ∧ f a < m) : In m (l.map f) := fun y hy => by
 obtain ⟨a, ha, rfl⟩ := List.mem_map.1 hy
 exact h a ha
theorem gq {α : Type} {a b : Int} (h : ¬ a = b) (x y : α) : br (a != b) x y = x := by rw [bne_iff_ne.2 h]; exact o9 x y
theorem dz {α : Type} {a b : Int} (h : a = b) (x y : α) : br (a != b) x y = y := by rw [bne_eq_false_iff_eq.2 h]; exact su x y
theorem dw {α : Type} {a b : Int} (h : a = b) (x y : α) : br (a == b) x y = x := by rw [beq_iff_eq.2 h]; exact o9 x y
theorem dx {α : Type} {a b : Int} (h : ¬ a = b) (x y : α) : br (a == b) x y = y := by rw [beq_eq_false_iff_ne.2 h]; exact su x y
theorem lq {α : Type} (b : Bool) (x y : α) : br (!b) x y = br b y x := by cases b <;> simp
theorem br4 {α : Type} (p : Prop) [Decidable p] (x y : α) : br (decide p) x y = if p then x else y := by
 by_cases h : p
 ·rw [av h, if_pos h]
 ·rw [dn h, if_neg h]
theorem bnc {X Y ρ : Type} {stp : X → (X → Option ρ) → (Y → Option ρ) → Option ρ} {K : Y → Option ρ} {r : Option ρ} (S : Nat → X) (n : Nat)
    (hstep : ∀ i, i < n → ∀ next, next (S (i + 1)) = r → stp (S i) next K = r) (hend : ∀ next, stp (S n) next K = r) {i : Nat} (hi : i ≤ n) (hn : n ≤ 18446744073709551616) : lp stp (S i) K = r := by
 have key : ∀ m i, m + i = n → lpN stp K m (S i) = r ∧ ∀ q, m ≤ q → lpN stp K q (S i) = r := by
  intro m
  induction m with
  | zero =>
   intro i hi
   have : i = n := by omega
   subst this
   refine ⟨hend _, fun q _ => ?_⟩
   cases q with
   | zero => exact hend _
   | succ q => exact hend _
  | succ m ih =>
   intro i hi
   refine ⟨hstep i (by omega) _ (ih (i + 1) (by omega)).1, fun q hq => ?_⟩
   cases q with
   | zero => omega
   | succ q => exact hstep i (by omega) _ ((ih (i + 1) (by omega)).2 q (by omega))
 exact (key (n - i) i (by omega)).2 FU (by rw [bpe]; omega)
theorem getD_lt {α : Type} {l : List α} {d : α} {i : Nat} (h : i < l.length) : l.getD i d = l[i] := by
 rw [List.getD_eq_getElem?_getD, List.getElem?_eq_getElem h]; rfl
theorem be0 {α : Type} {l : List α} {d : α} {i : Nat} (h : l.length ≤ i) : l.getD i d = d := by
 rw [List.getD_eq_getElem?_getD, List.getElem?_eq_none h]; rfl
theorem toNat_cast (n : Nat) : ((n : Int)).toNat = n := Int.toNat_natCast n
theorem bcr (f : Nat → Int) (i n : Nat) (h : i < n) (d : Int) : ((List.range i).map f ++ List.replicate (n - i) d).set i (f i) = (List.range (i + 1)).map f ++ List.replicate (n - (i + 1)) d := by
 rw [List.set_append_right _ _ (by simp), show n - i = (n - (i + 1)) + 1 by omega, List.replicate_succ]
 simp [List.range_succ]
theorem afi {α : Type} (f : Nat → α) (i : Nat) : (List.range i).map f ++ [f i] = (List.range (i + 1)).map f := by simp [List.range_succ]
theorem aln {α : Type} (l : List α) (d : α) (i : Nat) (h : i < l.length) : l.take i ++ [l.getD i d] = l.take (i + 1) := by
 rw [getD_lt h, List.take_add_one, List.getElem?_eq_getElem h]; rfl
theorem aeh {α : Type} (l : List α) (d : α) (i : Nat) (h : i < l.length) : l.drop i = l.getD i d :: l.drop (i + 1) := by
 rw [getD_lt h]; exact List.drop_eq_getElem_cons h
end Q
end

section
/- The bit operations as numbers. -/
namespace Q
open Go Go.Abs
set_option linter.unusedVariables false
theorem buy (x y : Nat) (hx : x < 256) (hy : y < 256) : bits .and .u8 (x : Int) (y : Int) = ((x &&& y : Nat) : Int) := by
 have h1 : x &&& y < 256 := Nat.and_lt_two_pow (n := 8) x hy
 have e : bits .and .u8 (x : Int) (y : Int) = IntKind.u8.wrap ((BitVec.ofInt 8 (x : Int) &&& BitVec.ofInt 8 (y : Int)).toNat : Int) := rfl
 have e2 : (BitVec.ofInt 8 (x : Int) &&& BitVec.ofInt 8 (y : Int)).toNat = x &&& y := by
  rw [BitVec.toNat_and, BitVec.toNat_ofInt, BitVec.toNat_ofInt]; congr 1 <;> omega
 rw [e, e2]; exact IntWalk.u8_in _ ⟨by omega, by omega⟩
theorem bfg (x y : Nat) (hx : x < 18446744073709551616) (hy : y < 18446744073709551616) : bits .or .u64 (x : Int) (y : Int) = ((x ||| y : Nat) : Int) := by
 have h1 : x ||| y < 18446744073709551616 := Nat.or_lt_two_pow (n := 64) hx hy
 have e : bits .or .u64 (x : Int) (y : Int) = IntKind.u64.wrap ((BitVec.ofInt 64 (x : Int) ||| BitVec.ofInt 64 (y : Int)).toNat : Int) := rfl
 have e2 : (BitVec.ofInt 64 (x : Int) ||| BitVec.ofInt 64 (y : Int)).toNat = x ||| y := by
  rw [BitVec.toNat_or, BitVec.toNat_ofInt, BitVec.toNat_ofInt]; congr 1 <;> omega
 rw [e, e2]; exact IntWalk.u64_in _ ⟨by omega, by omega⟩
theorem asa (x y : Nat) (hx : x < 18446744073709551616) (hy : y < 18446744073709551616) : bits .and .u64 (x : Int) (y : Int) = ((x &&& y : Nat) : Int) := by
 have h1 : x &&& y < 18446744073709551616 := Nat.and_lt_two_pow (n := 64) x hy
 have e : bits .and .u64 (x : Int) (y : Int) = IntKind.u64.wrap ((BitVec.ofInt 64 (x : Int) &&& BitVec.ofInt 64 (y : Int)).toNat : Int) := rfl
 have e2 : (BitVec.ofInt 64 (x : Int) &&& BitVec.ofInt 64 (y : Int)).toNat = x &&& y := by
  rw [BitVec.toNat_and, BitVec.toNat_ofInt, BitVec.toNat_ofInt]; congr 1 <;> omega
 rw [e, e2]; exact IntWalk.u64_in _ ⟨by omega, by omega⟩
theorem u8m (n : Int) : IntKind.u8.wrap n = n % 256 := by simp [IntKind.wrap, IntKind.bits, IntKind.signed]
theorem bvh (n : Int) : IntKind.u32.wrap n = n % 4294967296 := by simp [IntKind.wrap, IntKind.bits, IntKind.signed]
theorem bjf (n : Int) : IntKind.u64.wrap n = n % 18446744073709551616 := by simp [IntKind.wrap, IntKind.bits, IntKind.signed]
theorem bgk (a x i : Nat) (hx : x < 2 ^ i) : (a * 2 ^ i) ||| x = a * 2 ^ i + x := by
 rw [← Nat.shiftLeft_eq, Nat.shiftLeft_add_eq_or_of_lt hx]
end Q
end

section
/- Numbers and their digits, the lowest first. -/
namespace Q
open Go Go.Abs
set_option linter.unusedVariables false
def T (w : Nat) : List Int → Nat
 | [] => 0
 | x :: l => x.toNat % 2 ^ w + 2 ^ w * T w l
theorem p2 (n : Nat) : 0 < 2 ^ n := Nat.pow_pos (by omega)
theorem brw (w : Nat) : ∀ l : List Int, T w l < 2 ^ (w * l.length)
 | [] => by simp [T]
 | x :: l => by
  have ih := brw w l
  have h1 := Nat.mod_lt x.toNat (p2 w)
  rw [List.length_cons, Nat.mul_succ, Nat.add_comm, Nat.pow_add]
  simp only [T]
  have : 2 ^ w * (T w l + 1) ≤ 2 ^ w * 2 ^ (w * l.length) := Nat.mul_le_mul (Nat.le_refl _) ih
  rw [Nat.mul_add] at this
  omega
theorem bgp (w : Nat) : ∀ a b : List Int, T w (a ++ b) = T w a + 2 ^ (w * a.length) * T w b
 | [], b => by simp [T]
 | x :: a, b => by
  rw [List.cons_append, T, T, bgp w a b, List.length_cons, Nat.mul_succ, Nat.add_comm (w * a.length) w, Nat.pow_add, Nat.mul_add, Nat.mul_assoc]
  omega
theorem bvm (w : Nat) (l : List Int) (k : Nat) (h : k ≤ l.length) : T w l = T w (l.take k) + 2 ^ (w * k) * T w (l.drop k) := by
 have := bgp w (l.take k) (l.drop k)
 rw [List.take_append_drop, List.length_take, Nat.min_eq_left h] at this
 exact this
theorem axg (w : Nat) (l : List Int) (k : Nat) (h : k ≤ l.length) : T w (l.drop k) = T w l / 2 ^ (w * k) := by
 have := brw w (l.take k)
 rw [List.length_take, Nat.min_eq_left h] at this
 rw [bvm w l k h, Nat.add_mul_div_left _ _ (p2 _), Nat.div_eq_of_lt this, Nat.zero_add]
theorem btd (w : Nat) (l : List Int) (k : Nat) : T w l / 2 ^ (w * k) % 2 ^ w = (l.getD k 0).toNat % 2 ^ w := by
 by_cases h : k < l.length
 ·rw [← axg w l k (by omega), aeh l 0 k h, T, Nat.add_mul_mod_self_left, Nat.mod_mod]
 ·rw [be0 (by omega), Nat.div_eq_of_lt]
  ·rfl
  ·exact Nat.lt_of_lt_of_le (brw w l) (Nat.pow_le_pow_right (by omega) (Nat.mul_le_mul (Nat.le_refl _) (by omega)))
theorem wu {X Y ρ : Type} {stp : X → (X → Option ρ) → (Y → Option ρ) → Option ρ} {K : Y → Option ρ} {r : Option ρ} (S : Nat → X) (n : Nat) {x : X} (hx : x = S 0)
    (hstep : ∀ i, i < n → ∀ next, next (S (i + 1)) = r → stp (S i) next K = r) (hend : ∀ next, stp (S n) next K = r) (hn : n ≤ 18446744073709551616) : lp stp x K = r := by
 rw [hx]; exact bnc S n hstep hend (Nat.zero_le _) hn
def bsw (w n X : Nat) : List Int := (List.range n).map fun i => ((X / 2 ^ (w * i) % 2 ^ w : Nat) : Int)
@[simp] theorem acv (w n X : Nat) : (bsw w n X).length = n := by simp [bsw]
theorem bfc (w n X i : Nat) (h : i < n) : (bsw w n X).getD i 0 = ((X / 2 ^ (w * i) % 2 ^ w : Nat) : Int) := by
 rw [getD_lt (by simpa using h)]; simp [bsw]
theorem bge (w n X : Nat) : bsw w (n + 1) X = bsw w n X ++ [((X / 2 ^ (w * n) % 2 ^ w : Nat) : Int)] := by simp [bsw, List.range_succ]
theorem bi9 (w n X : Nat) : In (2 ^ w) (bsw w n X) := by
 refine In.map (fun i _ => ⟨Int.natCast_nonneg _, ?_⟩)
 have := Nat.mod_lt (X / 2 ^ (w * i)) (p2 w)
 have e : ((2 : Int) ^ w) = ((2 ^ w : Nat) : Int) := by simp
 rw [e]; omega
theorem bcs (X h w m : Nat) (hm : h + w ≤ m) : X % 2 ^ m / 2 ^ h % 2 ^ w = X / 2 ^ h % 2 ^ w := by
 have e : (2 : Nat) ^ m = 2 ^ h * (2 ^ w * 2 ^ (m - (h + w))) := by rw [← Nat.pow_add, ← Nat.pow_add]; congr 1; omega
 rw [e, Nat.mod_mul_right_div_self, Nat.mod_mul_right_mod]
theorem bd2 (X h w a b : Nat) (hb : a + b ≤ w) : X / 2 ^ h % 2 ^ w / 2 ^ a % 2 ^ b = X / 2 ^ (h + a) % 2 ^ b := by
 rw [bcs _ _ _ _ hb, Nat.div_div_eq_div_mul, ← Nat.pow_add]
theorem bm1 (X h w a : Nat) : X / 2 ^ h % 2 ^ w + 2 ^ w * (X / 2 ^ (h + w) % 2 ^ a) = X / 2 ^ h % 2 ^ (w + a) := by
 rw [Nat.pow_add 2 w a, Nat.mod_mul, Nat.pow_add, Nat.div_div_eq_div_mul]
end Q
end

section
/- bits: Unpack. -/
namespace Q
open Go Go.Abs
set_option linter.unusedVariables false
set_option linter.unusedSimpArgs false
def Such (n : Nat) (w c : Int) : Prop := 1 ≤ w ∧ w ≤ 24 ∧ 0 ≤ c ∧ c * w ≤ n * 8
instance (n : Nat) (w c : Int) : Decidable (Such n w c) := inferInstanceAs (Decidable (_ ∧ _))
theorem bi8 (n : Nat) (w c : Int) (hn : n ≤ 1000000) {ρ : Type} (k : Bool → Option ρ) :
    br (decide (w ≥ (1 : Int))) (br (decide (w ≤ (24 : Int))) (br (decide (c ≥ (0 : Int))) (br (decide (w = (0 : Int))) none
     (k (decide (c ≤ IntKind.i64.wrap ((IntKind.i64.wrap ((↑n : Int) * (8 : Int))).tdiv w))))) (k false)) (k false)) (k false) = k (decide (Such n w c)) := by
 by_cases h1 : w ≥ 1
 ·by_cases h2 : w ≤ 24
  ·by_cases h3 : c ≥ 0
   ·rw [av h1, av h2, av h3, dn (by omega)]
    congr 1
    have e0 : ((n : Int) * 8).tdiv w = (n : Int) * 8 / w := Int.tdiv_eq_ediv_of_nonneg (by omega)
    have e1 : (n : Int) * 8 / w ≤ n * 8 := Int.ediv_le_self _ (by omega)
    have e2 : 0 ≤ (n : Int) * 8 / w := Int.ediv_nonneg (by omega) (by omega)
    rw [o8 (x := (n : Int) * 8) (by omega) (by omega), e0, o8 (by omega) (by omega)]
    apply decide_eq_decide.2
    rw [Int.le_ediv_iff_mul_le (by omega)]
    unfold Such
    omega
   ·rw [av h1, av h2, dn h3, decide_eq_false (fun h => h3 h.2.2.1)]
  ·rw [av h1, dn h2, decide_eq_false (fun h => h2 h.2.1)]
 ·rw [dn h1, decide_eq_false (fun h => h1 h.1)]
theorem abo (b : List Int) (w c : Int) (hn : b.length ≤ 1000000) {ρ : Type} (k : Bool → Option ρ) : P.abo b w c k = k (decide (Such b.length w c)) := by
 rw [P.asy]; exact bi8 b.length w c hn k
theorem adv (b : List Int) (w c : Int) (hn : b.length ≤ 1000000) {ρ : Type} (k : Bool → Option ρ) : P.adv b w c k = k (decide (Such b.length w c)) := by
 rw [P.au2]; exact bi8 b.length w c hn k
theorem fdiv_pow (a n m : Nat) (h : n ≤ m) : (a : Int).fdiv ((2 : Int) ^ min n m) = ((a / 2 ^ n : Nat) : Int) := by
 rw [Nat.min_eq_left h, show ((2 : Int) ^ n) = ((2 ^ n : Nat) : Int) by simp, ← Int.ofNat_fdiv]
theorem mul_pow (a n m : Nat) (h : n ≤ m) : (a : Int) * ((2 : Int) ^ min n m) = ((a * 2 ^ n : Nat) : Int) := by
 rw [Nat.min_eq_left h, show ((2 : Int) ^ n) = ((2 ^ n : Nat) : Int) by simp, ← Int.natCast_mul]
theorem ah5 (a : Nat) (h : a < 18446744073709551616) : IntKind.u64.wrap (a : Int) = (a : Int) := by rw [bjf]; omega
theorem bpu (a : Nat) (h : a < 4294967296) : IntKind.u32.wrap (a : Int) = (a : Int) := by rw [bvh]; omega
theorem u8n (a : Nat) (h : a < 256) : IntKind.u8.wrap (a : Int) = (a : Int) := by rw [u8m]; omega
theorem bg9 {a b : Nat} (h : a ≤ b) : 2 ^ a ≤ 2 ^ b := Nat.pow_le_pow_right (by omega) h
theorem btz (w : Nat) (h : w ≤ 24) : IntKind.u64.wrap (IntKind.u64.wrap ((1 : Int) * (2 : Int) ^ min w 64) - (1 : Int)) = ((2 ^ w - 1 : Nat) : Int) := by
 have h1 := p2 w
 have h2 : 2 ^ w ≤ 2 ^ 24 := bg9 h
 rw [show (1 : Int) = ((1 : Nat) : Int) from rfl, mul_pow 1 w 64 (by omega), ah5 _ (by omega), show ((1 * 2 ^ w : Nat) : Int) - ((1 : Nat) : Int) = ((2 ^ w - 1 : Nat) : Int) by omega, ah5 _ (by omega)]
theorem bhd (x w : Nat) (hx : x < 18446744073709551616) (h : w ≤ 24) : bits .and .u64 (x : Int) (IntKind.u64.wrap (IntKind.u64.wrap ((1 : Int) * (2 : Int) ^ min w 64) - (1 : Int))) = ((x % 2 ^ w : Nat) : Int) := by
 have h2 : 2 ^ w ≤ 2 ^ 24 := bg9 h
 rw [btz w h, asa _ _ hx (by omega), Nat.and_two_pow_sub_one_eq_mod]
def aac (n : Nat) : Nat := (n + 7) / 8
theorem bfn (n : Nat) : n ≤ 8 * aac n := by unfold aac; omega
theorem bgx (n : Nat) : 8 * aac n < n + 8 := by unfold aac; omega
theorem byte_at {b : List Int} (hb : In 256 b) (t : Nat) : ∃ x : Nat, b.getD t 0 = (x : Int) ∧ x < 256 ∧ x = (b.getD t 0).toNat % 2 ^ 8 := by
 have := hb.getD t (by omega)
 exact ⟨(b.getD t 0).toNat, by omega, by omega, by omega⟩
end Q
end

section
/- Words of 32 and of 64 bits. -/
namespace Q
open Go Go.Abs
set_option linter.unusedVariables false
set_option linter.unusedSimpArgs false
theorem ofI {w : Nat} (x : BitVec w) : BitVec.ofInt w (x.toNat : Int) = x := by simp
theorem atz (x : BitVec 32) : x.toNat < 4294967296 := x.isLt
theorem bmi (x : BitVec 64) : x.toNat < 18446744073709551616 := x.isLt
theorem az6 (x y : BitVec 32) : bits .xor .u32 (x.toNat : Int) (y.toNat : Int) = ((x ^^^ y).toNat : Int) := by
 have e : bits .xor .u32 (x.toNat : Int) (y.toNat : Int) = IntKind.u32.wrap ((BitVec.ofInt 32 (x.toNat : Int) ^^^ BitVec.ofInt 32 (y.toNat : Int)).toNat : Int) := rfl
 rw [e, ofI, ofI, bpu _ (atz _)]
theorem by6 (x y : BitVec 32) : bits .and .u32 (x.toNat : Int) (y.toNat : Int) = ((x &&& y).toNat : Int) := by
 have e : bits .and .u32 (x.toNat : Int) (y.toNat : Int) = IntKind.u32.wrap ((BitVec.ofInt 32 (x.toNat : Int) &&& BitVec.ofInt 32 (y.toNat : Int)).toNat : Int) := rfl
 rw [e, ofI, ofI, bpu _ (atz _)]
theorem b6a (x y : BitVec 32) : bits .or .u32 (x.toNat : Int) (y.toNat : Int) = ((x ||| y).toNat : Int) := by
 have e : bits .or .u32 (x.toNat : Int) (y.toNat : Int) = IntKind.u32.wrap ((BitVec.ofInt 32 (x.toNat : Int) ||| BitVec.ofInt 32 (y.toNat : Int)).toNat : Int) := rfl
 rw [e, ofI, ofI, bpu _ (atz _)]
theorem add32 (x y : BitVec 32) : IntKind.u32.wrap ((x.toNat : Int) + (y.toNat : Int)) = ((x + y).toNat : Int) := by
 rw [bvh, BitVec.toNat_add]; omega
theorem akk (x y : BitVec 64) : bits .xor .u64 (x.toNat : Int) (y.toNat : Int) = ((x ^^^ y).toNat : Int) := by
 have e : bits .xor .u64 (x.toNat : Int) (y.toNat : Int) = IntKind.u64.wrap ((BitVec.ofInt 64 (x.toNat : Int) ^^^ BitVec.ofInt 64 (y.toNat : Int)).toNat : Int) := rfl
 rw [e, ofI, ofI, ah5 _ (bmi _)]
theorem bec (x y : BitVec 64) : bits .and .u64 (x.toNat : Int) (y.toNat : Int) = ((x &&& y).toNat : Int) := by
 have e : bits .and .u64 (x.toNat : Int) (y.toNat : Int) = IntKind.u64.wrap ((BitVec.ofInt 64 (x.toNat : Int) &&& BitVec.ofInt 64 (y.toNat : Int)).toNat : Int) := rfl
 rw [e, ofI, ofI, ah5 _ (bmi _)]
theorem byb (x y : BitVec 64) : bits .or .u64 (x.toNat : Int) (y.toNat : Int) = ((x ||| y).toNat : Int) := by
 have e : bits .or .u64 (x.toNat : Int) (y.toNat : Int) = IntKind.u64.wrap ((BitVec.ofInt 64 (x.toNat : Int) ||| BitVec.ofInt 64 (y.toNat : Int)).toNat : Int) := rfl
 rw [e, ofI, ofI, ah5 _ (bmi _)]
theorem ale (x y : BitVec 64) : IntKind.u64.wrap ((x.toNat : Int) + (y.toNat : Int)) = ((x + y).toNat : Int) := by
 rw [bjf, BitVec.toNat_add]; omega
theorem bea (x y : Nat) (hx : x < 18446744073709551616) (hy : y < 18446744073709551616) : bits .xor .u64 (x : Int) (y : Int) = ((x ^^^ y : Nat) : Int) := by
 have := akk (BitVec.ofNat 64 x) (BitVec.ofNat 64 y)
 rw [BitVec.toNat_xor, BitVec.toNat_ofNat, BitVec.toNat_ofNat, Nat.mod_eq_of_lt (by omega), Nat.mod_eq_of_lt (by omega)] at this
 exact this
/- words of 32 bits as numbers of 64 -/
theorem nlt (x : BitVec 32) : x.toNat < 18446744073709551616 := by have := atz x; omega
theorem boj (x y : BitVec 32) : bits .xor .u64 (x.toNat : Int) (y.toNat : Int) = ((x ^^^ y).toNat : Int) := by rw [bea _ _ (nlt x) (nlt y), BitVec.toNat_xor]
theorem nand (x y : BitVec 32) : bits .and .u64 (x.toNat : Int) (y.toNat : Int) = ((x &&& y).toNat : Int) := by rw [asa _ _ (nlt x) (nlt y), BitVec.toNat_and]
theorem nor (x y : BitVec 32) : bits .or .u64 (x.toNat : Int) (y.toNat : Int) = ((x ||| y).toNat : Int) := by rw [bfg _ _ (nlt x) (nlt y), BitVec.toNat_or]
theorem bi2 (n : Nat) (h : n < 18446744073709551616) : bits .and .u64 (n : Int) 4294967295 = ((n % 4294967296 : Nat) : Int) := by
 rw [show (4294967295 : Int) = ((2 ^ 32 - 1 : Nat) : Int) from rfl, asa _ _ h (by omega), Nat.and_two_pow_sub_one_eq_mod]
theorem bm8 (n : Nat) (h : n < 18446744073709551616) : bits .and .u64 (n : Int) 18446744073709551615 = (n : Int) := by
 rw [show (18446744073709551615 : Int) = ((2 ^ 64 - 1 : Nat) : Int) from rfl, asa _ _ h (by omega), Nat.and_two_pow_sub_one_eq_mod, Nat.mod_eq_of_lt (by omega)]
def rr {w : Nat} (x : BitVec w) (n : Nat) : BitVec w := (x >>> n) ||| (x <<< (w - n))
theorem au7 {w : Nat} (x : BitVec w) (n : Nat) : (x >>> n).toNat = x.toNat / 2 ^ n := by rw [BitVec.toNat_ushiftRight, Nat.shiftRight_eq_div_pow]
theorem ave {w : Nat} (x : BitVec w) (n : Nat) : (x <<< n).toNat = x.toNat * 2 ^ n % 2 ^ w := by rw [BitVec.toNat_shiftLeft, Nat.shiftLeft_eq]
theorem bpz (x : BitVec 32) (n : Nat) (h : n ≤ 32) : (x.toNat : Int).fdiv ((2 : Int) ^ min n 32) = ((x >>> n).toNat : Int) := by rw [fdiv_pow _ _ _ h, au7]
theorem b5l (x : BitVec 32) (n : Nat) (h : n ≤ 32) : IntKind.u32.wrap ((x.toNat : Int) * (2 : Int) ^ min n 32) = ((x <<< n).toNat : Int) := by
 rw [mul_pow _ _ _ h, bvh, ave]; omega
theorem bg6 (x : BitVec 64) (n : Nat) (h : n ≤ 64) : (x.toNat : Int).fdiv ((2 : Int) ^ min n 64) = ((x >>> n).toNat : Int) := by rw [fdiv_pow _ _ _ h, au7]
theorem bo8 (x : BitVec 64) (n : Nat) (h : n ≤ 64) : IntKind.u64.wrap ((x.toNat : Int) * (2 : Int) ^ min n 64) = ((x <<< n).toNat : Int) := by
 rw [mul_pow _ _ _ h, bjf, ave]; omega
theorem b57 (x : BitVec 32) (n : Nat) (h : n ≤ 64) : (x.toNat : Int).fdiv ((2 : Int) ^ min n 64) = ((x >>> n).toNat : Int) := by rw [fdiv_pow _ _ _ h, au7]
theorem nshl (x : BitVec 32) (n : Nat) (h : n ≤ 32) : bits .and .u64 (IntKind.u64.wrap ((x.toNat : Int) * (2 : Int) ^ min n 64)) 4294967295 = ((x <<< n).toNat : Int) := by
 have h1 := atz x
 have h2 : 2 ^ n ≤ 2 ^ 32 := bg9 h
 have h3 : x.toNat * 2 ^ n ≤ 4294967295 * 2 ^ 32 := Nat.mul_le_mul (by omega) h2
 rw [mul_pow _ _ _ (by omega), ah5 _ (by omega), bi2 _ (by omega), ave]
theorem btu {w : Nat} (e f g : BitVec w) : (e &&& f) ^^^ ((BitVec.allOnes w ^^^ e) &&& g) = g ^^^ (e &&& (f ^^^ g)) := by
 ext i hi
 simp
 cases e[i] <;> cases f[i] <;> cases g[i] <;> rfl
theorem bod {w : Nat} (a b c : BitVec w) : ((a &&& b) ^^^ (a &&& c)) ^^^ (b &&& c) = (a &&& b) ||| (c &&& (a ||| b)) := by
 ext i hi
 simp
 cases a[i] <;> cases b[i] <;> cases c[i] <;> rfl
end Q
end

section
/- keccak: 25 words by a function of their number; the program's round and the document's. -/
namespace QK
open Q
open Go Go.Abs
set_option linter.unusedVariables false
set_option linter.unusedSimpArgs false
set_option maxRecDepth 100000
def L25 (f : Nat → Int) : List Int := (List.range 25).map f
def X (a b : Int) : Int := bits .xor .u64 a b
def Rl (a : Int) (n : Nat) : Int := bits .or .u64 (IntKind.u64.wrap (a * 2 ^ min n 64)) (a.fdiv (2 ^ min (64 - n) 64))
def cP (f : Nat → Int) (j : Nat) : Int := X (X (X (X (f j) (f (j + 5))) (f (j + 10))) (f (j + 15))) (f (j + 20))
def thP (f : Nat → Int) (i : Nat) : Int := X (f i) (X (cP f ((i + 4) % 5)) (Rl (cP f ((i + 1) % 5)) 1))
def psT : List Nat := [0, 6, 12, 18, 24, 3, 9, 10, 16, 22, 1, 7, 13, 19, 20, 4, 5, 11, 17, 23, 2, 8, 14, 15, 21]
def rsT : List Nat := [0, 44, 43, 21, 14, 28, 20, 3, 45, 61, 1, 6, 25, 8, 18, 27, 36, 10, 15, 56, 62, 55, 39, 41, 2]
def piP (f : Nat → Int) (i : Nat) : Int := bif Nat.beq i 0 then f 0 else Rl (f (psT.getD i 0)) (rsT.getD i 0)
def chP (f : Nat → Int) (i : Nat) : Int := X (f i) (bits .andNot .u64 (f (i / 5 * 5 + (i + 2) % 5)) (f (i / 5 * 5 + (i + 1) % 5)))
def s0 (x : Int) (f : Nat → Int) (i : Nat) : Int := bif Nat.beq i 0 then x else f i
theorem bbm (n : Nat) (h : n ≤ 1000) : ∃ m, FU = m + n := ⟨FU - n, by have := bpe; omega⟩
theorem b4f (f : Nat → Int) (h1 : List Int) {ρ : Type} (k : Int → List Int → List Int → List Int → Option ρ) :
    P.adh 0 h1 (L25 f) [0, 0, 0, 0, 0] k = k 5 h1 (L25 f) [cP f 0, cP f 1, cP f 2, cP f 3, cP f 4] := by
 obtain ⟨m, hm⟩ := bbm 6 (by omega)
 rw [P.alf]
 unfold P.aha P.zk8 P.zs8 P.zu8 P.ahm lp
 rw [hm]
 kernel_rfl
theorem bud (c : Int) (f : Nat → Int) (h1 h2 : List Int) {ρ : Type} (k : Int → Int → List Int → List Int → List Int → List Int → Option ρ) :
    P.ada c 0 (L25 f) h1 h2 [cP f 0, cP f 1, cP f 2, cP f 3, cP f 4] k = k c 5 (L25 (thP f)) h1 h2 [cP f 0, cP f 1, cP f 2, cP f 3, cP f 4] := by
 obtain ⟨m, hm⟩ := bbm 6 (by omega)
 rw [P.alh]
 unfold P.ahq P.bx8 P.brs P.b4r P.ah4
 simp only [P.abb, P.aaw, P.zk9, P.zu9, P.aa0, P.qg, P.ni, lp, hm]; (try delta P.zs9); (try simp only [P.abb, P.aaw, P.zk9, P.zu9, P.aa0, P.qg, P.ni, lp, hm]); (try delta P.zs9); (try simp only [P.abb, P.aaw, P.zk9, P.zu9, P.aa0, P.qg, P.ni, lp, hm])
 kernel_rfl
theorem rhoP (c : Int) (f : Nat → Int) (h1 h2 h3 : List Int) {ρ : Type} (k : Int → Int → List Int → Int → List Int → List Int → List Int → List Int → Option ρ) :
    P.ac2 c ((L25 f).getD 1 0) P.brf 0 h3 h2 h1 (L25 f) k = k c (f 1) P.brf 24 h3 h2 h1 (L25 (piP f)) := by
 obtain ⟨m, hm⟩ := bbm 25 (by omega)
 rw [P.akg]
 unfold P.agn P.bx2 P.brv P.b5n P.agq
 simp only [P.qg, P.ni, lp, hm]
 kernel_rfl
theorem chiP (c : Int) (f : Nat → Int) (h1 h2 h3 : List Int) {ρ : Type} (k : Int → Int → List Int → List Int → List Int → List Int → Option ρ) :
    P.ac4 c 0 (L25 f) h1 h2 h3 k = k c 25 (L25 (chP f)) h1 h2 h3 := by
 obtain ⟨m, hm⟩ := bbm 6 (by omega)
 rw [P.aj8]
 unfold P.agk P.bxp P.bt3 P.b2a P.agp
 simp only [P.aa1, P.aae, P.bro, P.bu1, P.aad, lp, hm]; (try delta P.zs12); (try simp only [P.aa1, P.aae, P.bro, P.bu1, P.aad, lp, hm]); (try delta P.zs12); (try simp only [P.aa1, P.aae, P.bro, P.bu1, P.aad, lp, hm])
 kernel_rfl
theorem set0 (x : Int) (f : Nat → Int) : (L25 f).set 0 x = L25 (s0 x f) := by kernel_rfl
theorem b6v (f : Nat → Int) : (L25 f).getD 0 0 = f 0 := by kernel_rfl
def cR (f : Nat → Int) (j : Nat) : Int := X (X (X (X (X 0 (f j)) (f (j + 5))) (f (j + 10))) (f (j + 15))) (f (j + 20))
def thR (f : Nat → Int) (i : Nat) : Int := X (X (f i) (cR f ((i + 4) % 5))) (Rl (cR f ((i + 1) % 5)) 1)
def chR (f : Nat → Int) (i : Nat) : Int := X (f i) (bits .and .u64 (X (f (i / 5 * 5 + (i + 1) % 5)) 18446744073709551615) (f (i / 5 * 5 + (i + 2) % 5)))
theorem bpd (f : Nat → Int) {ρ : Type} (k : List Int → Option ρ) : P.ach (L25 f) k = k (L25 (thR f)) := by
 obtain ⟨m, hm⟩ := bbm 26 (by omega)
 rw [P.ap2]
 unfold P.ai7
 simp only [P.af9, P.agu, P.brd, P.bwm, P.agw, P.agc, P.agv, P.brb, P.buh, P.agt, P.adk, P.aaq, lp, hm]; (try delta P.bre P.bra); (try simp only [P.af9, P.agu, P.brd, P.bwm, P.agw, P.agc, P.agv, P.brb, P.buh, P.agt, P.adk, P.aaq, lp, hm]); (try delta P.bre P.bra); (try simp only [P.af9, P.agu, P.brd, P.bwm, P.agw, P.agc, P.agv, P.brb, P.buh, P.agt, P.adk, P.aaq, lp, hm])
 kernel_rfl
theorem b4n (f : Nat → Int) {ρ : Type} (k : List Int → Option ρ) : P.ag2 (L25 f) k = k (L25 (piP f)) := by
 obtain ⟨m, hm⟩ := bbm 25 (by omega)
 rw [P.aug]
 unfold P.alr
 simp only [P.ai2, P.aj2, P.brn, P.brt, P.akb, P.adk, P.aaq, lp, hm]; (try delta P.brh); (try simp only [P.ai2, P.aj2, P.brn, P.brt, P.akb, P.adk, P.aaq, lp, hm]); (try delta P.brh); (try simp only [P.ai2, P.aj2, P.brn, P.brt, P.akb, P.adk, P.aaq, lp, hm])
 kernel_rfl
theorem chiR (v : Int) (f g : Nat → Int) (h1 h2 : List Int) {ρ : Type} (k : Int → Int → List Int → List Int → List Int → List Int → Option ρ) :
    P.ai0 v 0 h2 h1 (L25 g) (L25 f) k = k v 25 h2 h1 (L25 (chR f)) (L25 f) := by
 obtain ⟨m, hm⟩ := bbm 26 (by omega)
 rw [P.arw]
 unfold P.an6 P.bxb P.bsr P.bzs P.anx
 simp only [lp, hm]
 kernel_rfl
theorem buv {ρ : Type} (k : List Int → Option ρ) : P.xu k = k P.bhz := by
 obtain ⟨m, hm⟩ := bbm 169 (by omega)
 rw [P.ak7]
 unfold P.ae9
 simp only [P.adf, P.ac8, P.bq7, P.bua, P.ac7, lp, hm]; (try delta P.bq8); (try simp only [P.adf, P.ac8, P.bq7, P.bua, P.ac7, lp, hm]); (try delta P.bq8); (try simp only [P.adf, P.ac8, P.bq7, P.bua, P.ac7, lp, hm])
 kernel_rfl
end QK
end

section
/- keccak: the program's rounds are the document's. -/
namespace QK
open Q
open Go Go.Abs
set_option linter.unusedVariables false
set_option linter.unusedSimpArgs false
def U64 (x : Int) : Prop := 0 ≤ x ∧ x < 18446744073709551616
def Ws (f : Nat → Int) : Prop := ∀ i, U64 (f i)
theorem U64.bv {x : Int} (h : U64 x) : ∃ b : BitVec 64, x = (b.toNat : Int) := by
 obtain ⟨n, rfl⟩ := Int.eq_ofNat_of_zero_le h.1
 have h2 := h.2
 refine ⟨BitVec.ofNat 64 n, ?_⟩
 rw [BitVec.toNat_ofNat, Nat.mod_eq_of_lt (by omega)]
theorem bie (b : BitVec 64) : U64 (b.toNat : Int) := by
 have := bmi b
 unfold U64
 omega
theorem bpt (a b : BitVec 64) : X (a.toNat : Int) (b.toNat : Int) = ((a ^^^ b).toNat : Int) := akk a b
theorem X_U {a b : Int} (ha : U64 a) (hb : U64 b) : U64 (X a b) := by
 obtain ⟨x, rfl⟩ := ha.bv
 obtain ⟨y, rfl⟩ := hb.bv
 rw [bpt]
 exact bie _
theorem bu0 {a : Int} (ha : U64 a) : X 0 a = a := by
 obtain ⟨x, rfl⟩ := ha.bv
 have := bpt 0 x
 simpa using this
theorem bpi {a b c : Int} (ha : U64 a) (hb : U64 b) (hc : U64 c) : X (X a b) c = X a (X b c) := by
 obtain ⟨x, rfl⟩ := ha.bv
 obtain ⟨y, rfl⟩ := hb.bv
 obtain ⟨z, rfl⟩ := hc.bv
 rw [bpt, bpt, bpt, bpt, BitVec.xor_assoc]
theorem b2o {a : Int} (ha : U64 a) (n : Nat) (hn : n ≤ 64) : U64 (Rl a n) := by
 obtain ⟨x, rfl⟩ := ha.bv
 unfold Rl
 rw [bo8 x n hn, bg6 x (64 - n) (by omega), byb]
 exact bie _
theorem bf2 (x y : BitVec 64) : bits .andNot .u64 (x.toNat : Int) (y.toNat : Int) = ((x &&& ~~~y).toNat : Int) := by
 have e : bits .andNot .u64 (x.toNat : Int) (y.toNat : Int) = IntKind.u64.wrap ((BitVec.ofInt 64 (x.toNat : Int) &&& ~~~BitVec.ofInt 64 (y.toNat : Int)).toNat : Int) := rfl
 rw [e, ofI, ofI, ah5 _ (bmi _)]
theorem bow {a b : Int} (ha : U64 a) (hb : U64 b) : bits .and .u64 (X a 18446744073709551615) b = bits .andNot .u64 b a := by
 obtain ⟨x, rfl⟩ := ha.bv
 obtain ⟨y, rfl⟩ := hb.bv
 have h1 : (18446744073709551615 : Int) = ((BitVec.allOnes 64).toNat : Int) := by decide
 rw [h1, bpt, bec, bf2, BitVec.xor_allOnes, BitVec.and_comm]
theorem bl9 {a b : Int} (ha : U64 a) (hb : U64 b) : U64 (bits .andNot .u64 a b) := by
 obtain ⟨x, rfl⟩ := ha.bv
 obtain ⟨y, rfl⟩ := hb.bv
 rw [bf2]
 exact bie _
theorem byi {f : Nat → Int} (h : Ws f) (j : Nat) : U64 (cP f j) := X_U (X_U (X_U (X_U (h _) (h _)) (h _)) (h _)) (h _)
theorem bry {f : Nat → Int} (h : Ws f) (j : Nat) : cR f j = cP f j := by unfold cR cP; rw [bu0 (h j)]
theorem bvl {f : Nat → Int} (h : Ws f) : Ws (thP f) := fun i => X_U (h i) (X_U (byi h _) (b2o (byi h _) 1 (by omega)))
theorem bs6 {f : Nat → Int} (h : Ws f) : thR f = thP f := by
 funext i
 unfold thR thP
 rw [bry h, bry h, bpi (h i) (byi h _) (b2o (byi h _) 1 (by omega))]
theorem b25 (i : Nat) : rsT.getD i 0 ≤ 64 := by
 by_cases hi : i < 25
 ·have : ∀ i, i < 25 → rsT.getD i 0 ≤ 64 := by decide
  exact this i hi
 ·rw [be0 (by simp [rsT]; omega)]; omega
theorem bwe {f : Nat → Int} (h : Ws f) : Ws (piP f) := fun i => by
 unfold piP
 cases Nat.beq i 0 with
 | true => exact h 0
 | false => exact b2o (h _) _ (b25 i)
theorem bvx {f : Nat → Int} (h : Ws f) : chR f = chP f := by
 funext i
 unfold chR chP
 rw [bow (h _) (h _)]
theorem b43 {f : Nat → Int} (h : Ws f) : Ws (chP f) := fun i => X_U (h i) (bl9 (h _) (h _))
theorem s0_U {f : Nat → Int} {x : Int} (h : Ws f) (hx : U64 x) : Ws (s0 x f) := fun i => by
 unfold s0
 cases Nat.beq i 0 with
 | true => exact hx
 | false => exact h i
def rnd (c : Int) (f : Nat → Int) : Nat → Int := s0 (X (chP (piP (thP f)) 0) c) (chP (piP (thP f)))
theorem b0g {f : Nat → Int} {c : Int} (h : Ws f) (hc : U64 c) : Ws (rnd c f) := by
 have h2 := b43 (bwe (bvl h))
 exact s0_U h2 (X_U (h2 0) hc)
def bqv (f : Nat → Int) : Nat → Nat → Int
 | 0 => f
 | n + 1 => rnd (P.bhz.getD n 0) (bqv f n)
theorem bun (n : Nat) : U64 (P.bhz.getD n 0) := by
 by_cases hn : n < 24
 ·have : ∀ n, n < 24 → (0 ≤ P.bhz.getD n 0 ∧ P.bhz.getD n 0 < 18446744073709551616) := by decide +kernel
  exact this n hn
 ·have hl : P.bhz.length = 24 := by decide +kernel
  rw [be0 (by omega)]
  exact ⟨by decide, by decide⟩
theorem bh2 {f : Nat → Int} (h : Ws f) : ∀ n, Ws (bqv f n)
 | 0 => h
 | n + 1 => b0g (bh2 h n) (bun n)
theorem gy (f : Nat → Int) {ρ : Type} (k : List Int → Option ρ) : P.gy (L25 f) k = k (L25 (bqv f 24)) := by
 rw [P.aji]; unfold P.aeb
 rw [P.anc]; unfold P.ajh P.bw4 P.bsu P.b0u
 refine wu (fun i => (P.bhz, (i : Int), L25 (bqv f i), [(0 : Int), 0, 0, 0, 0, 0, 0, 0, 0, 0, 0, 0, 0, 0, 0, 0, 0, 0, 0, 0, 0, 0, 0, 0, 0])) 24 rfl (fun i hi next hn => ?_) (fun next => ?_) (by omega)
 ·simp only [P.ae8, toNat_cast]
  rw [av (by omega), av (by omega), av (by omega), b4f, bud, rhoP, chiP, b6v, set0, o8 (by omega) (by omega)]
  exact hn
 ·simp only [P.ae8]
  rw [dn (by omega)]
theorem nu {f : Nat → Int} (h : Ws f) {ρ : Type} (k : List Int → Option ρ) : P.nu (L25 f) k = k (L25 (bqv f 24)) := by
 rw [P.an0]; unfold P.ahd
 rw [buv, P.ar9]; unfold P.anu P.bx6 P.bus P.b1w
 refine wu (fun i => ((i : Int), L25 (bqv f i), [(0 : Int), 0, 0, 0, 0, 0, 0, 0, 0, 0, 0, 0, 0, 0, 0, 0, 0, 0, 0, 0, 0, 0, 0, 0, 0], P.bhz)) 24 rfl (fun i hi next hn => ?_) (fun next => ?_) (by omega)
 ·have hU := bh2 h i
  simp only [P.ajc]
  rw [av (by omega), bpd, b4n, chiR, av (by omega), av (by omega), b6v, set0, toNat_cast, o8 (by omega) (by omega), bs6 hU, bvx (bwe (bvl hU))]
  exact hn
 ·simp only [P.ajc]
  rw [dn (by omega)]
theorem bky (f : Nat → Int) : (L25 f).length = 25 := by simp [L25]
theorem bn4 (l : List Int) (h : l.length = 25) : l = L25 fun i => l.getD i 0 := by
 apply List.ext_getElem
 ·rw [bky, h]
 ·intro i h1 h2
  simp only [L25, List.getElem_map, List.getElem_range]
  exact (getD_lt h1).symm
end QK
end

section
/- bits: Unpack, as the document has it. -/
namespace Q
open Go Go.Abs
set_option linter.unusedVariables false
set_option linter.unusedSimpArgs false
theorem td8 (p : Nat) : (p : Int).tdiv 8 = ((p / 8 : Nat) : Int) := by rw [Int.tdiv_eq_ediv_of_nonneg (by omega)]; omega
theorem tm8 (p : Nat) : (p : Int).tmod 8 = ((p % 8 : Nat) : Int) := by rw [Int.tmod_eq_emod_of_nonneg (by omega)]; omega
theorem wmul (i w : Nat) (h : w * i ≤ 9223372036854775807) : IntKind.i64.wrap ((i : Int) * (w : Int)) = ((w * i : Nat) : Int) := by
 rw [← Int.natCast_mul, Nat.mul_comm, o8 (by omega) (by omega)]
theorem brp (x s : Nat) (hx : x < 256) (hs : s ≤ 8) : bits .and .u8 ((x : Int).fdiv ((2 : Int) ^ min s 8)) 1 = ((x / 2 ^ s % 2 : Nat) : Int) := by
 have := Nat.div_le_self x (2 ^ s)
 rw [fdiv_pow x s 8 hs, show (1 : Int) = ((1 : Nat) : Int) from rfl, buy _ _ (by omega) (by omega), Nat.and_one_is_mod]
theorem bpl (v x : Nat) (hv : v < 16777216) (hx : x < 2) : IntKind.u32.wrap (IntKind.u32.wrap ((v : Int) * 2) + IntKind.u32.wrap (x : Int)) = ((x + 2 * v : Nat) : Int) := by
 rw [bpu x (by omega), show (v : Int) * 2 = ((v * 2 : Nat) : Int) by omega, bpu _ (by omega), ← Int.natCast_add, bpu _ (by omega)]; omega
theorem bwf (V h j : Nat) : V / 2 ^ h % 2 + 2 * (V / 2 ^ (h + 1) % 2 ^ j) = V / 2 ^ h % 2 ^ (j + 1) := by
 have := bm1 V h 1 j
 rw [Nat.add_comm j 1]; exact this
end Q
end

section
/- bits: Digits. -/
namespace Q
open Go Go.Abs
set_option linter.unusedVariables false
set_option linter.unusedSimpArgs false
def dg (w L N : Nat) (i : Nat) : Int := ((N / 2 ^ (8 * L - w * (i + 1)) % 2 ^ w : Nat) : Int)
def abv (b : List Int) (w c : Int) : List Int := if Such b.length w c then (List.range c.toNat).map (dg w.toNat b.length (T 8 b.reverse)) else []
theorem bln (b : List Int) (t : Nat) (h : t ≤ b.length) : T 8 (b.take t).reverse = T 8 b.reverse / 2 ^ (8 * (b.length - t)) := by
 rw [List.reverse_take, axg 8 _ _ (by simp)]
theorem azr (b : List Int) (t : Nat) (h : t < b.length) : T 8 (b.take (t + 1)).reverse = (b.getD t 0).toNat % 2 ^ 8 + 256 * T 8 (b.take t).reverse := by
 rw [← aln b 0 t h, List.reverse_append, List.reverse_singleton, List.singleton_append, T]
theorem bmb (b : List Int) (q : Nat) (h : q < b.length) : (b.getD q 0).toNat % 2 ^ 8 = T 8 b.reverse / 2 ^ (8 * (b.length - 1 - q)) % 2 ^ 8 := by
 rw [btd]
 congr 2
 rw [getD_lt h, getD_lt (by simp; omega), List.getElem_reverse]
 congr 1; omega
theorem jk (b : List Int) (w c : Int) (hb : In 256 b) (hn : b.length ≤ 1000000) {ρ : Type} (k : List Int → Option ρ) : P.jk b w c k = k (abv b w c) := by
 rw [P.anl]
 unfold P.ahu
 rw [abo b w c hn, lq]
 unfold abv
 by_cases hs : Such b.length w c
 rotate_left
 ·rw [decide_eq_false hs, su, if_neg hs]
 rw [decide_eq_true hs, o9, if_pos hs]
 obtain ⟨h1, h2, h3, h4⟩ := hs
 obtain ⟨w, rfl⟩ := Int.eq_ofNat_of_zero_le (show 0 ≤ w by omega)
 obtain ⟨c, rfl⟩ := Int.eq_ofNat_of_zero_le h3
 have h4 : c * w ≤ b.length * 8 := by exact_mod_cast h4
 have hc : c ≤ c * w := Nat.le_mul_of_pos_right c (by omega)
 simp only [toNat_cast, List.length_replicate]
 simp (disch := omega) only [av, dn, gq, dz, dw, dx, lq, o9, su, o8]
 rw [P.ar6]
 unfold P.ant P.zk3 P.zs3 P.zu3
 refine wu (fun i => (b.drop (aac (w * i)), (w : Int), ((T 8 (b.take (aac (w * i))).reverse % 2 ^ 64 : Nat) : Int), ((8 * aac (w * i) - w * i : Nat) : Int), (c : Int), (i : Int), ((List.range i).map (dg w b.length (T 8 b.reverse))) ++ List.replicate (c - i) 0)) c (by simp [aac, T, bsw]) (fun i hi next hn' => ?_) (fun next => ?_) (by omega)
 ·have hwi : w * (i + 1) = w * i + w := Nat.mul_succ w i
  have hwc : w * (i + 1) ≤ b.length * 8 := Nat.le_trans (Nat.mul_le_mul (Nat.le_refl w) hi) (by rw [Nat.mul_comm]; exact h4)
  have c1 := bfn (w * i)
  have c2 := bgx (w * i)
  have c3 := bfn (w * (i + 1))
  have c4 := bgx (w * (i + 1))
  have c5 : aac (w * i) ≤ aac (w * (i + 1)) := by unfold aac; omega
  simp only [P.aiz]
  rw [av (by omega), P.ar8]
  unfold P.an1 P.zk2 P.zs2 P.zu2
  refine wu (fun j => (b.drop (aac (w * i) + j), (w : Int), ((T 8 (b.take (aac (w * i) + j)).reverse % 2 ^ 64 : Nat) : Int), ((8 * (aac (w * i) + j) - w * i : Nat) : Int), (i : Int), (c : Int), (i : Int), ((List.range i).map (dg w b.length (T 8 b.reverse))) ++ List.replicate (c - i) 0)) (aac (w * (i + 1)) - aac (w * i)) rfl (fun j hj next2 hn2 => ?_) (fun next2 => ?_) (by omega)
  ·have ht : aac (w * i) + j < b.length := by omega
   obtain ⟨x, hx, hx2, hx3⟩ := byte_at hb (aac (w * i) + j)
   have est := azr b (aac (w * i) + j) ht
   rw [← hx3] at est
   simp only [P.aix, List.length_drop, toNat_cast]
   rw [List.take_of_length_le (l := b.drop (aac (w * i) + j)) (by simp), List.drop_drop]
   have e0 : (b.drop (aac (w * i) + j)).getD 0 0 = (x : Int) := by
    rw [← hx, aeh b 0 _ ht]; rfl
   have e1 : IntKind.u64.wrap (((T 8 (b.take (aac (w * i) + j)).reverse % 2 ^ 64 : Nat) : Int) * 2 ^ 8) = ((T 8 (b.take (aac (w * i) + j)).reverse % 2 ^ 56 * 2 ^ 8 : Nat) : Int) := by
    rw [bjf]; omega
   rw [e0, e1, ah5 x (by omega), bfg _ _ (by omega) (by omega), bgk _ _ _ (by omega)]
   simp (disch := omega) only [av, dn, gq, dz, dw, dx, lq, o9, su, o8]
   rw [Nat.add_assoc, show ((8 * (aac (w * i) + j) - w * i : Nat) : Int) + 8 = ((8 * (aac (w * i) + (j + 1)) - w * i : Nat) : Int) by omega,
    show T 8 (b.take (aac (w * i) + j)).reverse % 2 ^ 56 * 2 ^ 8 + x = T 8 (b.take (aac (w * i) + (j + 1))).reverse % 2 ^ 64 by rw [← Nat.add_assoc, est]; omega]
   exact hn2
  ·have et : aac (w * i) + (aac (w * (i + 1)) - aac (w * i)) = aac (w * (i + 1)) := by omega
   simp only [P.aix, toNat_cast]
   rw [et, dn (by omega), show ((8 * aac (w * (i + 1)) - w * i : Nat) : Int) - (w : Int) = ((8 * aac (w * (i + 1)) - w * (i + 1) : Nat) : Int) by omega,
    o8 (x := ((8 * aac (w * (i + 1)) - w * (i + 1) : Nat) : Int)) (by omega) (by omega)]
   simp only [toNat_cast]
   have hq : T 8 (b.take (aac (w * (i + 1)))).reverse % 2 ^ 64 / 2 ^ (8 * aac (w * (i + 1)) - w * (i + 1)) < 18446744073709551616 := by
    have := Nat.div_le_self (T 8 (b.take (aac (w * (i + 1)))).reverse % 2 ^ 64) (2 ^ (8 * aac (w * (i + 1)) - w * (i + 1)))
    omega
   rw [fdiv_pow _ _ 64 (by omega), bhd _ w hq (by omega), bcs _ _ _ _ (by omega)]
   have hw2 : 2 ^ w ≤ 2 ^ 24 := bg9 (by omega)
   have hmod := Nat.mod_lt (T 8 (b.take (aac (w * (i + 1)))).reverse / 2 ^ (8 * aac (w * (i + 1)) - w * (i + 1))) (p2 w)
   rw [bpu _ (by omega)]
   have ed : ((T 8 (b.take (aac (w * (i + 1)))).reverse / 2 ^ (8 * aac (w * (i + 1)) - w * (i + 1)) % 2 ^ w : Nat) : Int) = dg w b.length (T 8 b.reverse) i := by
    unfold dg
    rw [bln b _ (by omega), Nat.div_div_eq_div_mul, ← Nat.pow_add]
    congr 4; omega
   rw [ed]
   simp only [List.length_append, List.length_map, List.length_range, List.length_replicate]
   simp (disch := omega) only [av, dn, gq, dz, dw, dx, lq, o9, su, o8]
   rw [bcr _ _ _ hi]
   exact hn'
 ·simp only [P.aiz]
  rw [dn (by omega), Nat.sub_self]
  simp
theorem uz (b : List Int) (w c : Int) (hb : In 256 b) (hn : b.length ≤ 1000000) {ρ : Type} (k : List Int → Option ρ) : P.uz b w c k = k (abv b w c) := by
 rw [P.apk]
 unfold P.ai8
 rw [adv b w c hn, lq]
 unfold abv
 by_cases hs : Such b.length w c
 rotate_left
 ·rw [decide_eq_false hs, su, if_neg hs]
 rw [decide_eq_true hs, o9, if_pos hs]
 obtain ⟨h1, h2, h3, h4⟩ := hs
 obtain ⟨w, rfl⟩ := Int.eq_ofNat_of_zero_le (show 0 ≤ w by omega)
 obtain ⟨c, rfl⟩ := Int.eq_ofNat_of_zero_le h3
 have h4 : c * w ≤ b.length * 8 := by exact_mod_cast h4
 have hc : c ≤ c * w := Nat.le_mul_of_pos_right c (by omega)
 simp only [toNat_cast]
 rw [P.atr]
 unfold P.aql P.bxe P.bvs P.b1x
 refine wu (fun i => (b, (w : Int), (c : Int), (i : Int), (List.range i).map (dg w b.length (T 8 b.reverse)))) c (by simp) (fun i hi next hn' => ?_) (fun next => ?_) (by omega)
 ·have hwi : w * (i + 1) = w * i + w := Nat.mul_succ w i
  have hwc : w * (i + 1) ≤ b.length * 8 := Nat.le_trans (Nat.mul_le_mul (Nat.le_refl w) hi) (by rw [Nat.mul_comm]; exact h4)
  simp only [P.ake]
  rw [av (by omega), P.atu]
  unfold P.aqx P.bya P.bs0 P.byn
  refine wu (fun j => (b, (w : Int), (c : Int), (i : Int), ((T 8 b.reverse / 2 ^ (8 * b.length - (w * i + j)) % 2 ^ j : Nat) : Int), (j : Int), (List.range i).map (dg w b.length (T 8 b.reverse)))) w (by simp [Nat.mod_one]) (fun j hj next2 hn2 => ?_) (fun next2 => ?_) (by omega)
  ·obtain ⟨x, hx, hx2, hx3⟩ := byte_at hb ((w * i + j) / 8)
   simp only [P.aj4]
   rw [wmul i w (by omega), ← Int.natCast_add, o8 (x := ((w * i + j : Nat) : Int)) (by omega) (by omega), td8, tm8, o8 (x := (((w * i + j) / 8 : Nat) : Int)) (by omega) (by omega),
    show (7 : Int) - (((w * i + j) % 8 : Nat) : Int) = ((7 - (w * i + j) % 8 : Nat) : Int) by omega, o8 (x := ((7 - (w * i + j) % 8 : Nat) : Int)) (by omega) (by omega)]
   simp only [toNat_cast]
   have hv := Nat.mod_lt (T 8 b.reverse / 2 ^ (8 * b.length - (w * i + j))) (p2 j)
   have hv2 : 2 ^ j ≤ 2 ^ 24 := bg9 (by omega)
   rw [hx, brp x _ hx2 (by omega), bpl _ _ (by omega) (by omega), hx3, bmb b _ (by omega)]
   have e := bd2 (T 8 b.reverse) (8 * (b.length - 1 - (w * i + j) / 8)) 8 (7 - (w * i + j) % 8) 1 (by omega)
   rw [Nat.pow_one, show 8 * (b.length - 1 - (w * i + j) / 8) + (7 - (w * i + j) % 8) = 8 * b.length - (w * i + (j + 1)) by omega] at e
   rw [e, show 8 * b.length - (w * i + j) = 8 * b.length - (w * i + (j + 1)) + 1 by omega, bwf]
   simp (disch := omega) only [av, dn, gq, dz, dw, dx, lq, o9, su, o8]
   exact hn2
  ·simp only [P.aj4, List.length_map, List.length_range]
   simp (disch := omega) only [av, dn, gq, dz, dw, dx, lq, o9, su, o8]
   have ed : ((T 8 b.reverse / 2 ^ (8 * b.length - (w * i + w)) % 2 ^ w : Nat) : Int) = dg w b.length (T 8 b.reverse) i := by unfold dg; rw [hwi]
   rw [ed, afi]
   exact hn'
 ·simp only [P.ake]
  rw [dn (by omega)]
end Q
end

section
/- bits: numbers as bytes and back. -/
namespace Q
open Go Go.Abs
set_option linter.unusedVariables false
set_option linter.unusedSimpArgs false
theorem bnt (w n m X : Nat) (hm : m ≤ n) (hX : X < 2 ^ (w * m)) : bsw w m X ++ List.replicate (n - m) 0 = bsw w n X := by
 refine List.ext_getElem (by simp; omega) (fun i h1 h2 => ?_)
 have hi : i < n := by simpa using h2
 rw [← getD_lt (d := 0) h2, bfc _ _ _ _ hi]
 by_cases him : i < m
 ·rw [List.getElem_append_left (by simpa using him), ← getD_lt (d := 0), bfc _ _ _ _ him]
 ·rw [List.getElem_append_right (by simp; omega), List.getElem_replicate, Nat.div_eq_of_lt]
  ·rfl
  ·exact Nat.lt_of_lt_of_le hX (bg9 (Nat.mul_le_mul (Nat.le_refl _) (by omega)))
theorem ae7 (N s : Nat) (hN : N < 18446744073709551616) (hs : s ≤ 65536) {ρ : Type} (k : List Int → Option ρ) : P.ae7 (N : Int) (s : Int) k = k (bsw 8 s N) := by
 rw [P.ays]
 unfold P.an9
 have em : (bif decide ((8 : Int) < (s : Int)) then (8 : Int) else (s : Int)) = ((min s 8 : Nat) : Int) := by
  by_cases h : (8 : Int) < (s : Int)
  ·rw [decide_eq_true h]; simp only [cond_true]; omega
  ·rw [decide_eq_false h]; simp only [cond_false]; omega
 simp only [toNat_cast]
 rw [em]
 simp (disch := omega) only [av, dn, gq, dz, dw, dx, lq, o9, su, o8]
 rw [P.az0]
 unfold P.ayr P.zk4 P.zs4 P.zu4
 refine wu (fun i => ((N : Int), ((min s 8 : Nat) : Int), (i : Int), bsw 8 i N ++ List.replicate (s - i) 0)) (min s 8) (by simp [bsw]) (fun i hi next hn' => ?_) (fun next => ?_) (by omega)
 ·simp only [P.ar4, List.length_append, acv, List.length_replicate, toNat_cast]
  rw [show (8 : Int) * (i : Int) = ((8 * i : Nat) : Int) by omega, o8 (x := ((8 * i : Nat) : Int)) (by omega) (by omega)]
  simp only [toNat_cast]
  rw [fdiv_pow N _ 64 (by omega), u8m]
  simp (disch := omega) only [av, dn, gq, dz, dw, dx, lq, o9, su, o8]
  rw [List.set_append_right _ _ (by simp), acv, Nat.sub_self, show s - i = (s - (i + 1)) + 1 by omega, List.replicate_succ, List.set_cons_zero]
  rw [bge, List.append_assoc, List.singleton_append] at hn'
  exact hn'
 ·simp only [P.ar4]
  rw [dn (by omega)]
  by_cases h : s ≤ 8
  ·rw [Nat.min_eq_left h, Nat.sub_self]; simp
  ·rw [Nat.min_eq_right (by omega), bnt 8 s 8 N (by omega) (by omega)]
theorem bil {f : Nat → Int} (n q : Nat) (v : Int) : ((List.range n).map f).set q v = (List.range n).map (fun j => if j = q then v else f j) := by
 refine List.ext_getElem (by simp) (fun i h1 h2 => ?_)
 simp only [List.getElem_set, List.getElem_map, List.getElem_range]
 by_cases h : q = i
 ·rw [if_pos h, if_pos h.symm]
 ·rw [if_neg h, if_neg (fun e => h e.symm)]
theorem bf0 {f : Nat → Int} (n q : Nat) (h : q < n) : ((List.range n).map f).getD q 0 = f q := by
 rw [getD_lt (by simpa using h)]; simp
theorem bmq (l : List Int) : l = (List.range l.length).map (fun j => l.getD j 0) := by
 refine List.ext_getElem (by simp) (fun i h1 h2 => ?_)
 simp only [List.getElem_map, List.getElem_range]
 rw [getD_lt h1]
theorem vo (N s : Nat) (hN : N < 18446744073709551616) (hs : s ≤ 65536) {ρ : Type} (k : List Int → Option ρ) : P.vo (N : Int) (s : Int) k = k (bsw 8 s N).reverse := by
 rw [P.ayh]
 unfold P.apb
 rw [ae7 N s hN hs, P.awm]
 unfold P.atb P.zk5 P.zs5 P.zu5
 simp only [acv]
 rw [o8 (by omega) (by omega)]
 have hfin : (bsw 8 s N).reverse = (List.range s).map (fun q => (bsw 8 s N).getD (s - 1 - q) 0) := by
  refine List.ext_getElem (by simp) (fun i h1 h2 => ?_)
  have hi : i < s := by simpa using h2
  rw [List.getElem_reverse, List.getElem_map, List.getElem_range, getD_lt (by simp; omega)]
  congr 1; simp
 have h0 : bsw 8 s N = (List.range s).map (fun q => if q < 0 ∨ s - 0 ≤ q then (bsw 8 s N).getD (s - 1 - q) 0 else (bsw 8 s N).getD q 0) := by
  have e := bmq (bsw 8 s N)
  rw [acv] at e
  refine e.trans (List.map_congr_left (fun q hq => ?_))
  have := List.mem_range.1 hq
  rw [if_neg (by omega)]
 generalize bsw 8 s N = l at h0 hfin
 refine wu (fun i => ((i : Int), (s : Int) - 1 - (i : Int), (List.range s).map (fun q => if q < i ∨ s - i ≤ q then l.getD (s - 1 - q) 0 else l.getD q 0))) (s / 2) (by rw [← h0]; simp) (fun i hi next hn' => ?_) (fun next => ?_) (by omega)
 ·simp only [P.als, List.length_map, List.length_range, List.length_set]
  rw [show (s : Int) - 1 - (i : Int) = ((s - 1 - i : Nat) : Int) by omega]
  simp only [toNat_cast]
  rw [bf0 _ _ (by omega), bf0 _ _ (by omega), if_neg (by omega), if_neg (by omega), bil, bil]
  have e : (List.range s).map (fun q => if q < i + 1 ∨ s - (i + 1) ≤ q then l.getD (s - 1 - q) 0 else l.getD q 0) = (List.range s).map (fun j => if j = s - 1 - i then l.getD i 0 else if j = i then l.getD (s - 1 - i) 0 else if j < i ∨ s - i ≤ j then l.getD (s - 1 - j) 0 else l.getD j 0) := by
   refine List.map_congr_left (fun q hq => ?_)
   have := List.mem_range.1 hq
   by_cases a1 : q = s - 1 - i
   ·subst a1; rw [if_pos (by omega), if_pos rfl]; congr 1; omega
   ·rw [if_neg a1]
    by_cases a2 : q = i
    ·subst a2; rw [if_pos (by omega), if_pos rfl]
    ·rw [if_neg a2]
     by_cases a3 : q < i ∨ s - i ≤ q
     ·rw [if_pos (by omega), if_pos a3]
     ·rw [if_neg (by omega), if_neg a3]
  rw [e] at hn'
  simp (disch := omega) only [av, dn, gq, dz, dw, dx, lq, o9, su, o8]
  rw [show ((s - 1 - i : Nat) : Int) - 1 = (s : Int) - 1 - ((i + 1 : Nat) : Int) by omega]
  exact hn'
 ·simp only [P.als]
  rw [dn (by omega), hfin]
  congr 1
  refine List.map_congr_left (fun q hq => ?_)
  have := List.mem_range.1 hq
  by_cases a3 : q < s / 2 ∨ s - s / 2 ≤ q
  ·rw [if_pos a3]
  ·rw [if_neg a3]; congr 1; omega
theorem u6 (b : List Int) (hb : In 256 b) (hn : b.length ≤ 1000000) {ρ : Type} (k : Int → Option ρ) : P.u6 b k = k ((T 8 b.reverse % 2 ^ 64 : Nat) : Int) := by
 rw [P.awk]
 unfold P.amu
 rw [P.aww]
 unfold P.avz P.bw7 P.bto P.b44
 refine wu (fun i => (((T 8 (b.take i).reverse % 2 ^ 64 : Nat) : Int), b, (b.length : Int), (i : Int))) b.length (by simp [T]) (fun i hi next hn' => ?_) (fun next => ?_) (by omega)
 ·obtain ⟨x, hx, hx2, hx3⟩ := byte_at hb i
  have est := azr b i hi
  rw [← hx3] at est
  simp only [P.aox, toNat_cast]
  have e1 : IntKind.u64.wrap (((T 8 (b.take i).reverse % 2 ^ 64 : Nat) : Int) * 2 ^ 8) = ((T 8 (b.take i).reverse % 2 ^ 56 * 2 ^ 8 : Nat) : Int) := by
   rw [bjf]; omega
  rw [hx, e1, ah5 x (by omega), bfg _ _ (by omega) (by omega), bgk _ _ _ (by omega),
   show T 8 (b.take i).reverse % 2 ^ 56 * 2 ^ 8 + x = T 8 (b.take (i + 1)).reverse % 2 ^ 64 by rw [est]; omega]
  simp (disch := omega) only [av, dn, gq, dz, dw, dx, lq, o9, su, o8]
  exact hn'
 ·simp only [P.aox]
  rw [dn (by omega), List.take_length]
end Q
end

section
/- keccak: what is taken up, what is given out. -/
namespace QK
open Q
open Go Go.Abs
set_option linter.unusedVariables false
set_option linter.unusedSimpArgs false
def W25 (w : List Int) : Prop := w.length = 25 ∧ In 18446744073709551616 w
theorem W25.ws {w : List Int} (h : W25 w) : Ws fun i => w.getD i 0 := fun i => h.2.getD i (by omega)
theorem b4o {f : Nat → Int} (h : Ws f) : W25 (L25 f) := ⟨bky f, fun x hx => by
 simp only [L25, List.mem_map] at hx
 obtain ⟨i, _, rfl⟩ := hx
 exact h i⟩
def perm (w : List Int) : List Int := L25 (bqv (fun i => w.getD i 0) 24)
theorem bix {w : List Int} (h : W25 w) : W25 (perm w) := b4o (bh2 h.ws 24)
theorem bke {w : List Int} (h : W25 w) {ρ : Type} (k : List Int → Option ρ) : P.gy w k = k (perm w) := by
 have := gy (fun i => w.getD i 0) k
 rw [← bn4 w h.1] at this
 exact this
theorem bh5 {w : List Int} (h : W25 w) {ρ : Type} (k : List Int → Option ρ) : P.nu w k = k (perm w) := by
 have := nu h.ws k
 rw [← bn4 w h.1] at this
 exact this
def pt (w : List Int) (a : Nat) (c : Int) : List Int := w.set (a / 8) (X (w.getD (a / 8) 0) (IntKind.u64.wrap (IntKind.u64.wrap c * (2 : Int) ^ min (8 * (a % 8)) 64)))
theorem bvg (x : Int) : U64 (IntKind.u64.wrap x) := by
 rw [bjf]
 exact ⟨Int.emod_nonneg _ (by omega), Int.emod_lt_of_pos _ (by omega)⟩
theorem blf {w : List Int} (h : W25 w) (a : Nat) (c : Int) : W25 (pt w a c) := by
 refine ⟨by unfold pt; rw [List.length_set]; exact h.1, fun x hx => ?_⟩
 rcases List.mem_or_eq_of_mem_set hx with hx | rfl
 ·exact h.2 x hx
 ·exact X_U (h.2.getD _ (by omega)) (bvg _)
theorem at8 (a : Nat) (h : a < 1000000) : IntKind.i64.wrap ((a : Int).tdiv 8) = ((a / 8 : Nat) : Int) := by
 rw [Int.tdiv_eq_ediv_of_nonneg (by omega), o8 (by omega) (by omega)]
 omega
theorem am8 (a : Nat) (h : a < 1000000) : IntKind.i64.wrap ((8 : Int) * (a : Int).tmod 8) = ((8 * (a % 8) : Nat) : Int) := by
 rw [Int.tmod_eq_emod_of_nonneg (by omega), o8 (by omega) (by omega)]
 omega
theorem yx (w : List Int) (a : Nat) (c : Int) (h : a < 200) {ρ : Type} (k : List Int → Option ρ) : P.yx w (a : Int) c k = k (pt w a c) := by
 rw [P.ax3]; unfold P.aof
 rw [at8 a (by omega), am8 a (by omega), toNat_cast, toNat_cast]
 simp (disch := omega) only [av, dn, gq, dz, dw, dx, lq, o9, su, o8]
 rfl
def Rt (kd : Int) (r : Nat) : Prop := (kd = 4 ∧ r = 136) ∨ (kd = 5 ∧ r = 72) ∨ (kd = 6 ∧ r = 168) ∨ (kd = 7 ∧ r = 136)
theorem Rt.le {kd : Int} {r : Nat} (h : Rt kd r) : 72 ≤ r ∧ r ≤ 168 := by
 rcases h with ⟨_, rfl⟩ | ⟨_, rfl⟩ | ⟨_, rfl⟩ | ⟨_, rfl⟩ <;> omega
theorem bbn {kd : Int} {r : Nat} (h : Rt kd r) {ρ : Type} (k : Int → Option ρ) : P.ko kd k = k (r : Int) := by
 rw [P.anv]; unfold P.ah2
 rcases h with ⟨rfl, rfl⟩ | ⟨rfl, rfl⟩ | ⟨rfl, rfl⟩ | ⟨rfl, rfl⟩ <;> simp
theorem bjv {kd : Int} {r : Nat} (h : Rt kd r) {ρ : Type} (k : Int → Option ρ) : P.aay kd k = k (r : Int) := by
 rw [P.awq]; unfold P.amn
 rcases h with ⟨rfl, rfl⟩ | ⟨rfl, rfl⟩ | ⟨rfl, rfl⟩ | ⟨rfl, rfl⟩ <;> simp
def ast (r : Nat) (s : List Int × Nat) (c : Int) : List Int × Nat := if s.2 + 1 = r then (perm (pt s.1 s.2 c), 0) else (pt s.1 s.2 c, s.2 + 1)
def aq3 (r : Nat) (s : List Int × Nat) (l : List Int) : List Int × Nat := l.foldl (ast r) s
def Good (r : Nat) (s : List Int × Nat) : Prop := W25 s.1 ∧ s.2 < r
theorem blz {r : Nat} {s : List Int × Nat} (h : Good r s) (c : Int) : Good r (ast r s c) := by
 unfold ast Good at *
 split
 ·exact ⟨bix (blf h.1 _ _), by simp only; omega⟩
 ·exact ⟨blf h.1 _ _, by simp only; omega⟩
theorem ahz {r : Nat} : ∀ (l : List Int) {s : List Int × Nat}, Good r s → Good r (aq3 r s l)
 | [], s, h => h
 | c :: l, s, h => ahz l (blz h c)
theorem bbc (r : Nat) (s : List Int × Nat) (l : List Int) (i : Nat) (hi : i < l.length) : aq3 r s (l.take (i + 1)) = ast r (aq3 r s (l.take i)) (l.getD i 0) := by
 rw [← aln l 0 i hi]
 unfold aq3
 rw [List.foldl_append]
 rfl
theorem blr (r : Nat) (s : List Int × Nat) (l m : List Int) : aq3 r s (l ++ m) = aq3 r (aq3 r s l) m := by
 unfold aq3; rw [List.foldl_append]
abbrev Z25 : List Int := [0, 0, 0, 0, 0, 0, 0, 0, 0, 0, 0, 0, 0, 0, 0, 0, 0, 0, 0, 0, 0, 0, 0, 0, 0]
theorem br9 : W25 Z25 := ⟨rfl, fun x hx => by
 have : x = 0 := by simpa [Z25] using hx
 subst this
 decide⟩
theorem aap {kd : Int} {r : Nat} (hr : Rt kd r) (w : List Int) (a : Nat) (hg : Good r (w, a)) (b : List Int) (hn : b.length < 9223372036854775807) {ρ : Type} (k : Int → List Int → Int → Bool → Option ρ) :
    P.aap kd w (a : Int) false b k = k kd (aq3 r (w, a) b).1 ((aq3 r (w, a) b).2 : Int) false := by
 have hr2 := hr.le
 rw [P.apy]; unfold P.aiu
 rw [su, P.atl]; unfold P.ap1 P.bxk P.bt9 P.b2f
 refine wu (fun i => (b, (i : Int), kd, (aq3 r (w, a) (b.take i)).1, ((aq3 r (w, a) (b.take i)).2 : Int), false, (0 : Int), Z25, (0 : Int), false)) b.length (by simp [aq3]) (fun i hi next hnx => ?_) (fun next => ?_) (by omega)
 ·have hg2 := ahz (b.take i) hg
  rw [bbc r (w, a) b i hi] at hnx
  simp only [P.aj7, toNat_cast]
  generalize aq3 r (w, a) (b.take i) = s at hg2 hnx ⊢
  have hlt := hg2.2
  rw [av (by omega), av (by omega), av (by omega), yx _ _ _ (by omega), bjv hr, o8 (x := (s.2 : Int) + 1) (by omega) (by omega), o8 (x := (i : Int) + 1) (by omega) (by omega)]
  unfold ast at hnx
  by_cases he : s.2 + 1 = r
  ·rw [if_pos he] at hnx
   rw [dw (by omega), bh5 (blf hg2.1 _ _)]
   exact hnx
  ·rw [if_neg he] at hnx
   rw [dx (by omega)]
   exact hnx
 ·simp only [P.aj7]
  rw [dn (by omega), List.take_length]
def sq0 (r : Nat) (s : List Int × Nat) : List Int × Nat := if s.2 = r then (perm s.1, 0) else s
def sqb (s : List Int × Nat) : Int := IntKind.u8.wrap ((s.1.getD (s.2 / 8) 0).fdiv ((2 : Int) ^ min (8 * (s.2 % 8)) 64))
def sqS (r : Nat) (s : List Int × Nat) : Nat → List Int × Nat
 | 0 => s
 | n + 1 => ((sq0 r (sqS r s n)).1, (sq0 r (sqS r s n)).2 + 1)
def sqB (r : Nat) (s : List Int × Nat) (n : Nat) : Int := sqb (sq0 r (sqS r s n))
def sqO (r : Nat) (s : List Int × Nat) (m : Nat) : List Int := (List.range m).map (sqB r s)
def Gd (r : Nat) (s : List Int × Nat) : Prop := W25 s.1 ∧ s.2 ≤ r
theorem baf {r : Nat} (hr : 1 ≤ r) {s : List Int × Nat} (h : Gd r s) : ∀ n, Gd r (sqS r s n)
 | 0 => h
 | n + 1 => by
  have ih := baf hr h n
  show Gd r ((sq0 r (sqS r s n)).1, (sq0 r (sqS r s n)).2 + 1)
  revert ih
  generalize sqS r s n = t
  intro ih
  have h2 := ih.2
  unfold sq0
  by_cases he : t.2 = r
  ·rw [if_pos he]; exact ⟨bix ih.1, by simp only; omega⟩
  ·rw [if_neg he]; exact ⟨ih.1, by simp only; omega⟩
theorem be5 (r : Nat) (s : List Int × Nat) (m : Nat) : (sqO r s m).length = m := by simp [sqO]
theorem btw (r : Nat) (s : List Int × Nat) (m : Nat) : In 256 (sqO r s m) := fun x hx => by
 simp only [sqO, List.mem_map] at hx
 obtain ⟨i, _, rfl⟩ := hx
 unfold sqB sqb
 rw [u8m]
 exact ⟨Int.emod_nonneg _ (by omega), Int.emod_lt_of_pos _ (by omega)⟩
theorem bnh (r : Nat) (s : List Int × Nat) (i : Nat) : sqO r s i ++ [sqB r s i] = sqO r s (i + 1) := afi (sqB r s) i
theorem zd : (0 : Nat) / 8 = 0 := rfl
theorem zm : min (8 * ((0 : Nat) % 8)) 64 = 0 := rfl
theorem bzv {kd : Int} {r : Nat} (hr : Rt kd r) (s : List Int × Nat) (hg : Gd r s) (m : Nat) (hm : m ≤ 100000000) (z : Bool) {ρ : Type} (k : Int → Int → List Int → Int → List Int → Int → Bool → Int → List Int → Int → Bool → Option ρ) :
    P.yh (m : Int) (r : Int) [] kd s.1 (s.2 : Int) z 0 Z25 0 false k = k (m : Int) (r : Int) (sqO r s m) kd (sqS r s m).1 ((sqS r s m).2 : Int) z 0 Z25 0 false := by
 have hr2 := hr.le
 rw [P.aqp]; unfold P.amh P.bxu P.bvn P.b49
 refine wu (fun i => ((m : Int), (r : Int), sqO r s i, kd, (sqS r s i).1, ((sqS r s i).2 : Int), z, (0 : Int), Z25, (0 : Int), false)) m (by simp [sqO, sqS]) (fun i hi next hnx => ?_) (fun next => ?_) (by omega)
 ·have hg2 := baf (by omega) hg i
  rw [← bnh] at hnx
  simp only [P.ag9]
  unfold sqB at hnx
  simp only [sqS] at hnx
  have hl := be5 r s i
  generalize sqS r s i = t at hg2 hnx ⊢
  generalize sqO r s i = o at hnx hl ⊢
  have hlt := hg2.2
  rw [av (by omega)]
  unfold sq0 sqb at hnx
  by_cases he : t.2 = r
  ·rw [if_pos he] at hnx
   rw [dw (by omega), bh5 hg2.1, av (by omega), o8 (by omega) (by omega)]
   simp only [zd, zm] at hnx
   exact hnx
  ·rw [if_neg he] at hnx
   rw [dx (by omega), at8 _ (by omega), am8 _ (by omega), toNat_cast, toNat_cast, o8 (x := (t.2 : Int) + 1) (by omega) (by omega)]
   simp (disch := omega) only [av, dn, gq, dz, dw, dx, lq, o9, su, o8]
   exact hnx
 ·simp only [P.ag9, be5]
  rw [dn (by omega)]
theorem b4g {kd : Int} {r : Nat} (hr : Rt kd r) (s : List Int × Nat) (hg : Gd r s) (m : Nat) (hm : m ≤ 100000000) (z : Bool) {ρ : Type} (k : Int → Int → Int → List Int → Int → Bool → Int → List Int → Int → Bool → List Int → Option ρ) :
    P.acn (m : Int) 0 kd s.1 (s.2 : Int) z 0 Z25 0 false (List.replicate m 0) k = k (m : Int) (m : Int) kd (sqS r s m).1 ((sqS r s m).2 : Int) z 0 Z25 0 false (sqO r s m) := by
 have hr2 := hr.le
 rw [P.ang]; unfold P.ajg P.bx5 P.brx P.b2l
 refine wu (fun i => ((m : Int), (i : Int), kd, (sqS r s i).1, ((sqS r s i).2 : Int), z, (0 : Int), Z25, (0 : Int), false, sqO r s i ++ List.replicate (m - i) 0)) m (by simp [sqO, sqS]) (fun i hi next hnx => ?_) (fun next => ?_) (by omega)
 ·have hg2 := baf (by omega) hg i
  have hO : sqO r s (i + 1) ++ List.replicate (m - (i + 1)) 0 = (sqO r s i ++ List.replicate (m - i) 0).set i (sqB r s i) := (bcr (sqB r s) i m hi 0).symm
  have hl : (sqO r s i ++ List.replicate (m - i) 0).length = m := by simp [sqO]; omega
  rw [hO] at hnx
  unfold sqB at hnx
  simp only [sqS] at hnx
  simp only [P.aew, toNat_cast]
  generalize sqO r s i ++ List.replicate (m - i) 0 = o at hl hnx ⊢
  generalize sqS r s i = t at hg2 hnx ⊢
  have hlt := hg2.2
  rw [av (by omega), bbn hr]
  unfold sq0 sqb at hnx
  by_cases he : t.2 = r
  ·rw [if_pos he] at hnx
   rw [dw (by omega), bke hg2.1, av (by omega), av (by omega), o8 (x := (i : Int) + 1) (by omega) (by omega), o8 (x := (0 : Int) + 1) (by omega) (by omega)]
   simp only [zd, zm] at hnx
   exact hnx
  ·rw [if_neg he] at hnx
   rw [dx (by omega), at8 _ (by omega), am8 _ (by omega), toNat_cast, toNat_cast, o8 (x := (t.2 : Int) + 1) (by omega) (by omega), o8 (x := (i : Int) + 1) (by omega) (by omega)]
   simp (disch := omega) only [av, dn, gq, dz, dw, dx, lq, o9, su, o8]
   exact hnx
 ·simp only [P.aew]
  rw [dn (by omega)]
  simp
end QK
end

section
/- keccak: sums. -/
namespace QK
open Q
open Go Go.Abs
set_option linter.unusedVariables false
set_option linter.unusedSimpArgs false
theorem og {kd : Int} {r : Nat} (hr : Rt kd r) (w : List Int) (a : Nat) (hg : Good r (w, a)) (b : List Int) (hn : b.length < 9223372036854775807) {ρ : Type} (k : Int → List Int → Int → Bool → Option ρ) :
    P.og kd w (a : Int) false b k = k kd (aq3 r (w, a) b).1 ((aq3 r (w, a) b).2 : Int) false := by
 have hr2 := hr.le
 rw [P.ak5]; unfold P.ae3
 rw [su, bbn hr, P.an7]; unfold P.akv P.bw3 P.bu8 P.b3k
 refine wu (fun i => (b, (r : Int), (b.length : Int), (i : Int), kd, (aq3 r (w, a) (b.take i)).1, ((aq3 r (w, a) (b.take i)).2 : Int), false, (0 : Int), Z25, (0 : Int), false)) b.length (by simp [aq3]) (fun i hi next hnx => ?_) (fun next => ?_) (by omega)
 ·have hg2 := ahz (b.take i) hg
  rw [bbc r (w, a) b i hi] at hnx
  simp only [P.af8, toNat_cast]
  generalize aq3 r (w, a) (b.take i) = s at hg2 hnx ⊢
  have hlt := hg2.2
  rw [at8 _ (by omega), am8 _ (by omega), toNat_cast, toNat_cast, o8 (x := (s.2 : Int) + 1) (by omega) (by omega), o8 (x := (i : Int) + 1) (by omega) (by omega)]
  unfold ast at hnx
  by_cases he : s.2 + 1 = r
  ·rw [if_pos he] at hnx
   simp (disch := omega) only [av, dn, gq, dz, dw, dx, lq, o9, su, o8]
   exact (bke (blf hg2.1 _ _) _).trans hnx
  ·rw [if_neg he] at hnx
   simp (disch := omega) only [av, dn, gq, dz, dw, dx, lq, o9, su, o8]
   exact hnx
 ·simp only [P.af8]
  rw [dn (by omega), List.take_length]
def mark (kd : Int) : Int := if kd = 4 ∨ kd = 5 then 6 else 31
def trn (kd : Int) (r : Nat) (s : List Int × Nat) : List Int := perm (pt (pt s.1 s.2 (mark kd)) (r - 1) 128)
theorem bve {kd : Int} {r : Nat} {s : List Int × Nat} (h : W25 s.1) : W25 (trn kd r s) := bix (blf (blf h _ _) _ _)
theorem tq {kd : Int} {r : Nat} (hr : Rt kd r) (s : List Int × Nat) (hg : Good r s) (z : Bool) {ρ : Type} (k : Int → List Int → Int → Bool → Option ρ) :
    P.tq kd s.1 (s.2 : Int) z k = k kd (trn kd r s) 0 true := by
 have hr2 := hr.le
 have h2 := hg.2
 have er : (r : Int) - 1 = ((r - 1 : Nat) : Int) := by omega
 rw [P.ak6]; unfold P.ae1
 rw [at8 _ (by omega), am8 _ (by omega), toNat_cast, toNat_cast]
 rw [bbn hr, bbn hr, o8 (x := (r : Int) - 1) (by omega) (by omega), er, at8 _ (by omega), am8 _ (by omega), toNat_cast, toNat_cast]
 have fin : ∀ c : Int, (P.gy (pt (pt s.1 s.2 c) (r - 1) 128) fun q => k kd q 0 true) = k kd (perm (pt (pt s.1 s.2 c) (r - 1) 128)) 0 true := fun c => bke (blf (blf hg.1 _ _) _ _) _
 unfold trn mark
 by_cases h4 : kd = 4
 ·rw [if_pos (.inl h4)]
  simp (disch := omega) only [av, dn, gq, dz, dw, dx, lq, o9, su, o8]
  exact fin 6
 ·by_cases h5 : kd = 5
  ·rw [if_pos (.inr h5)]
   simp (disch := omega) only [av, dn, gq, dz, dw, dx, lq, o9, su, o8]
   exact fin 6
  ·rw [if_neg (by omega)]
   simp (disch := omega) only [av, dn, gq, dz, dw, dx, lq, o9, su, o8]
   exact fin 31
theorem yg {kd : Int} {r : Nat} (hr : Rt kd r) (s : List Int × Nat) (hg : Good r s) (m : Nat) (hm : m ≤ 100000000) {ρ : Type} (k : Int → List Int → Int → Bool → List Int → Option ρ) :
    P.yg kd s.1 (s.2 : Int) false (m : Int) k = k kd (sqS r (trn kd r s, 0) m).1 ((sqS r (trn kd r s, 0) m).2 : Int) true (sqO r (trn kd r s, 0) m) := by
 have hr2 := hr.le
 have h2 := hg.2
 have er : (r : Int) - 1 = ((r - 1 : Nat) : Int) := by omega
 have fin : ∀ c : Int, mark kd = c → (P.yx s.1 (s.2 : Int) c fun q1 => P.yx q1 (IntKind.i64.wrap ((r : Int) - 1)) 128 fun q2 => P.nu q2 fun q3 => P.yh (m : Int) (r : Int) [] kd q3 0 true 0 Z25 0 false
     fun (q4 q5 : Int) (q6 : List Int) (q7 : Int) (q8 : List Int) (q9 : Int) (q10 : Bool) (q11 : Int) (q12 : List Int) (q13 : Int) (q14 : Bool) => k q7 q8 q9 q10 q6) =
     k kd (sqS r (trn kd r s, 0) m).1 ((sqS r (trn kd r s, 0) m).2 : Int) true (sqO r (trn kd r s, 0) m) := by
  intro c hc
  rw [o8 (x := (r : Int) - 1) (by omega) (by omega), er, yx _ _ _ (by omega), yx _ _ _ (by omega), bh5 (blf (blf hg.1 _ _) _ _)]
  have := bzv hr (trn kd r s, 0) ⟨bve hg.1, by simp only; omega⟩ m hm true (fun (q4 q5 : Int) (q6 : List Int) (q7 : Int) (q8 : List Int) (q9 : Int) (q10 : Bool) (q11 : Int) (q12 : List Int) (q13 : Int) (q14 : Bool) => k q7 q8 q9 q10 q6)
  unfold trn at this ⊢
  rw [hc] at this ⊢
  exact this
 rw [P.an4]; unfold P.ahe
 rw [dn (by omega), bjv hr, lq, su]
 by_cases h4 : kd = 4
 ·rw [dw h4]; exact fin 6 (by unfold mark; rw [if_pos (.inl h4)])
 ·rw [dx h4]
  by_cases h5 : kd = 5
  ·rw [dw h5]; exact fin 6 (by unfold mark; rw [if_pos (.inr h5)])
  ·rw [dx h5]; exact fin 31 (by unfold mark; rw [if_neg (by omega)])
theorem qh {kd : Int} {r : Nat} (hr : Rt kd r) (s : List Int × Nat) (hg : Good r s) (m : Nat) (hm : m ≤ 100000000) {ρ : Type} (k : Int → List Int → Int → Bool → List Int → Option ρ) :
    P.qh kd s.1 (s.2 : Int) false (m : Int) k = k kd (sqS r (trn kd r s, 0) m).1 ((sqS r (trn kd r s, 0) m).2 : Int) true (sqO r (trn kd r s, 0) m) := by
 have hr2 := hr.le
 rw [P.ajs]; unfold P.ad7
 rw [dn (by omega), lq, su, tq hr s hg, av (by omega), av (by omega), av (by omega), toNat_cast, List.length_replicate]
 exact b4g hr (trn kd r s, 0) ⟨bve hg.1, by simp only; omega⟩ m hm true _
def rOf (kd : Int) : Nat := if kd = 4 then 136 else if kd = 5 then 72 else if kd = 6 then 168 else 136
theorem bwo {kd : Int} (h : kd = 4 ∨ kd = 5 ∨ kd = 6 ∨ kd = 7) : Rt kd (rOf kd) := by
 unfold Rt rOf
 rcases h with rfl | rfl | rfl | rfl <;> simp
def buk (kd : Int) (b : List Int) (m : Nat) : List Int := sqO (rOf kd) (trn kd (rOf kd) (aq3 (rOf kd) (Z25, 0) b), 0) m
theorem bl2 (kd : Int) (b : List Int) (m : Nat) : (buk kd b m).length = m := be5 _ _ _
theorem bo0 (kd : Int) (b : List Int) (m : Nat) : In 256 (buk kd b m) := btw _ _ _
theorem ah3 {kd : Int} (h : kd = 4 ∨ kd = 5 ∨ kd = 6 ∨ kd = 7) (b : List Int) (hn : b.length < 9223372036854775807) (m : Nat) (hm : m ≤ 16777216) {ρ : Type} (k : List Int → Int → Option ρ) : P.ah3 kd b (m : Int) k = k (buk kd b m) 0 := by
 have hr := bwo h
 have hr2 := hr.le
 have hg : Good (rOf kd) (Z25, 0) := ⟨br9, by simp only; omega⟩
 rw [P.ayt]; unfold P.apd
 rw [P.axl]; unfold P.ao2
 rw [bjv hr, dx (by omega)]
 dsimp only
 rw [dz rfl, dn (by omega), dn (by omega)]
 exact (aap hr Z25 0 hg b hn _).trans (yg hr _ (ahz b hg) m (by omega) _)
end QK
end

section
/- SHA-2: what a block does. -/
namespace Q
open Go Go.Abs
set_option linter.unusedVariables false
set_option linter.unusedSimpArgs false
structure Par (w : Nat) where
 rounds : Nat
 a : Nat × Nat × Nat
 b : Nat × Nat × Nat
 c : Nat × Nat × Nat
 d : Nat × Nat × Nat
 K : Nat → BitVec w
section
variable {w : Nat}
def hi (t : Nat × Nat × Nat) (x : BitVec w) : BitVec w := rr x t.1 ^^^ rr x t.2.1 ^^^ rr x t.2.2
def lo (t : Nat × Nat × Nat) (x : BitVec w) : BitVec w := rr x t.1 ^^^ rr x t.2.1 ^^^ (x >>> t.2.2)
def cv (l : List (BitVec w)) : List Int := l.map fun x => (x.toNat : Int)
@[simp] theorem vk (l : List (BitVec w)) : (cv l).length = l.length := by simp [cv]
theorem agf (l : List (BitVec w)) (i : Nat) : (cv l).getD i 0 = ((l.getD i 0).toNat : Int) := by
 unfold cv
 rw [List.getD_eq_getElem?_getD, List.getD_eq_getElem?_getD, List.getElem?_map]
 cases l[i]? <;> simp
theorem ayw (l : List (BitVec w)) (i : Nat) (x : BitVec w) : (cv l).set i (x.toNat : Int) = cv (l.set i x) := by simp [cv, List.map_set]
theorem afz (l r : List (BitVec w)) : cv l ++ cv r = cv (l ++ r) := by simp [cv]
def brj (p : Par w) (t : Nat) (wt : BitVec w) (v : List (BitVec w)) : BitVec w :=
 v.getD 7 0 + hi p.d (v.getD 4 0) + (v.getD 6 0 ^^^ (v.getD 4 0 &&& (v.getD 5 0 ^^^ v.getD 6 0))) + p.K t + wt
def b2u (p : Par w) (v : List (BitVec w)) : BitVec w := hi p.c (v.getD 0 0) + ((v.getD 0 0 &&& v.getD 1 0) ||| (v.getD 2 0 &&& (v.getD 0 0 ||| v.getD 1 0)))
def rnd (p : Par w) (t : Nat) (wt : BitVec w) (v : List (BitVec w)) : List (BitVec w) :=
 [brj p t wt v + b2u p v, v.getD 0 0, v.getD 1 0, v.getD 2 0, v.getD 3 0 + brj p t wt v, v.getD 4 0, v.getD 5 0, v.getD 6 0]
def buz (p : Par w) (l : List (BitVec w)) : BitVec w := lo p.b (l.getD (l.length - 2) 0) + l.getD (l.length - 7) 0 + lo p.a (l.getD (l.length - 15) 0) + l.getD (l.length - 16) 0
def sched (p : Par w) (l : List (BitVec w)) : Nat → List (BitVec w)
 | 0 => l
 | n + 1 => sched p l n ++ [buz p (sched p l n)]
theorem av3 (p : Par w) (l : List (BitVec w)) : ∀ n, (sched p l n).length = l.length + n
 | 0 => rfl
 | n + 1 => by simp only [sched, List.length_append, av3 p l n, List.length_singleton]; omega
theorem azf (p : Par w) (l : List (BitVec w)) (n i : Nat) (hi : i < l.length + n) : ∀ m, (sched p l (n + m)).getD i 0 = (sched p l n).getD i 0
 | 0 => rfl
 | m + 1 => by
  rw [← Nat.add_assoc]
  simp only [sched]
  rw [List.getD_eq_getElem?_getD, List.getElem?_append_left (by rw [av3]; omega), ← List.getD_eq_getElem?_getD, azf p l n i hi m]
def W (p : Par w) (l : List (BitVec w)) (t : Nat) : BitVec w := (sched p l t).getD t 0
theorem boa (p : Par w) (l : List (BitVec w)) (hl : 0 < l.length) (n t : Nat) (h : t < l.length + n) : (sched p l n).getD t 0 = W p l t := by
 unfold W
 by_cases hn : n ≤ t
 ·have := azf p l n t h (t - n)
  rw [show n + (t - n) = t by omega] at this
  exact this.symm
 ·have := azf p l t t (by omega) (n - t)
  rw [show t + (n - t) = n by omega] at this
  exact this
theorem bgo (p : Par w) (l : List (BitVec w)) (hl : l.length = 16) (t : Nat) : W p l (t + 16) = W p l t + lo p.a (W p l (t + 1)) + W p l (t + 9) + lo p.b (W p l (t + 14)) := by
 have e := boa p l (by omega) (t + 1) (t + 16) (by omega)
 rw [← e]
 simp only [sched]
 have hlen := av3 p l t
 rw [List.getD_eq_getElem?_getD, List.getElem?_append_right (by rw [hlen]; omega), hlen, show t + 16 - (l.length + t) = 0 by omega]
 simp only [List.getElem?_cons_zero, Option.getD_some]
 unfold buz
 rw [hlen, show l.length + t - 2 = t + 14 by omega, show l.length + t - 7 = t + 9 by omega, show l.length + t - 15 = t + 1 by omega, show l.length + t - 16 = t by omega,
  boa p l (by omega) t _ (by omega), boa p l (by omega) t _ (by omega), boa p l (by omega) t _ (by omega), boa p l (by omega) t _ (by omega)]
 ac_rfl
def runs (p : Par w) (l : List (BitVec w)) (v : List (BitVec w)) : Nat → List (BitVec w)
 | 0 => v
 | t + 1 => rnd p t (W p l t) (runs p l v t)
theorem am6 (p : Par w) (l v : List (BitVec w)) (hv : v.length = 8) : ∀ t, (runs p l v t).length = 8
 | 0 => hv
 | t + 1 => rfl
def bn7 (p : Par w) (l v : List (BitVec w)) : List (BitVec w) := (List.range 8).map fun i => (runs p l v p.rounds).getD i 0 + v.getD i 0
def lg (w : Nat) (b : List Int) (n : Nat) : List (BitVec w) := (List.range n).map fun t => BitVec.ofNat w (T 8 ((b.take ((t + 1) * (w / 8))).drop (t * (w / 8))).reverse)
def auv (p : Par w) (v : List (BitVec w)) (b : List Int) : List (BitVec w) := bn7 p (lg w b 16) v
theorem bhj (p : Par w) (v : List (BitVec w)) (b : List Int) : (auv p v b).length = 8 := by simp [auv, bn7]
theorem awe (b : List Int) (n : Nat) : lg w b (n + 1) = lg w b n ++ [BitVec.ofNat w (T 8 ((b.take ((n + 1) * (w / 8))).drop (n * (w / 8))).reverse)] := by simp [lg, List.range_succ]
theorem qd (b : List Int) (n : Nat) : (lg w b n).length = n := by simp [lg]
def win (p : Par w) (l : List (BitVec w)) (t : Nat) : List (BitVec w) := (List.range 16).map fun j => W p l (t + (j + 16 - t % 16) % 16)
theorem ate (p : Par w) (l : List (BitVec w)) (t i : Nat) (hi : i < 16) : (win p l t).getD ((t + i) % 16) 0 = W p l (t + i) := by
 unfold win
 rw [getD_lt (by simp; omega)]
 simp only [List.getElem_map, List.getElem_range]
 congr 1
 omega
theorem bgb (p : Par w) (l : List (BitVec w)) (t : Nat) : (win p l t).set (t % 16) (W p l (t + 16)) = win p l (t + 1) := by
 unfold win
 refine List.ext_getElem (by simp) (fun j h1 h2 => ?_)
 simp only [List.length_map, List.length_range] at h2
 rw [List.getElem_set]
 by_cases h : t % 16 = j
 ·rw [if_pos h]
  simp only [List.getElem_map, List.getElem_range]
  congr 1
  omega
 ·rw [if_neg h]
  simp only [List.getElem_map, List.getElem_range]
  congr 1
  omega
theorem win_zero (p : Par w) (b : List Int) : win p (lg w b 16) 0 = lg w b 16 := by
 unfold win
 refine List.ext_getElem (by simp [lg]) (fun j h1 h2 => ?_)
 rw [qd] at h2
 simp only [List.getElem_map, List.getElem_range]
 rw [show 0 + (j + 16 - 0 % 16) % 16 = j by omega, ← boa p _ (by rw [qd]; omega) 0 j (by rw [qd]; omega)]
 exact getD_lt (by rw [show sched p (lg w b 16) 0 = lg w b 16 from rfl, qd]; exact h2)
end
theorem beg : ∀ x, x ∈ P.roots256 → 0 ≤ x ∧ x < 4294967296 := by decide +kernel
theorem bd4 : ∀ x, x ∈ P.roots512 → 0 ≤ x ∧ x < 18446744073709551616 := by decide +kernel
def p32 : Par 32 := ⟨64, (7, 18, 3), (17, 19, 10), (2, 13, 22), (6, 11, 25), fun t => BitVec.ofInt 32 (P.roots256.getD t 0)⟩
def p64 : Par 64 := ⟨80, (1, 8, 7), (19, 61, 6), (28, 34, 39), (14, 18, 41), fun t => BitVec.ofInt 64 (P.roots512.getD t 0)⟩
theorem K32 (t : Nat) : P.roots256.getD t 0 = ((p32.K t).toNat : Int) := by
 have := In.getD (m := 4294967296) beg t (by omega)
 simp only [p32, BitVec.toNat_ofInt]
 omega
theorem K64 (t : Nat) : P.roots512.getD t 0 = ((p64.K t).toNat : Int) := by
 have := In.getD (m := 18446744073709551616) bd4 t (by omega)
 simp only [p64, BitVec.toNat_ofInt]
 omega
end Q
end

section
/- SHA-2: the program's engine of 32 bits. -/
namespace Q
open Go Go.Abs
set_option linter.unusedVariables false
set_option linter.unusedSimpArgs false
theorem ai3 (rd : Int) (t0 t1 t2 t3 : List Int) (x : BitVec 32) (m : Int) (n : Nat) (hm : m = (n : Int)) (hn : n ≤ 32) {ρ : Type} (k : Int → Option ρ) :
    P.bg 32 rd t0 t1 t2 t3 (x.toNat : Int) m k = k ((rr x n).toNat : Int) := by
 subst hm
 rw [P.abl]
 unfold P.wo
 rw [dn (by omega), o8 (by omega) (by omega), dn (by omega), show (32 : Int) - (n : Int) = ((32 - n : Nat) : Int) by omega]
 simp only [toNat_cast]
 rw [bpz _ _ hn, b5l _ _ (by omega), b6a]
 rfl
theorem bji (rd : Int) (x : BitVec 32) {ρ : Type} (k : Int → Option ρ) : P.jf 32 rd [7, 18, 3] [17, 19, 10] [2, 13, 22] [6, 11, 25] (x.toNat : Int) 3 k = k ((hi p32.d x).toNat : Int) := by
 rw [P.zx]
 unfold P.uh
 simp only [List.getD_cons_zero, List.getD_cons_succ]
 rw [dn (by decide), dn (by decide), dn (by decide), av (by decide), ai3 _ _ _ _ _ _ _ 6 (by rfl) (by omega), ai3 _ _ _ _ _ _ _ 11 (by rfl) (by omega), ai3 _ _ _ _ _ _ _ 25 (by rfl) (by omega), az6, az6]
 rfl
theorem bjg (rd : Int) (x : BitVec 32) {ρ : Type} (k : Int → Option ρ) : P.jf 32 rd [7, 18, 3] [17, 19, 10] [2, 13, 22] [6, 11, 25] (x.toNat : Int) 2 k = k ((hi p32.c x).toNat : Int) := by
 rw [P.zx]
 unfold P.uh
 simp only [List.getD_cons_zero, List.getD_cons_succ]
 rw [dn (by decide), dn (by decide), av (by decide), ai3 _ _ _ _ _ _ _ 2 (by rfl) (by omega), ai3 _ _ _ _ _ _ _ 13 (by rfl) (by omega), ai3 _ _ _ _ _ _ _ 22 (by rfl) (by omega), az6, az6]
 rfl
theorem bmr (rd : Int) (x : BitVec 32) {ρ : Type} (k : Int → Option ρ) : P.jo 32 rd [7, 18, 3] [17, 19, 10] [2, 13, 22] [6, 11, 25] (x.toNat : Int) 0 k = k ((lo p32.a x).toNat : Int) := by
 rw [P.aak]
 unfold P.u7
 simp only [List.getD_cons_zero, List.getD_cons_succ]
 rw [av (by decide), ai3 _ _ _ _ _ _ _ 7 (by rfl) (by omega), ai3 _ _ _ _ _ _ _ 18 (by rfl) (by omega), dn (by decide), az6, show (3 : Int).toNat = 3 from rfl, bpz _ _ (by omega), az6]
 rfl
theorem bly (rd : Int) (x : BitVec 32) {ρ : Type} (k : Int → Option ρ) : P.jo 32 rd [7, 18, 3] [17, 19, 10] [2, 13, 22] [6, 11, 25] (x.toNat : Int) 1 k = k ((lo p32.b x).toNat : Int) := by
 rw [P.aak]
 unfold P.u7
 simp only [List.getD_cons_zero, List.getD_cons_succ]
 rw [dn (by decide), av (by decide), ai3 _ _ _ _ _ _ _ 17 (by rfl) (by omega), ai3 _ _ _ _ _ _ _ 19 (by rfl) (by omega), dn (by decide), az6, show (10 : Int).toNat = 10 from rfl, bpz _ _ (by omega), az6]
 rfl
theorem bme (t : Nat) (h : t < 64) {ρ : Type} (k : Int → Option ρ) : P.ny (t : Int) k = k ((p32.K t).toNat : Int) := by
 rw [P.anq]
 unfold P.ah1
 rw [av (by omega), av (by omega), toNat_cast, K32]
theorem v8 {w : Nat} (v : List (BitVec w)) (hv : v.length = 8) : v = [v.getD 0 0, v.getD 1 0, v.getD 2 0, v.getD 3 0, v.getD 4 0, v.getD 5 0, v.getD 6 0, v.getD 7 0] := by
 match v, hv with
 | [a, b, c, d, e, f, g, h], _ => rfl
theorem b7b (t : Nat) : ((t : Nat) : Int).tmod 16 = ((t % 16 : Nat) : Int) := by
 rw [Int.tmod_eq_emod_of_nonneg (by omega)]; rfl
theorem buw (b : List Int) (hb : In 256 b) (hl : b.length = 16 * 4) (rd : Int) (t0 t1 t2 t3 h1 h2 : List Int) {ρ : Type} (k0 : List Int → Int → Int → Int → Int → List Int → List Int → List Int → List Int → List Int → List Int → List Int → Option ρ) :
    P.zl b 4 0 32 rd t0 t1 t2 t3 h1 h2 (List.replicate 16 0) k0 = k0 b 4 16 32 rd t0 t1 t2 t3 h1 h2 (cv (lg 32 b 16)) := by
 rw [P.af7]
 unfold P.acw P.byc P.br1 P.b42
 refine wu (fun i => (b, 4, (i : Int), 32, rd, t0, t1, t2, t3, h1, h2, cv (lg 32 b i) ++ List.replicate (16 - i) 0)) 16 (by simp [lg, cv]) (fun i hi next hn' => ?_) (fun next => ?_) (by omega)
 ·simp only [P.zo, toNat_cast]
  have e1 : IntKind.i64.wrap ((i : Int) * 4) = ((i * 4 : Nat) : Int) := by rw [o8 (by omega) (by omega)]; omega
  have e2 : IntKind.i64.wrap (IntKind.i64.wrap ((i : Int) + 1) * 4) = (((i + 1) * 4 : Nat) : Int) := by rw [o8 (x := (i : Int) + 1) (by omega) (by omega), o8 (by omega) (by omega)]; omega
  rw [e1, e2]
  simp only [toNat_cast]
  have hlen : ((b.take ((i + 1) * 4)).drop (i * 4)).length = 4 := by simp; omega
  rw [av (by omega), av (by omega), av (by omega), av (by omega), u6 _ ((hb.take _).drop _) (by omega), av (by omega), av (by omega)]
  have e3 : IntKind.u32.wrap ((T 8 ((b.take ((i + 1) * 4)).drop (i * 4)).reverse % 2 ^ 64 : Nat) : Int) = (((BitVec.ofNat 32 (T 8 ((b.take ((i + 1) * 4)).drop (i * 4)).reverse)).toNat : Nat) : Int) := by
   rw [bvh, BitVec.toNat_ofNat]; omega
  have e4 : IntKind.i64.wrap ((i : Int) + 1) = ((i + 1 : Nat) : Int) := by rw [o8 (by omega) (by omega)]; omega
  rw [e3, e4]
  have e5 : (cv (lg 32 b i) ++ List.replicate (16 - i) (0 : Int)).set i (((BitVec.ofNat 32 (T 8 ((b.take ((i + 1) * 4)).drop (i * 4)).reverse)).toNat : Nat) : Int) = cv (lg 32 b (i + 1)) ++ List.replicate (16 - (i + 1)) 0 := by
   rw [List.set_append_right _ _ (by simp [qd]), vk, qd, Nat.sub_self, show 16 - i = (16 - (i + 1)) + 1 by omega, List.replicate_succ, List.set_cons_zero, awe, ← afz, List.append_assoc]
   rfl
  rw [e5]
  exact hn'
 ·simp only [P.zo]
  rw [dn (by omega)]
  simp
theorem bpk (l v : List (BitVec 32)) (hv : v.length = 8) (h2 h1 : List Int) {ρ : Type} (k0 : Int → Int → List Int → List Int → List Int → Int → Int → List Int → List Int → List Int → List Int → List Int → Option ρ) (hl : l.length = 16) :
    P.qz 64 0 (cv (win p32 l 0)) h2 h1 32 64 [7, 18, 3] [17, 19, 10] [2, 13, 22] [6, 11, 25] (cv v) k0 =
     k0 64 64 (cv (win p32 l 64)) h2 h1 32 64 [7, 18, 3] [17, 19, 10] [2, 13, 22] [6, 11, 25] (cv (runs p32 l v 64)) := by
 rw [P.afp]
 unfold P.abx P.bx3 P.bu3 P.b2h
 refine wu (fun t => (64, (t : Int), cv (win p32 l t), h2, h1, 32, 64, [7, 18, 3], [17, 19, 10], [2, 13, 22], [6, 11, 25], cv (runs p32 l v t))) 64 rfl (fun t ht next hn' => ?_) (fun next => ?_) (by omega)
 ·simp only [P.zh]
  have e1 : IntKind.i64.wrap ((t : Int) + 1) = ((t + 1 : Nat) : Int) := by rw [o8 (by omega) (by omega)]; omega
  have e9 : IntKind.i64.wrap ((t : Int) + 9) = ((t + 9 : Nat) : Int) := by rw [o8 (by omega) (by omega)]; omega
  have e14 : IntKind.i64.wrap ((t : Int) + 14) = ((t + 14 : Nat) : Int) := by rw [o8 (by omega) (by omega)]; omega
  simp only [e1, e9, e14, b7b, toNat_cast, agf]
  have g0 := ate p32 l t 0 (by omega)
  rw [Nat.add_zero] at g0
  rw [g0, ate p32 l t 1 (by omega), ate p32 l t 9 (by omega), ate p32 l t 14 (by omega)]
  have hV := v8 _ (am6 p32 l v hv t)
  rw [av (by omega), av (by omega), av (by omega), bji, bme t ht, bjg, av (by omega), av (by omega), bmr, av (by omega), av (by omega), av (by omega), av (by omega), bly, av (by omega), av (by omega)]
  simp only [add32, az6, by6, b6a]
  rw [← bgo p32 l hl t, ayw, bgb]
  have hr : cv (runs p32 l v (t + 1)) = (((List.take 1 (cv (runs p32 l v t))).append (List.take 7 (List.take 7 (List.drop 0 (cv (runs p32 l v t)))) ++ List.drop (1 + min 7 (List.take 7 (List.drop 0 (cv (runs p32 l v t)))).length) (cv (runs p32 l v t)))).set 4
      (((runs p32 l v t).getD 3 0 + brj p32 t (W p32 l t) (runs p32 l v t)).toNat : Int)).set 0 ((brj p32 t (W p32 l t) (runs p32 l v t) + b2u p32 (runs p32 l v t)).toNat : Int) := by
   rw [hV]
   rfl
  have h3 : ((List.take 1 (cv (runs p32 l v t))).append (List.take 7 (List.take 7 (List.drop 0 (cv (runs p32 l v t)))) ++ List.drop (1 + min 7 (List.take 7 (List.drop 0 (cv (runs p32 l v t)))).length) (cv (runs p32 l v t)))).getD 4 0 = (((runs p32 l v t).getD 3 0).toNat : Int) := by
   rw [hV]
   rfl
  rw [h3, add32]
  rw [hr] at hn'
  exact hn'
 ·simp only [P.zh]
  rw [dn (by omega)]
  rfl
theorem bpa (v u : List (BitVec 32)) (hv : v.length = 8) (hu : u.length = 8) (h2 : List Int) {ρ : Type} (k0 : Int → List Int → List Int → List Int → Option ρ) :
    P.qx 0 (cv v) h2 (cv u) k0 = k0 8 (cv v) h2 (cv ((List.range 8).map fun i => u.getD i 0 + v.getD i 0)) := by
 rw [P.afr]
 unfold P.abr P.bxn P.bv8 P.by1
 have hs : ∀ i, i ≤ 8 → (((List.range i).map fun i => u.getD i 0 + v.getD i 0) ++ u.drop i).length = 8 := fun i hi => by simp; omega
 refine wu (fun i => ((i : Int), cv v, h2, cv (((List.range i).map fun i => u.getD i 0 + v.getD i 0) ++ u.drop i))) 8 (by simp) (fun i hi next hn' => ?_) (fun next => ?_) (by omega)
 ·simp only [P.y7, toNat_cast, agf]
  have e1 : IntKind.i64.wrap ((i : Int) + 1) = ((i + 1 : Nat) : Int) := by rw [o8 (by omega) (by omega)]; omega
  have e2 : (((List.range i).map fun i => u.getD i 0 + v.getD i 0) ++ u.drop i).getD i 0 = u.getD i 0 := by
   rw [List.getD_eq_getElem?_getD, List.getElem?_append_right (by simp), List.getElem?_drop, List.length_map, List.length_range, List.getD_eq_getElem?_getD]
   congr 2
   omega
  rw [e1, e2, add32, ayw]
  have e3 : (((List.range i).map fun i => u.getD i 0 + v.getD i 0) ++ u.drop i).set i (u.getD i 0 + v.getD i 0) = ((List.range (i + 1)).map fun i => u.getD i 0 + v.getD i 0) ++ u.drop (i + 1) := by
   rw [List.set_append_right _ _ (by simp), List.length_map, List.length_range, Nat.sub_self, List.range_succ, List.map_append, List.append_assoc, List.drop_eq_getElem_cons (by omega), List.set_cons_zero]
   rfl
  rw [e3]
  simp (disch := omega) only [av, dn, gq, dz, dw, dx, lq, o9, su, o8]
  exact hn'
 ·simp only [P.y7]
  rw [dn (by omega), List.drop_eq_nil_of_le (by omega), List.append_nil]
  rfl
theorem bjy (v : List (BitVec 32)) (hv : v.length = 8) (b : List Int) (hb : In 256 b) (hl : b.length = 16 * 4) {ρ : Type} (k : List Int → Option ρ) :
    P.ku 32 64 [7, 18, 3] [17, 19, 10] [2, 13, 22] [6, 11, 25] (cv v) b k = k (cv (auv p32 v b)) := by
 rw [P.ac0]
 unfold P.yu
 rw [show IntKind.i64.wrap ((32 : Int).tdiv 8) = 4 from rfl]
 have := buw b hb hl 64 [7, 18, 3] [17, 19, 10] [2, 13, 22] [6, 11, 25] (cv v) (List.replicate 8 0) (fun (q0 : List Int) (q1 q2 q3 q4 : Int) (q5 q6 q7 q8 q9 q10 q11 : List Int) =>
  P.qz q4 (0 : Int) q11 q10 q9 q3 q4 q5 q6 q7 q8 q9
   fun (q12 q13 : Int) (q14 q15 q16 : List Int) (q17 q18 : Int) (q19 q20 q21 q22 q23 : List Int) =>
   P.qx (0 : Int) q16 q15 q23 fun (q24 : Int) (q25 q26 q27 : List Int) => k q27)
 refine this.trans ?_
 rw [← win_zero p32, bpk _ v hv _ _ _ (qd b 16), bpa v _ hv (am6 _ _ _ hv _)]
 rfl
end Q
end

section
/- SHA-2: the document's block of words of 32 bits. -/
namespace Q
open Go Go.Abs
set_option linter.unusedVariables false
set_option linter.unusedSimpArgs false
theorem ac3 (b : List Int) (hb : In 256 b) (hn : b.length ≤ 1000000) {ρ : Type} (k : Int → Option ρ) : P.ac3 b k = k ((T 8 b.reverse % 2 ^ 64 : Nat) : Int) := by
 rw [P.aye]
 unfold P.ao3
 rw [P.ay9]
 unfold P.ayu P.bx7 P.bv3 P.b3b
 refine wu (fun i => (b, ((T 8 (b.take i).reverse % 2 ^ 64 : Nat) : Int), (i : Int))) b.length (by simp [T]) (fun i hi next hn' => ?_) (fun next => ?_) (by omega)
 ·obtain ⟨x, hx, hx2, hx3⟩ := byte_at hb i
  have est := azr b i hi
  rw [← hx3] at est
  simp only [P.aro, toNat_cast]
  have e1 : IntKind.u64.wrap (IntKind.u64.wrap (((T 8 (b.take i).reverse % 2 ^ 64 : Nat) : Int) * 256) + IntKind.u64.wrap (x : Int)) = ((T 8 (b.take (i + 1)).reverse % 2 ^ 64 : Nat) : Int) := by
   rw [bjf, bjf, bjf, est]; omega
  rw [hx, e1]
  simp (disch := omega) only [av, dn, gq, dz, dw, dx, lq, o9, su, o8]
  exact hn'
 ·simp only [P.aro]
  rw [dn (by omega), List.take_length]
theorem amt (x m : Int) (n : Nat) (hm : m = (n : Int)) (hn : n ≤ 32) : ∃ q, ∀ {ρ : Type} (k : Int → Option ρ), P.zf x m false k = k q := by
 subst hm
 refine ⟨bits .or .u64 (x.fdiv ((2 : Int) ^ min ((n : Int)).toNat 64)) (bits .and .u64 (IntKind.u64.wrap (x * (2 : Int) ^ min ((32 : Int) - (n : Int)).toNat 64)) 4294967295), fun k => ?_⟩
 rw [P.ais]
 unfold P.aea
 rw [su, dn (by omega), o8 (by omega) (by omega), dn (by omega)]
theorem bki (x a b c : Int) (l m n : Nat) (ha : a = (l : Int)) (hb : b = (m : Int)) (hc : c = (n : Int)) (h1 : l ≤ 32) (h2 : m ≤ 32) (h3 : n ≤ 32) : ∃ q, ∀ {ρ : Type} (k : Int → Option ρ), P.ze x a b c false false k = k q := by
 obtain ⟨q1, e1⟩ := amt x a l ha h1
 obtain ⟨q2, e2⟩ := amt x b m hb h2
 obtain ⟨q3, e3⟩ := amt x c n hc h3
 refine ⟨bits .xor .u64 (bits .xor .u64 q1 q2) q3, fun k => ?_⟩
 rw [P.ae2]
 unfold P.ab2
 rw [dn (by omega), lq, su, e3, e1, e2]
theorem bfp (x a b c : Int) (l m n : Nat) (ha : a = (l : Int)) (hb : b = (m : Int)) (hc : c = (n : Int)) (h1 : l ≤ 32) (h2 : m ≤ 32) (h3 : n ≤ 32) : ∃ q, ∀ {ρ : Type} (k : Int → Option ρ), P.ze x a b c true false k = k q := by
 obtain ⟨q1, e1⟩ := amt x a l ha h1
 obtain ⟨q2, e2⟩ := amt x b m hb h2
 refine ⟨bits .xor .u64 (bits .xor .u64 q1 q2) (x.fdiv ((2 : Int) ^ min c.toNat 64)), fun k => ?_⟩
 rw [P.ae2]
 unfold P.ab2
 rw [dn (by omega), lq, o9, e1, e2]
theorem amr (x : BitVec 32) (m : Int) (n : Nat) (hm : m = (n : Int)) (hn : n ≤ 32) {ρ : Type} (k : Int → Option ρ) : P.zf (x.toNat : Int) m false k = k ((rr x n).toNat : Int) := by
 subst hm
 rw [P.ais]
 unfold P.aea
 rw [su, dn (by omega), o8 (by omega) (by omega), dn (by omega), show (32 : Int) - (n : Int) = ((32 - n : Nat) : Int) by omega]
 simp only [toNat_cast]
 rw [b57 _ _ (by omega), nshl _ _ (by omega), nor]
 rfl
theorem bn1 (x : BitVec 32) (t : Nat × Nat × Nat) (a b c : Int) (ha : a = (t.1 : Int)) (hb : b = (t.2.1 : Int)) (hc : c = (t.2.2 : Int)) (h1 : t.1 ≤ 32) (h2 : t.2.1 ≤ 32) (h3 : t.2.2 ≤ 32) {ρ : Type} (k : Int → Option ρ) :
    P.ze (x.toNat : Int) a b c false false k = k ((hi t x).toNat : Int) := by
 rw [P.ae2]
 unfold P.ab2
 rw [dn (by omega), lq, su, amr _ _ _ hc h3, amr _ _ _ ha h1, amr _ _ _ hb h2, boj, boj]
 rfl
theorem bok (x : BitVec 32) (t : Nat × Nat × Nat) (a b c : Int) (ha : a = (t.1 : Int)) (hb : b = (t.2.1 : Int)) (hc : c = (t.2.2 : Int)) (h1 : t.1 ≤ 32) (h2 : t.2.1 ≤ 32) (h3 : t.2.2 ≤ 32) {ρ : Type} (k : Int → Option ρ) :
    P.ze (x.toNat : Int) a b c true false k = k ((lo t x).toNat : Int) := by
 rw [P.ae2]
 unfold P.ab2
 rw [dn (by omega), lq, o9, amr _ _ _ ha h1, amr _ _ _ hb h2, boj, hc]
 simp only [toNat_cast]
 rw [b57 _ _ (by omega), boj]
 rfl
theorem b3t (a b c d : BitVec 32) : bits .and .u64 (IntKind.u64.wrap (IntKind.u64.wrap (IntKind.u64.wrap ((a.toNat : Int) + (b.toNat : Int)) + (c.toNat : Int)) + (d.toNat : Int))) 4294967295 = ((a + b + c + d).toNat : Int) := by
 have ha := atz a
 have hb := atz b
 have hc := atz c
 have hd := atz d
 rw [← Int.natCast_add, ah5 _ (by omega), ← Int.natCast_add, ah5 _ (by omega), ← Int.natCast_add, ah5 _ (by omega), bi2 _ (by omega), BitVec.toNat_add, BitVec.toNat_add, BitVec.toNat_add]
 omega
theorem b0f (a b : BitVec 32) : bits .and .u64 (IntKind.u64.wrap ((a.toNat : Int) + (b.toNat : Int))) 4294967295 = ((a + b).toNat : Int) := by
 have ha := atz a
 have hb := atz b
 rw [← Int.natCast_add, ah5 _ (by omega), bi2 _ (by omega), BitVec.toNat_add]
theorem b5k (d a b c e f : BitVec 32) : bits .and .u64 (IntKind.u64.wrap ((d.toNat : Int) + IntKind.u64.wrap (IntKind.u64.wrap (IntKind.u64.wrap (IntKind.u64.wrap ((a.toNat : Int) + (b.toNat : Int)) + (c.toNat : Int)) + (e.toNat : Int)) + (f.toNat : Int)))) 4294967295 = ((d + (a + b + c + e + f)).toNat : Int) := by
 have hd := atz d
 have ha := atz a
 have hb := atz b
 have hc := atz c
 have he := atz e
 have hf := atz f
 rw [← Int.natCast_add, ah5 _ (by omega), ← Int.natCast_add, ah5 _ (by omega), ← Int.natCast_add, ah5 _ (by omega), ← Int.natCast_add, ah5 _ (by omega), ← Int.natCast_add, ah5 _ (by omega), bi2 _ (by omega), BitVec.toNat_add, BitVec.toNat_add, BitVec.toNat_add, BitVec.toNat_add, BitVec.toNat_add]
 omega
theorem bzy (a b c e f g h : BitVec 32) : bits .and .u64 (IntKind.u64.wrap (IntKind.u64.wrap (IntKind.u64.wrap (IntKind.u64.wrap (IntKind.u64.wrap ((a.toNat : Int) + (b.toNat : Int)) + (c.toNat : Int)) + (e.toNat : Int)) + (f.toNat : Int)) + IntKind.u64.wrap ((g.toNat : Int) + (h.toNat : Int)))) 4294967295 = (((a + b + c + e + f) + (g + h)).toNat : Int) := by
 have ha := atz a
 have hb := atz b
 have hc := atz c
 have he := atz e
 have hf := atz f
 have hg := atz g
 have hh := atz h
 rw [← Int.natCast_add, ah5 _ (by omega), ← Int.natCast_add, ah5 _ (by omega), ← Int.natCast_add, ah5 _ (by omega), ← Int.natCast_add, ah5 _ (by omega), ← Int.natCast_add (g.toNat), ah5 _ (by omega), ← Int.natCast_add, ah5 _ (by omega), bi2 _ (by omega), BitVec.toNat_add, BitVec.toNat_add, BitVec.toNat_add, BitVec.toNat_add, BitVec.toNat_add, BitVec.toNat_add]
 omega
theorem b04 (e f g : BitVec 32) : bits .xor .u64 (bits .and .u64 (e.toNat : Int) (f.toNat : Int)) (bits .and .u64 (bits .xor .u64 4294967295 (e.toNat : Int)) (g.toNat : Int)) = ((g ^^^ (e &&& (f ^^^ g))).toNat : Int) := by
 rw [show (4294967295 : Int) = ((BitVec.allOnes 32).toNat : Int) from rfl, nand, boj, nand, boj, btu]
theorem br0 (a b c : BitVec 32) : bits .xor .u64 (bits .xor .u64 (bits .and .u64 (a.toNat : Int) (b.toNat : Int)) (bits .and .u64 (a.toNat : Int) (c.toNat : Int))) (bits .and .u64 (b.toNat : Int) (c.toNat : Int)) = (((a &&& b) ||| (c &&& (a ||| b))).toNat : Int) := by
 rw [nand, nand, nand, boj, boj, bod]
def atn (b : List Int) (t : Nat) : List (BitVec 32) := (List.range t).map (W p32 (lg 32 b 16))
theorem axc (b : List Int) (t : Nat) : atn b (t + 1) = atn b t ++ [W p32 (lg 32 b 16) t] := by simp [atn, List.range_succ]
theorem bb7 (b : List Int) (t : Nat) : (atn b t).length = t := by simp [atn]
theorem aqm (b : List Int) (t i : Nat) (h : i < t) : (atn b t).getD i 0 = W p32 (lg 32 b 16) i := by
 unfold atn
 rw [getD_lt (by simpa using h)]; simp
theorem bp0 (b : List Int) (t : Nat) (h : t < 16) : W p32 (lg 32 b 16) t = BitVec.ofNat 32 (T 8 ((b.take ((t + 1) * 4)).drop (t * 4)).reverse) := by
 rw [← boa p32 _ (by rw [qd]; omega) 0 t (by rw [qd]; omega), show sched p32 (lg 32 b 16) 0 = lg 32 b 16 from rfl, getD_lt (by rw [qd]; exact h)]
 simp [lg]
theorem bjd (b : List Int) (hb : In 256 b) (hl : b.length = 16 * 4) {ρ : Type} (k : List Int → Option ρ) : P.ab9 b false 64 4294967295 k = k (cv (atn b 64)) := by
 rw [P.amb]
 unfold P.ags
 rw [su, P.amj]
 unfold P.ame P.btn P.brc P.bxt
 refine wu (fun t => (b, false, 64, 4294967295, 4, (t : Int), cv (atn b t))) 64 rfl (fun t ht next hn' => ?_) (fun next => ?_) (by omega)
 ·simp only [P.afl, toNat_cast]
  have e1 : IntKind.i64.wrap ((t : Int) + 1) = ((t + 1 : Nat) : Int) := by rw [o8 (by omega) (by omega)]; omega
  rw [av (by omega)]
  have hlen := bb7 b t
  by_cases h16 : t < 16
  ·have e2 : IntKind.i64.wrap ((t : Int) * 4) = ((t * 4 : Nat) : Int) := by rw [o8 (by omega) (by omega)]; omega
   have e3 : IntKind.i64.wrap (IntKind.i64.wrap ((t : Int) * 4) + 4) = (((t + 1) * 4 : Nat) : Int) := by rw [e2, o8 (by omega) (by omega)]; omega
   have hl2 : ((b.take ((t + 1) * 4)).drop (t * 4)).length = 4 := by simp; omega
   rw [av (by omega), e3, e2, av (by omega), av (by omega), av (by omega)]
   simp only [toNat_cast]
   have hT := brw 8 ((b.take ((t + 1) * 4)).drop (t * 4)).reverse
   rw [List.length_reverse, hl2] at hT
   have e4 : ((T 8 ((b.take ((t + 1) * 4)).drop (t * 4)).reverse % 2 ^ 64 : Nat) : Int) = ((W p32 (lg 32 b 16) t).toNat : Int) := by
    rw [bp0 b t h16, BitVec.toNat_ofNat, Nat.mod_eq_of_lt (by omega), Nat.mod_eq_of_lt (by omega)]
   rw [ac3 _ ((hb.take _).drop _) (by omega), av (by rw [vk]; omega), e4, e1, show [((W p32 (lg 32 b 16) t).toNat : Int)] = cv [W p32 (lg 32 b 16) t] from rfl, afz, ← axc]
   exact hn'
  ·have e15 : IntKind.i64.wrap ((t : Int) - 15) = ((t - 15 : Nat) : Int) := by rw [o8 (by omega) (by omega)]; omega
   have e2 : IntKind.i64.wrap ((t : Int) - 2) = ((t - 2 : Nat) : Int) := by rw [o8 (by omega) (by omega)]; omega
   have e7 : IntKind.i64.wrap ((t : Int) - 7) = ((t - 7 : Nat) : Int) := by rw [o8 (by omega) (by omega)]; omega
   have e16 : IntKind.i64.wrap ((t : Int) - 16) = ((t - 16 : Nat) : Int) := by rw [o8 (by omega) (by omega)]; omega
   simp only [e15, e2, e7, e16, toNat_cast, agf, vk, hlen]
   rw [aqm b t _ (by omega), aqm b t _ (by omega), aqm b t _ (by omega), aqm b t _ (by omega)]
   rw [dn (by omega), av (by omega), av (by omega), bok _ p32.a _ _ _ (by rfl) (by rfl) (by rfl) (by decide) (by decide) (by decide), av (by omega), av (by omega), bok _ p32.b _ _ _ (by rfl) (by rfl) (by rfl) (by decide) (by decide) (by decide), su]
   have hW := bgo p32 (lg 32 b 16) (qd b 16) (t - 16)
   rw [show t - 16 + 16 = t by omega, show t - 16 + 1 = t - 15 by omega, show t - 16 + 9 = t - 7 by omega, show t - 16 + 14 = t - 2 by omega] at hW
   have hW2 : lo p32.b (W p32 (lg 32 b 16) (t - 2)) + W p32 (lg 32 b 16) (t - 7) + lo p32.a (W p32 (lg 32 b 16) (t - 15)) + W p32 (lg 32 b 16) (t - 16) = W p32 (lg 32 b 16) t := by rw [hW]; ac_rfl
   rw [av (by omega), av (by omega), av (by omega), av (by omega), av (by omega), b3t, hW2, e1, show [((W p32 (lg 32 b 16) t).toNat : Int)] = cv [W p32 (lg 32 b 16) t] from rfl, afz, ← axc]
   exact hn'
 ·simp only [P.afl]
  rw [dn (by omega)]
theorem bqw (b : List Int) (v : List (BitVec 32)) (hv : v.length = 8) (h0 h1 : List Int) {ρ : Type} (k0 : Bool → Int → Int → Int → List Int → List Int → List Int → List Int → List Int → List Int → Option ρ) :
    P.ad4 false 64 4294967295 0 h0 h1 P.roots256 P.roots512 (cv (atn b 64)) (cv v) k0 = k0 false 64 4294967295 64 h0 h1 P.roots256 P.roots512 (cv (atn b 64)) (cv (runs p32 (lg 32 b 16) v 64)) := by
 rw [P.ak2]
 unfold P.aj9 P.bv0 P.brl P.bxo
 refine wu (fun t => (false, 64, 4294967295, (t : Int), h0, h1, P.roots256, P.roots512, cv (atn b 64), cv (runs p32 (lg 32 b 16) v t))) 64 rfl (fun t ht next hn' => ?_) (fun next => ?_) (by omega)
 ·simp only [P.aeg]
  have e1 : IntKind.i64.wrap ((t : Int) + 1) = ((t + 1 : Nat) : Int) := by rw [o8 (by omega) (by omega)]; omega
  have hlen := bb7 b 64
  simp only [e1, toNat_cast, agf, vk, hlen]
  rw [aqm b 64 t ht, K32]
  rw [av (by omega), bn1 _ p32.c _ _ _ (by rfl) (by rfl) (by rfl) (by decide) (by decide) (by decide), bn1 _ p32.d _ _ _ (by rfl) (by rfl) (by rfl) (by decide) (by decide) (by decide), su]
  rw [av (by omega), av (by omega), av (by omega), av (by omega), b04, br0, bzy, b5k]
  exact hn'
 ·simp only [P.aeg]
  rw [dn (by omega)]
  rfl
theorem bqi (v u : List (BitVec 32)) (hv : v.length = 8) (hu : u.length = 8) (h1 : List Int) {ρ : Type} (k0 : Int → Int → List Int → List Int → List Int → Option ρ) :
    P.ad9 4294967295 0 (cv v) h1 (cv u) k0 = k0 4294967295 8 (cv v) h1 (cv ((List.range 8).map fun i => u.getD i 0 + v.getD i 0)) := by
 rw [P.ala]
 unfold P.aki P.bte P.brg P.bxr
 refine wu (fun i => (4294967295, (i : Int), cv v, h1, cv (((List.range i).map fun i => u.getD i 0 + v.getD i 0) ++ u.drop i))) 8 (by simp) (fun i hi next hn' => ?_) (fun next => ?_) (by omega)
 ·simp only [P.ady, toNat_cast, agf]
  have e1 : IntKind.i64.wrap ((i : Int) + 1) = ((i + 1 : Nat) : Int) := by rw [o8 (by omega) (by omega)]; omega
  have e2 : (((List.range i).map fun i => u.getD i 0 + v.getD i 0) ++ u.drop i).getD i 0 = u.getD i 0 := by
   rw [List.getD_eq_getElem?_getD, List.getElem?_append_right (by simp), List.getElem?_drop, List.length_map, List.length_range, List.getD_eq_getElem?_getD]
   congr 2
   omega
  rw [e1, e2, b0f, ayw]
  have e3 : (((List.range i).map fun i => u.getD i 0 + v.getD i 0) ++ u.drop i).set i (u.getD i 0 + v.getD i 0) = ((List.range (i + 1)).map fun i => u.getD i 0 + v.getD i 0) ++ u.drop (i + 1) := by
   rw [List.set_append_right _ _ (by simp), List.length_map, List.length_range, Nat.sub_self, List.range_succ, List.map_append, List.append_assoc, List.drop_eq_getElem_cons (by omega), List.set_cons_zero]
   rfl
  rw [e3]
  simp (disch := omega) only [av, dn, gq, dz, dw, dx, lq, o9, su, o8]
  exact hn'
 ·simp only [P.ady]
  rw [dn (by omega), List.drop_eq_nil_of_le (by omega), List.append_nil]
  rfl
theorem bjt (v : List (BitVec 32)) (hv : v.length = 8) (b : List Int) (hb : In 256 b) (hl : b.length = 16 * 4) {ρ : Type} (k : List Int → Option ρ) : P.ac5 (cv v) b false k = k (cv (auv p32 v b)) := by
 rw [P.amm]
 unfold P.agy
 have hr1 : ∀ (k : List Int → Option ρ), P.x9 k = k P.roots256 := fun k => by rw [P.ahb]; kernel_rfl
 have hr2 : ∀ (k : List Int → Option ρ), P.xw k = k P.roots512 := fun k => by rw [P.aho]; kernel_rfl
 rw [hr1, hr2, su, bjd b hb hl, bqw b v hv, bqi v _ hv (am6 _ _ _ hv _)]
 rfl
end Q
end

section
/- SHA-2: the program's engine of 64 bits. -/
namespace Q
open Go Go.Abs
set_option linter.unusedVariables false
set_option linter.unusedSimpArgs false
theorem aiv (rd : Int) (t0 t1 t2 t3 : List Int) (x : BitVec 64) (m : Int) (n : Nat) (hm : m = (n : Int)) (hn : n ≤ 64) {ρ : Type} (k : Int → Option ρ) :
    P.bf 64 rd t0 t1 t2 t3 (x.toNat : Int) m k = k ((rr x n).toNat : Int) := by
 subst hm
 rw [P.abk]
 unfold P.wm
 rw [dn (by omega), o8 (by omega) (by omega), dn (by omega), show (64 : Int) - (n : Int) = ((64 - n : Nat) : Int) by omega]
 simp only [toNat_cast]
 rw [bg6 _ _ hn, bo8 _ _ (by omega), byb]
 rfl
theorem bju (rd : Int) (x : BitVec 64) {ρ : Type} (k : Int → Option ρ) : P.jg 64 rd [1, 8, 7] [19, 61, 6] [28, 34, 39] [14, 18, 41] (x.toNat : Int) 3 k = k ((hi p64.d x).toNat : Int) := by
 rw [P.zy]
 unfold P.um
 simp only [List.getD_cons_zero, List.getD_cons_succ]
 rw [dn (by decide), dn (by decide), dn (by decide), av (by decide), aiv _ _ _ _ _ _ _ 14 (by rfl) (by omega), aiv _ _ _ _ _ _ _ 18 (by rfl) (by omega), aiv _ _ _ _ _ _ _ 41 (by rfl) (by omega), akk, akk]
 rfl
theorem biy (rd : Int) (x : BitVec 64) {ρ : Type} (k : Int → Option ρ) : P.jg 64 rd [1, 8, 7] [19, 61, 6] [28, 34, 39] [14, 18, 41] (x.toNat : Int) 2 k = k ((hi p64.c x).toNat : Int) := by
 rw [P.zy]
 unfold P.um
 simp only [List.getD_cons_zero, List.getD_cons_succ]
 rw [dn (by decide), dn (by decide), av (by decide), aiv _ _ _ _ _ _ _ 28 (by rfl) (by omega), aiv _ _ _ _ _ _ _ 34 (by rfl) (by omega), aiv _ _ _ _ _ _ _ 39 (by rfl) (by omega), akk, akk]
 rfl
theorem bl7 (rd : Int) (x : BitVec 64) {ρ : Type} (k : Int → Option ρ) : P.jr 64 rd [1, 8, 7] [19, 61, 6] [28, 34, 39] [14, 18, 41] (x.toNat : Int) 0 k = k ((lo p64.a x).toNat : Int) := by
 rw [P.aal]
 unfold P.vg
 simp only [List.getD_cons_zero, List.getD_cons_succ]
 rw [av (by decide), aiv _ _ _ _ _ _ _ 1 (by rfl) (by omega), aiv _ _ _ _ _ _ _ 8 (by rfl) (by omega), dn (by decide), akk, show (7 : Int).toNat = 7 from rfl, bg6 _ _ (by omega), akk]
 rfl
theorem bng (rd : Int) (x : BitVec 64) {ρ : Type} (k : Int → Option ρ) : P.jr 64 rd [1, 8, 7] [19, 61, 6] [28, 34, 39] [14, 18, 41] (x.toNat : Int) 1 k = k ((lo p64.b x).toNat : Int) := by
 rw [P.aal]
 unfold P.vg
 simp only [List.getD_cons_zero, List.getD_cons_succ]
 rw [dn (by decide), av (by decide), aiv _ _ _ _ _ _ _ 19 (by rfl) (by omega), aiv _ _ _ _ _ _ _ 61 (by rfl) (by omega), dn (by decide), akk, show (6 : Int).toNat = 6 from rfl, bg6 _ _ (by omega), akk]
 rfl
theorem bl6 (t : Nat) (h : t < 80) {ρ : Type} (k : Int → Option ρ) : P.nk (t : Int) k = k ((p64.K t).toNat : Int) := by
 rw [P.an3]
 unfold P.ahs
 rw [av (by omega), av (by omega), toNat_cast, K64]
theorem bvp (b : List Int) (hb : In 256 b) (hl : b.length = 16 * 8) (rd : Int) (t0 t1 t2 t3 h1 h2 : List Int) {ρ : Type} (k0 : List Int → Int → Int → Int → Int → List Int → List Int → List Int → List Int → List Int → List Int → List Int → Option ρ) :
    P.zk b 8 0 64 rd t0 t1 t2 t3 h1 h2 (List.replicate 16 0) k0 = k0 b 8 16 64 rd t0 t1 t2 t3 h1 h2 (cv (lg 64 b 16)) := by
 rw [P.aga]
 unfold P.acz P.bxq P.bv5 P.by4
 refine wu (fun i => (b, 8, (i : Int), 64, rd, t0, t1, t2, t3, h1, h2, cv (lg 64 b i) ++ List.replicate (16 - i) 0)) 16 (by simp [lg, cv]) (fun i hi next hn' => ?_) (fun next => ?_) (by omega)
 ·simp only [P.zq, toNat_cast]
  have e1 : IntKind.i64.wrap ((i : Int) * 8) = ((i * 8 : Nat) : Int) := by rw [o8 (by omega) (by omega)]; omega
  have e2 : IntKind.i64.wrap (IntKind.i64.wrap ((i : Int) + 1) * 8) = (((i + 1) * 8 : Nat) : Int) := by rw [o8 (x := (i : Int) + 1) (by omega) (by omega), o8 (by omega) (by omega)]; omega
  rw [e1, e2]
  simp only [toNat_cast]
  have hlen : ((b.take ((i + 1) * 8)).drop (i * 8)).length = 8 := by simp; omega
  rw [av (by omega), av (by omega), av (by omega), av (by omega), u6 _ ((hb.take _).drop _) (by omega), av (by omega), av (by omega)]
  have e3 : ((T 8 ((b.take ((i + 1) * 8)).drop (i * 8)).reverse % 2 ^ 64 : Nat) : Int) = (((BitVec.ofNat 64 (T 8 ((b.take ((i + 1) * 8)).drop (i * 8)).reverse)).toNat : Nat) : Int) := by
   rw [BitVec.toNat_ofNat]
  have e4 : IntKind.i64.wrap ((i : Int) + 1) = ((i + 1 : Nat) : Int) := by rw [o8 (by omega) (by omega)]; omega
  rw [e3, e4]
  have e5 : (cv (lg 64 b i) ++ List.replicate (16 - i) (0 : Int)).set i (((BitVec.ofNat 64 (T 8 ((b.take ((i + 1) * 8)).drop (i * 8)).reverse)).toNat : Nat) : Int) = cv (lg 64 b (i + 1)) ++ List.replicate (16 - (i + 1)) 0 := by
   rw [List.set_append_right _ _ (by simp [qd]), vk, qd, Nat.sub_self, show 16 - i = (16 - (i + 1)) + 1 by omega, List.replicate_succ, List.set_cons_zero, awe, ← afz, List.append_assoc]
   rfl
  rw [e5]
  exact hn'
 ·simp only [P.zq]
  rw [dn (by omega)]
  simp
theorem bpc (l v : List (BitVec 64)) (hv : v.length = 8) (h2 h1 : List Int) {ρ : Type} (k0 : Int → Int → List Int → List Int → List Int → Int → Int → List Int → List Int → List Int → List Int → List Int → Option ρ) (hl : l.length = 16) :
    P.rz 80 0 (cv (win p64 l 0)) h2 h1 64 80 [1, 8, 7] [19, 61, 6] [28, 34, 39] [14, 18, 41] (cv v) k0 =
     k0 80 80 (cv (win p64 l 80)) h2 h1 64 80 [1, 8, 7] [19, 61, 6] [28, 34, 39] [14, 18, 41] (cv (runs p64 l v 80)) := by
 rw [P.afq]
 unfold P.abp P.bxx P.bsc P.bz3
 refine wu (fun t => (80, (t : Int), cv (win p64 l t), h2, h1, 64, 80, [1, 8, 7], [19, 61, 6], [28, 34, 39], [14, 18, 41], cv (runs p64 l v t))) 80 rfl (fun t ht next hn' => ?_) (fun next => ?_) (by omega)
 ·simp only [P.y8]
  have e1 : IntKind.i64.wrap ((t : Int) + 1) = ((t + 1 : Nat) : Int) := by rw [o8 (by omega) (by omega)]; omega
  have e9 : IntKind.i64.wrap ((t : Int) + 9) = ((t + 9 : Nat) : Int) := by rw [o8 (by omega) (by omega)]; omega
  have e14 : IntKind.i64.wrap ((t : Int) + 14) = ((t + 14 : Nat) : Int) := by rw [o8 (by omega) (by omega)]; omega
  simp only [e1, e9, e14, b7b, toNat_cast, agf]
  have g0 := ate p64 l t 0 (by omega)
  rw [Nat.add_zero] at g0
  rw [g0, ate p64 l t 1 (by omega), ate p64 l t 9 (by omega), ate p64 l t 14 (by omega)]
  have hV := v8 _ (am6 p64 l v hv t)
  rw [av (by omega), av (by omega), av (by omega), bju, bl6 t ht, biy, av (by omega), av (by omega), bl7, av (by omega), av (by omega), av (by omega), av (by omega), bng, av (by omega), av (by omega)]
  simp only [ale, akk, bec, byb]
  rw [← bgo p64 l hl t, ayw, bgb]
  have hr : cv (runs p64 l v (t + 1)) = (((List.take 1 (cv (runs p64 l v t))).append (List.take 7 (List.take 7 (List.drop 0 (cv (runs p64 l v t)))) ++ List.drop (1 + min 7 (List.take 7 (List.drop 0 (cv (runs p64 l v t)))).length) (cv (runs p64 l v t)))).set 4
      (((runs p64 l v t).getD 3 0 + brj p64 t (W p64 l t) (runs p64 l v t)).toNat : Int)).set 0 ((brj p64 t (W p64 l t) (runs p64 l v t) + b2u p64 (runs p64 l v t)).toNat : Int) := by
   rw [hV]
   rfl
  have h3 : ((List.take 1 (cv (runs p64 l v t))).append (List.take 7 (List.take 7 (List.drop 0 (cv (runs p64 l v t)))) ++ List.drop (1 + min 7 (List.take 7 (List.drop 0 (cv (runs p64 l v t)))).length) (cv (runs p64 l v t)))).getD 4 0 = (((runs p64 l v t).getD 3 0).toNat : Int) := by
   rw [hV]
   rfl
  rw [h3, ale]
  rw [hr] at hn'
  exact hn'
 ·simp only [P.y8]
  rw [dn (by omega)]
  rfl
theorem bqz (v u : List (BitVec 64)) (hv : v.length = 8) (hu : u.length = 8) (h2 : List Int) {ρ : Type} (k0 : Int → List Int → List Int → List Int → Option ρ) :
    P.ru 0 (cv v) h2 (cv u) k0 = k0 8 (cv v) h2 (cv ((List.range 8).map fun i => u.getD i 0 + v.getD i 0)) := by
 rw [P.aft]
 unfold P.ab8 P.bxi P.br5 P.b4x
 have hs : ∀ i, i ≤ 8 → (((List.range i).map fun i => u.getD i 0 + v.getD i 0) ++ u.drop i).length = 8 := fun i hi => by simp; omega
 refine wu (fun i => ((i : Int), cv v, h2, cv (((List.range i).map fun i => u.getD i 0 + v.getD i 0) ++ u.drop i))) 8 (by simp) (fun i hi next hn' => ?_) (fun next => ?_) (by omega)
 ·simp only [P.y5, toNat_cast, agf]
  have e1 : IntKind.i64.wrap ((i : Int) + 1) = ((i + 1 : Nat) : Int) := by rw [o8 (by omega) (by omega)]; omega
  have e2 : (((List.range i).map fun i => u.getD i 0 + v.getD i 0) ++ u.drop i).getD i 0 = u.getD i 0 := by
   rw [List.getD_eq_getElem?_getD, List.getElem?_append_right (by simp), List.getElem?_drop, List.length_map, List.length_range, List.getD_eq_getElem?_getD]
   congr 2
   omega
  rw [e1, e2, ale, ayw]
  have e3 : (((List.range i).map fun i => u.getD i 0 + v.getD i 0) ++ u.drop i).set i (u.getD i 0 + v.getD i 0) = ((List.range (i + 1)).map fun i => u.getD i 0 + v.getD i 0) ++ u.drop (i + 1) := by
   rw [List.set_append_right _ _ (by simp), List.length_map, List.length_range, Nat.sub_self, List.range_succ, List.map_append, List.append_assoc, List.drop_eq_getElem_cons (by omega), List.set_cons_zero]
   rfl
  rw [e3]
  simp (disch := omega) only [av, dn, gq, dz, dw, dx, lq, o9, su, o8]
  exact hn'
 ·simp only [P.y5]
  rw [dn (by omega), List.drop_eq_nil_of_le (by omega), List.append_nil]
  rfl
theorem bjz (v : List (BitVec 64)) (hv : v.length = 8) (b : List Int) (hb : In 256 b) (hl : b.length = 16 * 8) {ρ : Type} (k : List Int → Option ρ) :
    P.kr 64 80 [1, 8, 7] [19, 61, 6] [28, 34, 39] [14, 18, 41] (cv v) b k = k (cv (auv p64 v b)) := by
 rw [P.acy]
 unfold P.yt
 rw [show IntKind.i64.wrap ((64 : Int).tdiv 8) = 8 from rfl]
 have := bvp b hb hl 80 [1, 8, 7] [19, 61, 6] [28, 34, 39] [14, 18, 41] (cv v) (List.replicate 8 0) (fun (q0 : List Int) (q1 q2 q3 q4 : Int) (q5 q6 q7 q8 q9 q10 q11 : List Int) =>
  P.rz q4 (0 : Int) q11 q10 q9 q3 q4 q5 q6 q7 q8 q9
   fun (q12 q13 : Int) (q14 q15 q16 : List Int) (q17 q18 : Int) (q19 q20 q21 q22 q23 : List Int) =>
   P.ru (0 : Int) q16 q15 q23 fun (q24 : Int) (q25 q26 q27 : List Int) => k q27)
 refine this.trans ?_
 rw [← win_zero p64, bpc _ v hv _ _ _ (qd b 16), bqz v _ hv (am6 _ _ _ hv _)]
 rfl
end Q
end
