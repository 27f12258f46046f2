/-
  ForsRight, part 18: an interpreter of my own over abstract values, the pure functions, the walks and the plain law.
-/

import Derived.Test.YtjhnljhjpnjieaaDoorForsRightH
import Derived.Laws.Bits64
import Derived.Test.YtjhnljhjpnjieaaDoorForsRightK
import Derived.Test.YtjhnljhjpnjieaaDoorForsRightI
import Derived.Test.YtjhnljhjpnjieaaDoorForsRightJ

section
/- Small laws for the plain proofs. -/
namespace Q
open Go Go.Abs
set_option linter.unusedVariables false
def In (m : Int) (l : List Int) : Prop := ∀ x, x ∈ l → 0 ≤ x ∧ x < m
theorem wf_u8 {n : Int} (h : wfI .u8 n) : 0 ≤ n ∧ n < 256 := by
 simp [wfI, Lit.wf, IntKind.min, IntKind.max, IntKind.signed, IntKind.bits] at h; omega
theorem be3 {l : List Int} (h : ∀ x, x ∈ l → wfI .u8 x) : In 256 l := fun x hx => wf_u8 (h x hx)
theorem In.tail {m x : Int} {l : List Int} (h : In m (x :: l)) : In m l := fun y hy => h y (List.mem_cons_of_mem _ hy)
theorem In.app {m : Int} {l r : List Int} (h1 : In m l) (h2 : In m r) : In m (l ++ r) := fun y hy => (List.mem_append.1 hy).elim (h1 y) (h2 y)
theorem In.left {m : Int} {l r : List Int} (h : In m (l ++ r)) : In m l := fun y hy => h y (List.mem_append_left _ hy)
theorem In.right {m : Int} {l r : List Int} (h : In m (l ++ r)) : In m r := fun y hy => h y (List.mem_append_right _ hy)
theorem In.take {m : Int} {l : List Int} (h : In m l) (n : Nat) : In m (l.take n) := fun y hy => h y (List.mem_of_mem_take hy)
theorem In.drop {m : Int} {l : List Int} (h : In m l) (n : Nat) : In m (l.drop n) := fun y hy => h y (List.mem_of_mem_drop hy)
theorem In.nil {m : Int} : In m [] := fun y hy => by simp at hy
theorem In.rev {m : Int} {l : List Int} (h : In m l) : In m l.reverse := fun y hy => h y (by simpa using hy)
theorem In.getD {m : Int} {l : List Int} (h : In m l) (i : Nat) (hm : 0 < m) : 0 ≤ l.getD i 0 ∧ l.getD i 0 < m := by
 rw [List.getD_eq_getElem?_getD]
 by_cases hi : i < l.length
 ·rw [List.getElem?_eq_getElem hi]; exact h _ (List.getElem_mem hi)
 ·rw [List.getElem?_eq_none (by omega)]; exact ⟨Int.le_refl 0, hm⟩
theorem In.map {m : Int} {α : Type} {l : List α} {f : α → Int} (h : ∀ a, a ∈ l → 0 ≤ f a ∧ f a < m) : In m (l.map f) := fun y hy => by
 obtain ⟨a, ha, rfl⟩ := List.mem_map.1 hy
 exact h a ha
theorem ku {α : Type} {a b : Int} (h : ¬ a = b) (x y : α) : br (a != b) x y = x := by rw [bne_iff_ne.2 h]; exact aa7 x y
theorem ji {α : Type} {a b : Int} (h : a = b) (x y : α) : br (a != b) x y = y := by rw [bne_eq_false_iff_eq.2 h]; exact aef x y
theorem fu {α : Type} {a b : Int} (h : a = b) (x y : α) : br (a == b) x y = x := by rw [beq_iff_eq.2 h]; exact aa7 x y
theorem iw {α : Type} {a b : Int} (h : ¬ a = b) (x y : α) : br (a == b) x y = y := by rw [beq_eq_false_iff_ne.2 h]; exact aef x y
theorem w9 {α : Type} (b : Bool) (x y : α) : br (!b) x y = br b y x := by cases b <;> simp
theorem bg4 {X Y ρ : Type} {stp : X → (X → Option ρ) → (Y → Option ρ) → Option ρ} {K : Y → Option ρ} {r : Option ρ} (S : Nat → X) (n : Nat)
    (hstep : ∀ i, i < n → ∀ next, next (S (i + 1)) = r → stp (S i) next K = r) (hend : ∀ next, stp (S n) next K = r) {i : Nat} (hi : i ≤ n) (hn : n ≤ 18446744073709551616) : lp stp (S i) K = r := by
 have key : ∀ m i, m + i = n → lpN stp K m (S i) = r ∧ ∀ q, m ≤ q → lpN stp K q (S i) = r := by
  intro m
  induction m with
  | zero =>
   intro i hi
   have : i = n := by omega
   subst this
   refine ⟨hend _, fun q _ => ?_⟩
   cases q with
   | zero => exact hend _
   | succ q => exact hend _
  | succ m ih =>
   intro i hi
   refine ⟨hstep i (by omega) _ (ih (i + 1) (by omega)).1, fun q hq => ?_⟩
   cases q with
   | zero => omega
   | succ q => exact hstep i (by omega) _ ((ih (i + 1) (by omega)).2 q (by omega))
 exact (key (n - i) i (by omega)).2 FU (by rw [bhf]; omega)
theorem getD_lt {α : Type} {l : List α} {d : α} {i : Nat} (h : i < l.length) : l.getD i d = l[i] := by
 rw [List.getD_eq_getElem?_getD, List.getElem?_eq_getElem h]; rfl
theorem bbo {α : Type} {l : List α} {d : α} {i : Nat} (h : l.length ≤ i) : l.getD i d = d := by
 rw [List.getD_eq_getElem?_getD, List.getElem?_eq_none h]; rfl
theorem toNat_cast (n : Nat) : ((n : Int)).toNat = n := Int.toNat_natCast n
theorem aup (f : Nat → Int) (i n : Nat) (h : i < n) (d : Int) : ((List.range i).map f ++ List.replicate (n - i) d).set i (f i) = (List.range (i + 1)).map f ++ List.replicate (n - (i + 1)) d := by
 rw [List.set_append_right _ _ (by simp), show n - i = (n - (i + 1)) + 1 by omega, List.replicate_succ]
 simp [List.range_succ]
theorem ah9 {α : Type} (l : List α) (d : α) (i : Nat) (h : i < l.length) : l.take i ++ [l.getD i d] = l.take (i + 1) := by
 rw [getD_lt h, List.take_add_one, List.getElem?_eq_getElem h]; rfl
theorem ae2 {α : Type} (l : List α) (d : α) (i : Nat) (h : i < l.length) : l.drop i = l.getD i d :: l.drop (i + 1) := by
 rw [getD_lt h]; exact List.drop_eq_getElem_cons h
end Q
end

section
/- The bit operations as numbers. -/
namespace Q
open Go Go.Abs
set_option linter.unusedVariables false
theorem bbu (x y : Nat) (hx : x < 18446744073709551616) (hy : y < 18446744073709551616) : bits .or .u64 (x : Int) (y : Int) = ((x ||| y : Nat) : Int) := by
 have h1 : x ||| y < 18446744073709551616 := Nat.or_lt_two_pow (n := 64) hx hy
 have e : bits .or .u64 (x : Int) (y : Int) = IntKind.u64.wrap ((BitVec.ofInt 64 (x : Int) ||| BitVec.ofInt 64 (y : Int)).toNat : Int) := rfl
 have e2 : (BitVec.ofInt 64 (x : Int) ||| BitVec.ofInt 64 (y : Int)).toNat = x ||| y := by
  rw [BitVec.toNat_or, BitVec.toNat_ofInt, BitVec.toNat_ofInt]; congr 1 <;> omega
 rw [e, e2]; exact IntWalk.u64_in _ ⟨by omega, by omega⟩
theorem azv (x y : Nat) (hx : x < 18446744073709551616) (hy : y < 18446744073709551616) : bits .and .u64 (x : Int) (y : Int) = ((x &&& y : Nat) : Int) := by
 have h1 : x &&& y < 18446744073709551616 := Nat.and_lt_two_pow (n := 64) x hy
 have e : bits .and .u64 (x : Int) (y : Int) = IntKind.u64.wrap ((BitVec.ofInt 64 (x : Int) &&& BitVec.ofInt 64 (y : Int)).toNat : Int) := rfl
 have e2 : (BitVec.ofInt 64 (x : Int) &&& BitVec.ofInt 64 (y : Int)).toNat = x &&& y := by
  rw [BitVec.toNat_and, BitVec.toNat_ofInt, BitVec.toNat_ofInt]; congr 1 <;> omega
 rw [e, e2]; exact IntWalk.u64_in _ ⟨by omega, by omega⟩
theorem u8m (n : Int) : IntKind.u8.wrap n = n % 256 := by simp [IntKind.wrap, IntKind.bits, IntKind.signed]
theorem bky (n : Int) : IntKind.u32.wrap n = n % 4294967296 := by simp [IntKind.wrap, IntKind.bits, IntKind.signed]
theorem bf3 (n : Int) : IntKind.u64.wrap n = n % 18446744073709551616 := by simp [IntKind.wrap, IntKind.bits, IntKind.signed]
theorem axr (a x i : Nat) (hx : x < 2 ^ i) : (a * 2 ^ i) ||| x = a * 2 ^ i + x := by
 rw [← Nat.shiftLeft_eq, Nat.shiftLeft_add_eq_or_of_lt hx]
end Q
end

section
/- Numbers and their digits, the lowest first. -/
namespace Q
open Go Go.Abs
set_option linter.unusedVariables false
def T (w : Nat) : List Int → Nat
 | [] => 0
 | x :: l => x.toNat % 2 ^ w + 2 ^ w * T w l
theorem p2 (n : Nat) : 0 < 2 ^ n := Nat.pow_pos (by omega)
theorem brt (w : Nat) : ∀ l : List Int, T w l < 2 ^ (w * l.length)
 | [] => by simp [T]
 | x :: l => by
  have ih := brt w l
  have h1 := Nat.mod_lt x.toNat (p2 w)
  rw [List.length_cons, Nat.mul_succ, Nat.add_comm, Nat.pow_add]
  simp only [T]
  have : 2 ^ w * (T w l + 1) ≤ 2 ^ w * 2 ^ (w * l.length) := Nat.mul_le_mul (Nat.le_refl _) ih
  rw [Nat.mul_add] at this
  omega
theorem axa (w : Nat) : ∀ a b : List Int, T w (a ++ b) = T w a + 2 ^ (w * a.length) * T w b
 | [], b => by simp [T]
 | x :: a, b => by
  rw [List.cons_append, T, T, axa w a b, List.length_cons, Nat.mul_succ, Nat.add_comm (w * a.length) w, Nat.pow_add, Nat.mul_add, Nat.mul_assoc]
  omega
theorem bkv (w : Nat) (l : List Int) (k : Nat) (h : k ≤ l.length) : T w l = T w (l.take k) + 2 ^ (w * k) * T w (l.drop k) := by
 have := axa w (l.take k) (l.drop k)
 rw [List.take_append_drop, List.length_take, Nat.min_eq_left h] at this
 exact this
theorem ay6 (w : Nat) (l : List Int) (k : Nat) (h : k ≤ l.length) : T w (l.drop k) = T w l / 2 ^ (w * k) := by
 have := brt w (l.take k)
 rw [List.length_take, Nat.min_eq_left h] at this
 rw [bkv w l k h, Nat.add_mul_div_left _ _ (p2 _), Nat.div_eq_of_lt this, Nat.zero_add]
theorem ac3 {X Y ρ : Type} {stp : X → (X → Option ρ) → (Y → Option ρ) → Option ρ} {K : Y → Option ρ} {r : Option ρ} (S : Nat → X) (n : Nat) {x : X} (hx : x = S 0)
    (hstep : ∀ i, i < n → ∀ next, next (S (i + 1)) = r → stp (S i) next K = r) (hend : ∀ next, stp (S n) next K = r) (hn : n ≤ 18446744073709551616) : lp stp x K = r := by
 rw [hx]; exact bg4 S n hstep hend (Nat.zero_le _) hn
def bsw (w n X : Nat) : List Int := (List.range n).map fun i => ((X / 2 ^ (w * i) % 2 ^ w : Nat) : Int)
@[simp] theorem ac9 (w n X : Nat) : (bsw w n X).length = n := by simp [bsw]
theorem axl (w n X i : Nat) (h : i < n) : (bsw w n X).getD i 0 = ((X / 2 ^ (w * i) % 2 ^ w : Nat) : Int) := by
 rw [getD_lt (by simpa using h)]; simp [bsw]
theorem bdr (w n X : Nat) : bsw w (n + 1) X = bsw w n X ++ [((X / 2 ^ (w * n) % 2 ^ w : Nat) : Int)] := by simp [bsw, List.range_succ]
theorem bb7 (w n X : Nat) : In (2 ^ w) (bsw w n X) := by
 refine In.map (fun i _ => ⟨Int.natCast_nonneg _, ?_⟩)
 have := Nat.mod_lt (X / 2 ^ (w * i)) (p2 w)
 have e : ((2 : Int) ^ w) = ((2 ^ w : Nat) : Int) := by simp
 rw [e]; omega
theorem azt (X h w m : Nat) (hm : h + w ≤ m) : X % 2 ^ m / 2 ^ h % 2 ^ w = X / 2 ^ h % 2 ^ w := by
 have e : (2 : Nat) ^ m = 2 ^ h * (2 ^ w * 2 ^ (m - (h + w))) := by rw [← Nat.pow_add, ← Nat.pow_add]; congr 1; omega
 rw [e, Nat.mod_mul_right_div_self, Nat.mod_mul_right_mod]
end Q
end

section
/- bits: Unpack. -/
namespace Q
open Go Go.Abs
set_option linter.unusedVariables false
set_option linter.unusedSimpArgs false
def Such (n : Nat) (w c : Int) : Prop := 1 ≤ w ∧ w ≤ 24 ∧ 0 ≤ c ∧ c * w ≤ n * 8
instance (n : Nat) (w c : Int) : Decidable (Such n w c) := inferInstanceAs (Decidable (_ ∧ _))
theorem bf5 (n : Nat) (w c : Int) (hn : n ≤ 1000000) {ρ : Type} (k : Bool → Option ρ) :
    br (decide (w ≥ (1 : Int))) (br (decide (w ≤ (24 : Int))) (br (decide (c ≥ (0 : Int))) (br (decide (w = (0 : Int))) none
     (k (decide (c ≤ IntKind.i64.wrap ((IntKind.i64.wrap ((↑n : Int) * (8 : Int))).tdiv w))))) (k false)) (k false)) (k false) = k (decide (Such n w c)) := by
 by_cases h1 : w ≥ 1
 ·by_cases h2 : w ≤ 24
  ·by_cases h3 : c ≥ 0
   ·rw [bf h1, bf h2, bf h3, dz (by omega)]
    congr 1
    have e0 : ((n : Int) * 8).tdiv w = (n : Int) * 8 / w := Int.tdiv_eq_ediv_of_nonneg (by omega)
    have e1 : (n : Int) * 8 / w ≤ n * 8 := Int.ediv_le_self _ (by omega)
    have e2 : 0 ≤ (n : Int) * 8 / w := Int.ediv_nonneg (by omega) (by omega)
    rw [yh (x := (n : Int) * 8) (by omega) (by omega), e0, yh (by omega) (by omega)]
    apply decide_eq_decide.2
    rw [Int.le_ediv_iff_mul_le (by omega)]
    unfold Such
    omega
   ·rw [bf h1, bf h2, dz h3, decide_eq_false (fun h => h3 h.2.2.1)]
  ·rw [bf h1, dz h2, decide_eq_false (fun h => h2 h.2.1)]
 ·rw [dz h1, decide_eq_false (fun h => h1 h.1)]
theorem aa0 (b : List Int) (w c : Int) (hn : b.length ≤ 1000000) {ρ : Type} (k : Bool → Option ρ) : P.aa0 b w c k = k (decide (Such b.length w c)) := by
 rw [P.am6]; exact bf5 b.length w c hn k
theorem fdiv_pow (a n m : Nat) (h : n ≤ m) : (a : Int).fdiv ((2 : Int) ^ min n m) = ((a / 2 ^ n : Nat) : Int) := by
 rw [Nat.min_eq_left h, show ((2 : Int) ^ n) = ((2 ^ n : Nat) : Int) by simp, ← Int.ofNat_fdiv]
theorem mul_pow (a n m : Nat) (h : n ≤ m) : (a : Int) * ((2 : Int) ^ min n m) = ((a * 2 ^ n : Nat) : Int) := by
 rw [Nat.min_eq_left h, show ((2 : Int) ^ n) = ((2 ^ n : Nat) : Int) by simp, ← Int.natCast_mul]
theorem apn (a : Nat) (h : a < 18446744073709551616) : IntKind.u64.wrap (a : Int) = (a : Int) := by rw [bf3]; omega
theorem bmu (a : Nat) (h : a < 4294967296) : IntKind.u32.wrap (a : Int) = (a : Int) := by rw [bky]; omega
theorem bdb {a b : Nat} (h : a ≤ b) : 2 ^ a ≤ 2 ^ b := Nat.pow_le_pow_right (by omega) h
theorem bln (w : Nat) (h : w ≤ 24) : IntKind.u64.wrap (IntKind.u64.wrap ((1 : Int) * (2 : Int) ^ min w 64) - (1 : Int)) = ((2 ^ w - 1 : Nat) : Int) := by
 have h1 := p2 w
 have h2 : 2 ^ w ≤ 2 ^ 24 := bdb h
 rw [show (1 : Int) = ((1 : Nat) : Int) from rfl, mul_pow 1 w 64 (by omega), apn _ (by omega), show ((1 * 2 ^ w : Nat) : Int) - ((1 : Nat) : Int) = ((2 ^ w - 1 : Nat) : Int) by omega, apn _ (by omega)]
theorem ayk (x w : Nat) (hx : x < 18446744073709551616) (h : w ≤ 24) : bits .and .u64 (x : Int) (IntKind.u64.wrap (IntKind.u64.wrap ((1 : Int) * (2 : Int) ^ min w 64) - (1 : Int))) = ((x % 2 ^ w : Nat) : Int) := by
 have h2 : 2 ^ w ≤ 2 ^ 24 := bdb h
 rw [bln w h, azv _ _ hx (by omega), Nat.and_two_pow_sub_one_eq_mod]
def xu (n : Nat) : Nat := (n + 7) / 8
theorem axc (n : Nat) : n ≤ 8 * xu n := by unfold xu; omega
theorem axu (n : Nat) : 8 * xu n < n + 8 := by unfold xu; omega
theorem byte_at {b : List Int} (hb : In 256 b) (t : Nat) : ∃ x : Nat, b.getD t 0 = (x : Int) ∧ x < 256 ∧ x = (b.getD t 0).toNat % 2 ^ 8 := by
 have := hb.getD t (by omega)
 exact ⟨(b.getD t 0).toNat, by omega, by omega, by omega⟩
end Q
end

section
/- Words of 32 and of 64 bits. -/
namespace Q
open Go Go.Abs
set_option linter.unusedVariables false
set_option linter.unusedSimpArgs false
theorem ofI {w : Nat} (x : BitVec w) : BitVec.ofInt w (x.toNat : Int) = x := by simp
theorem bmo (x : BitVec 32) : x.toNat < 4294967296 := x.isLt
theorem biq (x : BitVec 64) : x.toNat < 18446744073709551616 := x.isLt
theorem ar3 (x y : BitVec 32) : bits .xor .u32 (x.toNat : Int) (y.toNat : Int) = ((x ^^^ y).toNat : Int) := by
 have e : bits .xor .u32 (x.toNat : Int) (y.toNat : Int) = IntKind.u32.wrap ((BitVec.ofInt 32 (x.toNat : Int) ^^^ BitVec.ofInt 32 (y.toNat : Int)).toNat : Int) := rfl
 rw [e, ofI, ofI, bmu _ (bmo _)]
theorem bqf (x y : BitVec 32) : bits .and .u32 (x.toNat : Int) (y.toNat : Int) = ((x &&& y).toNat : Int) := by
 have e : bits .and .u32 (x.toNat : Int) (y.toNat : Int) = IntKind.u32.wrap ((BitVec.ofInt 32 (x.toNat : Int) &&& BitVec.ofInt 32 (y.toNat : Int)).toNat : Int) := rfl
 rw [e, ofI, ofI, bmu _ (bmo _)]
theorem br0 (x y : BitVec 32) : bits .or .u32 (x.toNat : Int) (y.toNat : Int) = ((x ||| y).toNat : Int) := by
 have e : bits .or .u32 (x.toNat : Int) (y.toNat : Int) = IntKind.u32.wrap ((BitVec.ofInt 32 (x.toNat : Int) ||| BitVec.ofInt 32 (y.toNat : Int)).toNat : Int) := rfl
 rw [e, ofI, ofI, bmu _ (bmo _)]
theorem add32 (x y : BitVec 32) : IntKind.u32.wrap ((x.toNat : Int) + (y.toNat : Int)) = ((x + y).toNat : Int) := by
 rw [bky, BitVec.toNat_add]; omega
theorem aob (x y : BitVec 64) : bits .xor .u64 (x.toNat : Int) (y.toNat : Int) = ((x ^^^ y).toNat : Int) := by
 have e : bits .xor .u64 (x.toNat : Int) (y.toNat : Int) = IntKind.u64.wrap ((BitVec.ofInt 64 (x.toNat : Int) ^^^ BitVec.ofInt 64 (y.toNat : Int)).toNat : Int) := rfl
 rw [e, ofI, ofI, apn _ (biq _)]
theorem bo7 (x y : BitVec 64) : bits .and .u64 (x.toNat : Int) (y.toNat : Int) = ((x &&& y).toNat : Int) := by
 have e : bits .and .u64 (x.toNat : Int) (y.toNat : Int) = IntKind.u64.wrap ((BitVec.ofInt 64 (x.toNat : Int) &&& BitVec.ofInt 64 (y.toNat : Int)).toNat : Int) := rfl
 rw [e, ofI, ofI, apn _ (biq _)]
theorem bq5 (x y : BitVec 64) : bits .or .u64 (x.toNat : Int) (y.toNat : Int) = ((x ||| y).toNat : Int) := by
 have e : bits .or .u64 (x.toNat : Int) (y.toNat : Int) = IntKind.u64.wrap ((BitVec.ofInt 64 (x.toNat : Int) ||| BitVec.ofInt 64 (y.toNat : Int)).toNat : Int) := rfl
 rw [e, ofI, ofI, apn _ (biq _)]
theorem bga (x y : BitVec 64) : IntKind.u64.wrap ((x.toNat : Int) + (y.toNat : Int)) = ((x + y).toNat : Int) := by
 rw [bf3, BitVec.toNat_add]; omega
theorem bgu (x y : Nat) (hx : x < 18446744073709551616) (hy : y < 18446744073709551616) : bits .xor .u64 (x : Int) (y : Int) = ((x ^^^ y : Nat) : Int) := by
 have := aob (BitVec.ofNat 64 x) (BitVec.ofNat 64 y)
 rw [BitVec.toNat_xor, BitVec.toNat_ofNat, BitVec.toNat_ofNat, Nat.mod_eq_of_lt (by omega), Nat.mod_eq_of_lt (by omega)] at this
 exact this
/- words of 32 bits as numbers of 64 -/
theorem nlt (x : BitVec 32) : x.toNat < 18446744073709551616 := by have := bmo x; omega
def rr {w : Nat} (x : BitVec w) (n : Nat) : BitVec w := (x >>> n) ||| (x <<< (w - n))
theorem au9 {w : Nat} (x : BitVec w) (n : Nat) : (x >>> n).toNat = x.toNat / 2 ^ n := by rw [BitVec.toNat_ushiftRight, Nat.shiftRight_eq_div_pow]
theorem atc {w : Nat} (x : BitVec w) (n : Nat) : (x <<< n).toNat = x.toNat * 2 ^ n % 2 ^ w := by rw [BitVec.toNat_shiftLeft, Nat.shiftLeft_eq]
theorem bgg (x : BitVec 32) (n : Nat) (h : n ≤ 32) : (x.toNat : Int).fdiv ((2 : Int) ^ min n 32) = ((x >>> n).toNat : Int) := by rw [fdiv_pow _ _ _ h, au9]
theorem bo0 (x : BitVec 32) (n : Nat) (h : n ≤ 32) : IntKind.u32.wrap ((x.toNat : Int) * (2 : Int) ^ min n 32) = ((x <<< n).toNat : Int) := by
 rw [mul_pow _ _ _ h, bky, atc]; omega
theorem bdd (x : BitVec 64) (n : Nat) (h : n ≤ 64) : (x.toNat : Int).fdiv ((2 : Int) ^ min n 64) = ((x >>> n).toNat : Int) := by rw [fdiv_pow _ _ _ h, au9]
theorem bil (x : BitVec 64) (n : Nat) (h : n ≤ 64) : IntKind.u64.wrap ((x.toNat : Int) * (2 : Int) ^ min n 64) = ((x <<< n).toNat : Int) := by
 rw [mul_pow _ _ _ h, bf3, atc]; omega
end Q
end

section
/- keccak: 25 words by a function of their number; the program's round and the document's. -/
namespace QK
open Q
open Go Go.Abs
set_option linter.unusedVariables false
set_option linter.unusedSimpArgs false
set_option maxRecDepth 100000
def L25 (f : Nat → Int) : List Int := (List.range 25).map f
def X (a b : Int) : Int := bits .xor .u64 a b
def Rl (a : Int) (n : Nat) : Int := bits .or .u64 (IntKind.u64.wrap (a * 2 ^ min n 64)) (a.fdiv (2 ^ min (64 - n) 64))
def cP (f : Nat → Int) (j : Nat) : Int := X (X (X (X (f j) (f (j + 5))) (f (j + 10))) (f (j + 15))) (f (j + 20))
def thP (f : Nat → Int) (i : Nat) : Int := X (f i) (X (cP f ((i + 4) % 5)) (Rl (cP f ((i + 1) % 5)) 1))
def psT : List Nat := [0, 6, 12, 18, 24, 3, 9, 10, 16, 22, 1, 7, 13, 19, 20, 4, 5, 11, 17, 23, 2, 8, 14, 15, 21]
def rsT : List Nat := [0, 44, 43, 21, 14, 28, 20, 3, 45, 61, 1, 6, 25, 8, 18, 27, 36, 10, 15, 56, 62, 55, 39, 41, 2]
def piP (f : Nat → Int) (i : Nat) : Int := bif Nat.beq i 0 then f 0 else Rl (f (psT.getD i 0)) (rsT.getD i 0)
def chP (f : Nat → Int) (i : Nat) : Int := X (f i) (bits .andNot .u64 (f (i / 5 * 5 + (i + 2) % 5)) (f (i / 5 * 5 + (i + 1) % 5)))
def s0 (x : Int) (f : Nat → Int) (i : Nat) : Int := bif Nat.beq i 0 then x else f i
theorem bet (n : Nat) (h : n ≤ 1000) : ∃ m, FU = m + n := ⟨FU - n, by have := bhf; omega⟩
theorem bqa (f : Nat → Int) (h1 : List Int) {ρ : Type} (k : Int → List Int → List Int → List Int → Option ρ) :
    P.abv 0 h1 (L25 f) [0, 0, 0, 0, 0] k = k 5 h1 (L25 f) [cP f 0, cP f 1, cP f 2, cP f 3, cP f 4] := by
 obtain ⟨m, hm⟩ := bet 6 (by omega)
 rw [P.ah0]
 unfold P.ae0 P.zk8 P.zs8 P.zu8 P.afc lp
 rw [hm]
 kernel_rfl
theorem blz (c : Int) (f : Nat → Int) (h1 h2 : List Int) {ρ : Type} (k : Int → Int → List Int → List Int → List Int → List Int → Option ρ) :
    P.abt c 0 (L25 f) h1 h2 [cP f 0, cP f 1, cP f 2, cP f 3, cP f 4] k = k c 5 (L25 (thP f)) h1 h2 [cP f 0, cP f 1, cP f 2, cP f 3, cP f 4] := by
 obtain ⟨m, hm⟩ := bet 6 (by omega)
 rw [P.ah1]
 unfold P.ae4 P.bl5 P.bi6 P.bq7 P.ae7
 simp only [P.aac, P.zf, P.zk9, P.zu9, P.zh, P.p8, P.mo, lp, hm]; (try delta P.zs9); (try simp only [P.aac, P.zf, P.zk9, P.zu9, P.zh, P.p8, P.mo, lp, hm]); (try delta P.zs9); (try simp only [P.aac, P.zf, P.zk9, P.zu9, P.zh, P.p8, P.mo, lp, hm])
 kernel_rfl
theorem rhoP (c : Int) (f : Nat → Int) (h1 h2 h3 : List Int) {ρ : Type} (k : Int → Int → List Int → Int → List Int → List Int → List Int → List Int → Option ρ) :
    P.abo c ((L25 f).getD 1 0) P.bid 0 h3 h2 h1 (L25 f) k = k c (f 1) P.bid 24 h3 h2 h1 (L25 (piP f)) := by
 obtain ⟨m, hm⟩ := bet 25 (by omega)
 rw [P.ag6]
 unfold P.aen P.bmj P.bks P.bqj P.ael
 simp only [P.p8, P.mo, lp, hm]
 kernel_rfl
theorem chiP (c : Int) (f : Nat → Int) (h1 h2 h3 : List Int) {ρ : Type} (k : Int → Int → List Int → List Int → List Int → List Int → Option ρ) :
    P.abn c 0 (L25 f) h1 h2 h3 k = k c 25 (L25 (chP f)) h1 h2 h3 := by
 obtain ⟨m, hm⟩ := bet 6 (by omega)
 rw [P.ahi]
 unfold P.aeh P.bmv P.bld P.bok P.aek
 simp only [P.y9, P.x9, P.bic, P.bka, P.yc, lp, hm]; (try delta P.zs12); (try simp only [P.y9, P.x9, P.bic, P.bka, P.yc, lp, hm]); (try delta P.zs12); (try simp only [P.y9, P.x9, P.bic, P.bka, P.yc, lp, hm])
 kernel_rfl
theorem set0 (x : Int) (f : Nat → Int) : (L25 f).set 0 x = L25 (s0 x f) := by kernel_rfl
theorem get0 (f : Nat → Int) : (L25 f).getD 0 0 = f 0 := by kernel_rfl
end QK
end

section
/- keccak: the program's rounds are the document's. -/
namespace QK
open Q
open Go Go.Abs
set_option linter.unusedVariables false
set_option linter.unusedSimpArgs false
def U64 (x : Int) : Prop := 0 ≤ x ∧ x < 18446744073709551616
def Ws (f : Nat → Int) : Prop := ∀ i, U64 (f i)
theorem U64.bv {x : Int} (h : U64 x) : ∃ b : BitVec 64, x = (b.toNat : Int) := by
 obtain ⟨n, rfl⟩ := Int.eq_ofNat_of_zero_le h.1
 have h2 := h.2
 refine ⟨BitVec.ofNat 64 n, ?_⟩
 rw [BitVec.toNat_ofNat, Nat.mod_eq_of_lt (by omega)]
theorem bbp (b : BitVec 64) : U64 (b.toNat : Int) := by
 have := biq b
 unfold U64
 omega
theorem X_bv (a b : BitVec 64) : X (a.toNat : Int) (b.toNat : Int) = ((a ^^^ b).toNat : Int) := aob a b
theorem X_U {a b : Int} (ha : U64 a) (hb : U64 b) : U64 (X a b) := by
 obtain ⟨x, rfl⟩ := ha.bv
 obtain ⟨y, rfl⟩ := hb.bv
 rw [X_bv]
 exact bbp _
theorem bro {a : Int} (ha : U64 a) (n : Nat) (hn : n ≤ 64) : U64 (Rl a n) := by
 obtain ⟨x, rfl⟩ := ha.bv
 unfold Rl
 rw [bil x n hn, bdd x (64 - n) (by omega), bq5]
 exact bbp _
theorem bed (x y : BitVec 64) : bits .andNot .u64 (x.toNat : Int) (y.toNat : Int) = ((x &&& ~~~y).toNat : Int) := by
 have e : bits .andNot .u64 (x.toNat : Int) (y.toNat : Int) = IntKind.u64.wrap ((BitVec.ofInt 64 (x.toNat : Int) &&& ~~~BitVec.ofInt 64 (y.toNat : Int)).toNat : Int) := rfl
 rw [e, ofI, ofI, apn _ (biq _)]
theorem beo {a b : Int} (ha : U64 a) (hb : U64 b) : U64 (bits .andNot .u64 a b) := by
 obtain ⟨x, rfl⟩ := ha.bv
 obtain ⟨y, rfl⟩ := hb.bv
 rw [bed]
 exact bbp _
theorem bru {f : Nat → Int} (h : Ws f) (j : Nat) : U64 (cP f j) := X_U (X_U (X_U (X_U (h _) (h _)) (h _)) (h _)) (h _)
theorem bo8 {f : Nat → Int} (h : Ws f) : Ws (thP f) := fun i => X_U (h i) (X_U (bru h _) (bro (bru h _) 1 (by omega)))
theorem bp2 (i : Nat) : rsT.getD i 0 ≤ 64 := by
 by_cases hi : i < 25
 ·have : ∀ i, i < 25 → rsT.getD i 0 ≤ 64 := by decide
  exact this i hi
 ·rw [bbo (by simp [rsT]; omega)]; omega
theorem bqn {f : Nat → Int} (h : Ws f) : Ws (piP f) := fun i => by
 unfold piP
 cases Nat.beq i 0 with
 | true => exact h 0
 | false => exact bro (h _) _ (bp2 i)
theorem bpw {f : Nat → Int} (h : Ws f) : Ws (chP f) := fun i => X_U (h i) (beo (h _) (h _))
theorem s0_U {f : Nat → Int} {x : Int} (h : Ws f) (hx : U64 x) : Ws (s0 x f) := fun i => by
 unfold s0
 cases Nat.beq i 0 with
 | true => exact hx
 | false => exact h i
def rnd (c : Int) (f : Nat → Int) : Nat → Int := s0 (X (chP (piP (thP f)) 0) c) (chP (piP (thP f)))
theorem bqp {f : Nat → Int} {c : Int} (h : Ws f) (hc : U64 c) : Ws (rnd c f) := by
 have h2 := bpw (bqn (bo8 h))
 exact s0_U h2 (X_U (h2 0) hc)
def blg (f : Nat → Int) : Nat → Nat → Int
 | 0 => f
 | n + 1 => rnd (P.bcl.getD n 0) (blg f n)
theorem blr (n : Nat) : U64 (P.bcl.getD n 0) := by
 by_cases hn : n < 24
 ·have : ∀ n, n < 24 → (0 ≤ P.bcl.getD n 0 ∧ P.bcl.getD n 0 < 18446744073709551616) := by decide +kernel
  exact this n hn
 ·have hl : P.bcl.length = 24 := by decide +kernel
  rw [bbo (by omega)]
  exact ⟨by decide, by decide⟩
theorem bfp {f : Nat → Int} (h : Ws f) : ∀ n, Ws (blg f n)
 | 0 => h
 | n + 1 => bqp (bfp h n) (blr n)
theorem d9 (f : Nat → Int) {ρ : Type} (k : List Int → Option ρ) : P.d9 (L25 f) k = k (L25 (blg f 24)) := by
 rw [P.agq]; unfold P.ab7
 rw [P.ajg]; unfold P.ags P.bmi P.bjf P.bpe
 refine ac3 (fun i => (P.bcl, (i : Int), L25 (blg f i), [(0 : Int), 0, 0, 0, 0, 0, 0, 0, 0, 0, 0, 0, 0, 0, 0, 0, 0, 0, 0, 0, 0, 0, 0, 0, 0])) 24 rfl (fun i hi next hn => ?_) (fun next => ?_) (by omega)
 ·simp only [P.ade, toNat_cast]
  rw [bf (by omega), bf (by omega), bf (by omega), bqa, blz, rhoP, chiP, get0, set0, yh (by omega) (by omega)]
  exact hn
 ·simp only [P.ade]
  rw [dz (by omega)]
theorem azz (f : Nat → Int) : (L25 f).length = 25 := by simp [L25]
theorem bki (l : List Int) (h : l.length = 25) : l = L25 fun i => l.getD i 0 := by
 apply List.ext_getElem
 ·rw [azz, h]
 ·intro i h1 h2
  simp only [L25, List.getElem_map, List.getElem_range]
  exact (getD_lt h1).symm
end QK
end

section
/- bits: Unpack, as the document has it. -/
namespace Q
open Go Go.Abs
set_option linter.unusedVariables false
set_option linter.unusedSimpArgs false
end Q
end

section
/- bits: Digits. -/
namespace Q
open Go Go.Abs
set_option linter.unusedVariables false
set_option linter.unusedSimpArgs false
def dg (w L N : Nat) (i : Nat) : Int := ((N / 2 ^ (8 * L - w * (i + 1)) % 2 ^ w : Nat) : Int)
def ae8 (b : List Int) (w c : Int) : List Int := if Such b.length w c then (List.range c.toNat).map (dg w.toNat b.length (T 8 b.reverse)) else []
theorem bdy (b : List Int) (t : Nat) (h : t ≤ b.length) : T 8 (b.take t).reverse = T 8 b.reverse / 2 ^ (8 * (b.length - t)) := by
 rw [List.reverse_take, ay6 8 _ _ (by simp)]
theorem axj (b : List Int) (t : Nat) (h : t < b.length) : T 8 (b.take (t + 1)).reverse = (b.getD t 0).toNat % 2 ^ 8 + 256 * T 8 (b.take t).reverse := by
 rw [← ah9 b 0 t h, List.reverse_append, List.reverse_singleton, List.singleton_append, T]
theorem jk (b : List Int) (w c : Int) (hb : In 256 b) (hn : b.length ≤ 1000000) {ρ : Type} (k : List Int → Option ρ) : P.jk b w c k = k (ae8 b w c) := by
 rw [P.ajx]
 unfold P.aex
 rw [aa0 b w c hn, w9]
 unfold ae8
 by_cases hs : Such b.length w c
 rotate_left
 ·rw [decide_eq_false hs, aef, if_neg hs]
 rw [decide_eq_true hs, aa7, if_pos hs]
 obtain ⟨h1, h2, h3, h4⟩ := hs
 obtain ⟨w, rfl⟩ := Int.eq_ofNat_of_zero_le (show 0 ≤ w by omega)
 obtain ⟨c, rfl⟩ := Int.eq_ofNat_of_zero_le h3
 have h4 : c * w ≤ b.length * 8 := by exact_mod_cast h4
 have hc : c ≤ c * w := Nat.le_mul_of_pos_right c (by omega)
 simp only [toNat_cast, List.length_replicate]
 simp (disch := omega) only [bf, dz, ku, ji, fu, iw, w9, aa7, aef, yh]
 rw [P.al2]
 unfold P.aju P.zk3 P.zs3 P.zu3
 refine ac3 (fun i => (b.drop (xu (w * i)), (w : Int), ((T 8 (b.take (xu (w * i))).reverse % 2 ^ 64 : Nat) : Int), ((8 * xu (w * i) - w * i : Nat) : Int), (c : Int), (i : Int), ((List.range i).map (dg w b.length (T 8 b.reverse))) ++ List.replicate (c - i) 0)) c (by simp [xu, T, bsw]) (fun i hi next hn' => ?_) (fun next => ?_) (by omega)
 ·have hwi : w * (i + 1) = w * i + w := Nat.mul_succ w i
  have hwc : w * (i + 1) ≤ b.length * 8 := Nat.le_trans (Nat.mul_le_mul (Nat.le_refl w) hi) (by rw [Nat.mul_comm]; exact h4)
  have c1 := axc (w * i)
  have c2 := axu (w * i)
  have c3 := axc (w * (i + 1))
  have c4 := axu (w * (i + 1))
  have c5 : xu (w * i) ≤ xu (w * (i + 1)) := by unfold xu; omega
  simp only [P.agc]
  rw [bf (by omega), P.al6]
  unfold P.ajy P.zk2 P.zs2 P.zu2
  refine ac3 (fun j => (b.drop (xu (w * i) + j), (w : Int), ((T 8 (b.take (xu (w * i) + j)).reverse % 2 ^ 64 : Nat) : Int), ((8 * (xu (w * i) + j) - w * i : Nat) : Int), (i : Int), (c : Int), (i : Int), ((List.range i).map (dg w b.length (T 8 b.reverse))) ++ List.replicate (c - i) 0)) (xu (w * (i + 1)) - xu (w * i)) rfl (fun j hj next2 hn2 => ?_) (fun next2 => ?_) (by omega)
  ·have ht : xu (w * i) + j < b.length := by omega
   obtain ⟨x, hx, hx2, hx3⟩ := byte_at hb (xu (w * i) + j)
   have est := axj b (xu (w * i) + j) ht
   rw [← hx3] at est
   simp only [P.agl, List.length_drop, toNat_cast]
   rw [List.take_of_length_le (l := b.drop (xu (w * i) + j)) (by simp), List.drop_drop]
   have e0 : (b.drop (xu (w * i) + j)).getD 0 0 = (x : Int) := by
    rw [← hx, ae2 b 0 _ ht]; rfl
   have e1 : IntKind.u64.wrap (((T 8 (b.take (xu (w * i) + j)).reverse % 2 ^ 64 : Nat) : Int) * 2 ^ 8) = ((T 8 (b.take (xu (w * i) + j)).reverse % 2 ^ 56 * 2 ^ 8 : Nat) : Int) := by
    rw [bf3]; omega
   rw [e0, e1, apn x (by omega), bbu _ _ (by omega) (by omega), axr _ _ _ (by omega)]
   simp (disch := omega) only [bf, dz, ku, ji, fu, iw, w9, aa7, aef, yh]
   rw [Nat.add_assoc, show ((8 * (xu (w * i) + j) - w * i : Nat) : Int) + 8 = ((8 * (xu (w * i) + (j + 1)) - w * i : Nat) : Int) by omega,
    show T 8 (b.take (xu (w * i) + j)).reverse % 2 ^ 56 * 2 ^ 8 + x = T 8 (b.take (xu (w * i) + (j + 1))).reverse % 2 ^ 64 by rw [← Nat.add_assoc, est]; omega]
   exact hn2
  ·have et : xu (w * i) + (xu (w * (i + 1)) - xu (w * i)) = xu (w * (i + 1)) := by omega
   simp only [P.agl, toNat_cast]
   rw [et, dz (by omega), show ((8 * xu (w * (i + 1)) - w * i : Nat) : Int) - (w : Int) = ((8 * xu (w * (i + 1)) - w * (i + 1) : Nat) : Int) by omega,
    yh (x := ((8 * xu (w * (i + 1)) - w * (i + 1) : Nat) : Int)) (by omega) (by omega)]
   simp only [toNat_cast]
   have hq : T 8 (b.take (xu (w * (i + 1)))).reverse % 2 ^ 64 / 2 ^ (8 * xu (w * (i + 1)) - w * (i + 1)) < 18446744073709551616 := by
    have := Nat.div_le_self (T 8 (b.take (xu (w * (i + 1)))).reverse % 2 ^ 64) (2 ^ (8 * xu (w * (i + 1)) - w * (i + 1)))
    omega
   rw [fdiv_pow _ _ 64 (by omega), ayk _ w hq (by omega), azt _ _ _ _ (by omega)]
   have hw2 : 2 ^ w ≤ 2 ^ 24 := bdb (by omega)
   have hmod := Nat.mod_lt (T 8 (b.take (xu (w * (i + 1)))).reverse / 2 ^ (8 * xu (w * (i + 1)) - w * (i + 1))) (p2 w)
   rw [bmu _ (by omega)]
   have ed : ((T 8 (b.take (xu (w * (i + 1)))).reverse / 2 ^ (8 * xu (w * (i + 1)) - w * (i + 1)) % 2 ^ w : Nat) : Int) = dg w b.length (T 8 b.reverse) i := by
    unfold dg
    rw [bdy b _ (by omega), Nat.div_div_eq_div_mul, ← Nat.pow_add]
    congr 4; omega
   rw [ed]
   simp only [List.length_append, List.length_map, List.length_range, List.length_replicate]
   simp (disch := omega) only [bf, dz, ku, ji, fu, iw, w9, aa7, aef, yh]
   rw [aup _ _ _ hi]
   exact hn'
 ·simp only [P.agc]
  rw [dz (by omega), Nat.sub_self]
  simp
end Q
end

section
/- bits: numbers as bytes and back. -/
namespace Q
open Go Go.Abs
set_option linter.unusedVariables false
set_option linter.unusedSimpArgs false
theorem bej (w n m X : Nat) (hm : m ≤ n) (hX : X < 2 ^ (w * m)) : bsw w m X ++ List.replicate (n - m) 0 = bsw w n X := by
 refine List.ext_getElem (by simp; omega) (fun i h1 h2 => ?_)
 have hi : i < n := by simpa using h2
 rw [← getD_lt (d := 0) h2, axl _ _ _ _ hi]
 by_cases him : i < m
 ·rw [List.getElem_append_left (by simpa using him), ← getD_lt (d := 0), axl _ _ _ _ him]
 ·rw [List.getElem_append_right (by simp; omega), List.getElem_replicate, Nat.div_eq_of_lt]
  ·rfl
  ·exact Nat.lt_of_lt_of_le hX (bdb (Nat.mul_le_mul (Nat.le_refl _) (by omega)))
theorem adh (N s : Nat) (hN : N < 18446744073709551616) (hs : s ≤ 65536) {ρ : Type} (k : List Int → Option ρ) : P.adh (N : Int) (s : Int) k = k (bsw 8 s N) := by
 rw [P.aq7]
 unfold P.akd
 have em : (bif decide ((8 : Int) < (s : Int)) then (8 : Int) else (s : Int)) = ((min s 8 : Nat) : Int) := by
  by_cases h : (8 : Int) < (s : Int)
  ·rw [decide_eq_true h]; simp only [cond_true]; omega
  ·rw [decide_eq_false h]; simp only [cond_false]; omega
 simp only [toNat_cast]
 rw [em]
 simp (disch := omega) only [bf, dz, ku, ji, fu, iw, w9, aa7, aef, yh]
 rw [P.arh]
 unfold P.aql P.zk4 P.zs4 P.zu4
 refine ac3 (fun i => ((N : Int), ((min s 8 : Nat) : Int), (i : Int), bsw 8 i N ++ List.replicate (s - i) 0)) (min s 8) (by simp [bsw]) (fun i hi next hn' => ?_) (fun next => ?_) (by omega)
 ·simp only [P.amg, List.length_append, ac9, List.length_replicate, toNat_cast]
  rw [show (8 : Int) * (i : Int) = ((8 * i : Nat) : Int) by omega, yh (x := ((8 * i : Nat) : Int)) (by omega) (by omega)]
  simp only [toNat_cast]
  rw [fdiv_pow N _ 64 (by omega), u8m]
  simp (disch := omega) only [bf, dz, ku, ji, fu, iw, w9, aa7, aef, yh]
  rw [List.set_append_right _ _ (by simp), ac9, Nat.sub_self, show s - i = (s - (i + 1)) + 1 by omega, List.replicate_succ, List.set_cons_zero]
  rw [bdr, List.append_assoc, List.singleton_append] at hn'
  exact hn'
 ·simp only [P.amg]
  rw [dz (by omega)]
  by_cases h : s ≤ 8
  ·rw [Nat.min_eq_left h, Nat.sub_self]; simp
  ·rw [Nat.min_eq_right (by omega), bej 8 s 8 N (by omega) (by omega)]
theorem bai {f : Nat → Int} (n q : Nat) (v : Int) : ((List.range n).map f).set q v = (List.range n).map (fun j => if j = q then v else f j) := by
 refine List.ext_getElem (by simp) (fun i h1 h2 => ?_)
 simp only [List.getElem_set, List.getElem_map, List.getElem_range]
 by_cases h : q = i
 ·rw [if_pos h, if_pos h.symm]
 ·rw [if_neg h, if_neg (fun e => h e.symm)]
theorem ax6 {f : Nat → Int} (n q : Nat) (h : q < n) : ((List.range n).map f).getD q 0 = f q := by
 rw [getD_lt (by simpa using h)]; simp
theorem bcq (l : List Int) : l = (List.range l.length).map (fun j => l.getD j 0) := by
 refine List.ext_getElem (by simp) (fun i h1 h2 => ?_)
 simp only [List.getElem_map, List.getElem_range]
 rw [getD_lt h1]
theorem tq (N s : Nat) (hN : N < 18446744073709551616) (hs : s ≤ 65536) {ρ : Type} (k : List Int → Option ρ) : P.tq (N : Int) (s : Int) k = k (bsw 8 s N).reverse := by
 rw [P.aq2]
 unfold P.aj0
 rw [adh N s hN hs, P.ao3]
 unfold P.amr P.zk5 P.zs5 P.zu5
 simp only [ac9]
 rw [yh (by omega) (by omega)]
 have hfin : (bsw 8 s N).reverse = (List.range s).map (fun q => (bsw 8 s N).getD (s - 1 - q) 0) := by
  refine List.ext_getElem (by simp) (fun i h1 h2 => ?_)
  have hi : i < s := by simpa using h2
  rw [List.getElem_reverse, List.getElem_map, List.getElem_range, getD_lt (by simp; omega)]
  congr 1; simp
 have h0 : bsw 8 s N = (List.range s).map (fun q => if q < 0 ∨ s - 0 ≤ q then (bsw 8 s N).getD (s - 1 - q) 0 else (bsw 8 s N).getD q 0) := by
  have e := bcq (bsw 8 s N)
  rw [ac9] at e
  refine e.trans (List.map_congr_left (fun q hq => ?_))
  have := List.mem_range.1 hq
  rw [if_neg (by omega)]
 generalize bsw 8 s N = l at h0 hfin
 refine ac3 (fun i => ((i : Int), (s : Int) - 1 - (i : Int), (List.range s).map (fun q => if q < i ∨ s - i ≤ q then l.getD (s - 1 - q) 0 else l.getD q 0))) (s / 2) (by rw [← h0]; simp) (fun i hi next hn' => ?_) (fun next => ?_) (by omega)
 ·simp only [P.aik, List.length_map, List.length_range, List.length_set]
  rw [show (s : Int) - 1 - (i : Int) = ((s - 1 - i : Nat) : Int) by omega]
  simp only [toNat_cast]
  rw [ax6 _ _ (by omega), ax6 _ _ (by omega), if_neg (by omega), if_neg (by omega), bai, bai]
  have e : (List.range s).map (fun q => if q < i + 1 ∨ s - (i + 1) ≤ q then l.getD (s - 1 - q) 0 else l.getD q 0) = (List.range s).map (fun j => if j = s - 1 - i then l.getD i 0 else if j = i then l.getD (s - 1 - i) 0 else if j < i ∨ s - i ≤ j then l.getD (s - 1 - j) 0 else l.getD j 0) := by
   refine List.map_congr_left (fun q hq => ?_)
   have := List.mem_range.1 hq
   by_cases a1 : q = s - 1 - i
   ·subst a1; rw [if_pos (by omega), if_pos rfl]; congr 1; omega
   ·rw [if_neg a1]
    by_cases a2 : q = i
    ·subst a2; rw [if_pos (by omega), if_pos rfl]
    ·rw [if_neg a2]
     by_cases a3 : q < i ∨ s - i ≤ q
     ·rw [if_pos (by omega), if_pos a3]
     ·rw [if_neg (by omega), if_neg a3]
  rw [e] at hn'
  simp (disch := omega) only [bf, dz, ku, ji, fu, iw, w9, aa7, aef, yh]
  rw [show ((s - 1 - i : Nat) : Int) - 1 = (s : Int) - 1 - ((i + 1 : Nat) : Int) by omega]
  exact hn'
 ·simp only [P.aik]
  rw [dz (by omega), hfin]
  congr 1
  refine List.map_congr_left (fun q hq => ?_)
  have := List.mem_range.1 hq
  by_cases a3 : q < s / 2 ∨ s - s / 2 ≤ q
  ·rw [if_pos a3]
  ·rw [if_neg a3]; congr 1; omega
theorem su (b : List Int) (hb : In 256 b) (hn : b.length ≤ 1000000) {ρ : Type} (k : Int → Option ρ) : P.su b k = k ((T 8 b.reverse % 2 ^ 64 : Nat) : Int) := by
 rw [P.aor]
 unfold P.aif
 rw [P.apx]
 unfold P.aok P.bmf P.bjb P.bpm
 refine ac3 (fun i => (((T 8 (b.take i).reverse % 2 ^ 64 : Nat) : Int), b, (b.length : Int), (i : Int))) b.length (by simp [T]) (fun i hi next hn' => ?_) (fun next => ?_) (by omega)
 ·obtain ⟨x, hx, hx2, hx3⟩ := byte_at hb i
  have est := axj b i hi
  rw [← hx3] at est
  simp only [P.akn, toNat_cast]
  have e1 : IntKind.u64.wrap (((T 8 (b.take i).reverse % 2 ^ 64 : Nat) : Int) * 2 ^ 8) = ((T 8 (b.take i).reverse % 2 ^ 56 * 2 ^ 8 : Nat) : Int) := by
   rw [bf3]; omega
  rw [hx, e1, apn x (by omega), bbu _ _ (by omega) (by omega), axr _ _ _ (by omega),
   show T 8 (b.take i).reverse % 2 ^ 56 * 2 ^ 8 + x = T 8 (b.take (i + 1)).reverse % 2 ^ 64 by rw [est]; omega]
  simp (disch := omega) only [bf, dz, ku, ji, fu, iw, w9, aa7, aef, yh]
  exact hn'
 ·simp only [P.akn]
  rw [dz (by omega), List.take_length]
end Q
end

section
/- keccak: what is taken up, what is given out. -/
namespace QK
open Q
open Go Go.Abs
set_option linter.unusedVariables false
set_option linter.unusedSimpArgs false
def W25 (w : List Int) : Prop := w.length = 25 ∧ In 18446744073709551616 w
theorem W25.ws {w : List Int} (h : W25 w) : Ws fun i => w.getD i 0 := fun i => h.2.getD i (by omega)
theorem bn8 {f : Nat → Int} (h : Ws f) : W25 (L25 f) := ⟨azz f, fun x hx => by
 simp only [L25, List.mem_map] at hx
 obtain ⟨i, _, rfl⟩ := hx
 exact h i⟩
def perm (w : List Int) : List Int := L25 (blg (fun i => w.getD i 0) 24)
theorem bb5 {w : List Int} (h : W25 w) : W25 (perm w) := bn8 (bfp h.ws 24)
theorem bbn {w : List Int} (h : W25 w) {ρ : Type} (k : List Int → Option ρ) : P.d9 w k = k (perm w) := by
 have := d9 (fun i => w.getD i 0) k
 rw [← bki w h.1] at this
 exact this
def pt (w : List Int) (a : Nat) (c : Int) : List Int := w.set (a / 8) (X (w.getD (a / 8) 0) (IntKind.u64.wrap (IntKind.u64.wrap c * (2 : Int) ^ min (8 * (a % 8)) 64)))
theorem bj5 (x : Int) : U64 (IntKind.u64.wrap x) := by
 rw [bf3]
 exact ⟨Int.emod_nonneg _ (by omega), Int.emod_lt_of_pos _ (by omega)⟩
theorem bgk {w : List Int} (h : W25 w) (a : Nat) (c : Int) : W25 (pt w a c) := by
 refine ⟨by unfold pt; rw [List.length_set]; exact h.1, fun x hx => ?_⟩
 rcases List.mem_or_eq_of_mem_set hx with hx | rfl
 ·exact h.2 x hx
 ·exact X_U (h.2.getD _ (by omega)) (bj5 _)
theorem at8 (a : Nat) (h : a < 1000000) : IntKind.i64.wrap ((a : Int).tdiv 8) = ((a / 8 : Nat) : Int) := by
 rw [Int.tdiv_eq_ediv_of_nonneg (by omega), yh (by omega) (by omega)]
 omega
theorem am8 (a : Nat) (h : a < 1000000) : IntKind.i64.wrap ((8 : Int) * (a : Int).tmod 8) = ((8 * (a % 8) : Nat) : Int) := by
 rw [Int.tmod_eq_emod_of_nonneg (by omega), yh (by omega) (by omega)]
 omega
def Rt (kd : Int) (r : Nat) : Prop := (kd = 4 ∧ r = 136) ∨ (kd = 5 ∧ r = 72) ∨ (kd = 6 ∧ r = 168) ∨ (kd = 7 ∧ r = 136)
theorem Rt.le {kd : Int} {r : Nat} (h : Rt kd r) : 72 ≤ r ∧ r ≤ 168 := by
 rcases h with ⟨_, rfl⟩ | ⟨_, rfl⟩ | ⟨_, rfl⟩ | ⟨_, rfl⟩ <;> omega
theorem aun {kd : Int} {r : Nat} (h : Rt kd r) {ρ : Type} (k : Int → Option ρ) : P.ko kd k = k (r : Int) := by
 rw [P.ajj]; unfold P.afg
 rcases h with ⟨rfl, rfl⟩ | ⟨rfl, rfl⟩ | ⟨rfl, rfl⟩ | ⟨rfl, rfl⟩ <;> simp
def ast (r : Nat) (s : List Int × Nat) (c : Int) : List Int × Nat := if s.2 + 1 = r then (perm (pt s.1 s.2 c), 0) else (pt s.1 s.2 c, s.2 + 1)
def apq (r : Nat) (s : List Int × Nat) (l : List Int) : List Int × Nat := l.foldl (ast r) s
def Good (r : Nat) (s : List Int × Nat) : Prop := W25 s.1 ∧ s.2 < r
theorem bcx {r : Nat} {s : List Int × Nat} (h : Good r s) (c : Int) : Good r (ast r s c) := by
 unfold ast Good at *
 split
 ·exact ⟨bb5 (bgk h.1 _ _), by simp only; omega⟩
 ·exact ⟨bgk h.1 _ _, by simp only; omega⟩
theorem aiv {r : Nat} : ∀ (l : List Int) {s : List Int × Nat}, Good r s → Good r (apq r s l)
 | [], s, h => h
 | c :: l, s, h => aiv l (bcx h c)
theorem bbr (r : Nat) (s : List Int × Nat) (l : List Int) (i : Nat) (hi : i < l.length) : apq r s (l.take (i + 1)) = ast r (apq r s (l.take i)) (l.getD i 0) := by
 rw [← ah9 l 0 i hi]
 unfold apq
 rw [List.foldl_append]
 rfl
theorem bes (r : Nat) (s : List Int × Nat) (l m : List Int) : apq r s (l ++ m) = apq r (apq r s l) m := by
 unfold apq; rw [List.foldl_append]
abbrev Z25 : List Int := [0, 0, 0, 0, 0, 0, 0, 0, 0, 0, 0, 0, 0, 0, 0, 0, 0, 0, 0, 0, 0, 0, 0, 0, 0]
theorem bos : W25 Z25 := ⟨rfl, fun x hx => by
 have : x = 0 := by simpa [Z25] using hx
 subst this
 decide⟩
def sq0 (r : Nat) (s : List Int × Nat) : List Int × Nat := if s.2 = r then (perm s.1, 0) else s
def sqb (s : List Int × Nat) : Int := IntKind.u8.wrap ((s.1.getD (s.2 / 8) 0).fdiv ((2 : Int) ^ min (8 * (s.2 % 8)) 64))
def sqS (r : Nat) (s : List Int × Nat) : Nat → List Int × Nat
 | 0 => s
 | n + 1 => ((sq0 r (sqS r s n)).1, (sq0 r (sqS r s n)).2 + 1)
def sqB (r : Nat) (s : List Int × Nat) (n : Nat) : Int := sqb (sq0 r (sqS r s n))
def sqO (r : Nat) (s : List Int × Nat) (m : Nat) : List Int := (List.range m).map (sqB r s)
def Gd (r : Nat) (s : List Int × Nat) : Prop := W25 s.1 ∧ s.2 ≤ r
theorem aw6 {r : Nat} (hr : 1 ≤ r) {s : List Int × Nat} (h : Gd r s) : ∀ n, Gd r (sqS r s n)
 | 0 => h
 | n + 1 => by
  have ih := aw6 hr h n
  show Gd r ((sq0 r (sqS r s n)).1, (sq0 r (sqS r s n)).2 + 1)
  revert ih
  generalize sqS r s n = t
  intro ih
  have h2 := ih.2
  unfold sq0
  by_cases he : t.2 = r
  ·rw [if_pos he]; exact ⟨bb5 ih.1, by simp only; omega⟩
  ·rw [if_neg he]; exact ⟨ih.1, by simp only; omega⟩
theorem bgp (r : Nat) (s : List Int × Nat) (m : Nat) : (sqO r s m).length = m := by simp [sqO]
theorem bjd (r : Nat) (s : List Int × Nat) (m : Nat) : In 256 (sqO r s m) := fun x hx => by
 simp only [sqO, List.mem_map] at hx
 obtain ⟨i, _, rfl⟩ := hx
 unfold sqB sqb
 rw [u8m]
 exact ⟨Int.emod_nonneg _ (by omega), Int.emod_lt_of_pos _ (by omega)⟩
theorem zd : (0 : Nat) / 8 = 0 := rfl
theorem zm : min (8 * ((0 : Nat) % 8)) 64 = 0 := rfl
theorem bpx {kd : Int} {r : Nat} (hr : Rt kd r) (s : List Int × Nat) (hg : Gd r s) (m : Nat) (hm : m ≤ 100000000) (z : Bool) {ρ : Type} (k : Int → Int → Int → List Int → Int → Bool → Int → List Int → Int → Bool → List Int → Option ρ) :
    P.abe (m : Int) 0 kd s.1 (s.2 : Int) z 0 Z25 0 false (List.replicate m 0) k = k (m : Int) (m : Int) kd (sqS r s m).1 ((sqS r s m).2 : Int) z 0 Z25 0 false (sqO r s m) := by
 have hr2 := hr.le
 rw [P.ajd]; unfold P.ag0 P.bms P.bjx P.boi
 refine ac3 (fun i => ((m : Int), (i : Int), kd, (sqS r s i).1, ((sqS r s i).2 : Int), z, (0 : Int), Z25, (0 : Int), false, sqO r s i ++ List.replicate (m - i) 0)) m (by simp [sqO, sqS]) (fun i hi next hnx => ?_) (fun next => ?_) (by omega)
 ·have hg2 := aw6 (by omega) hg i
  have hO : sqO r s (i + 1) ++ List.replicate (m - (i + 1)) 0 = (sqO r s i ++ List.replicate (m - i) 0).set i (sqB r s i) := (aup (sqB r s) i m hi 0).symm
  have hl : (sqO r s i ++ List.replicate (m - i) 0).length = m := by simp [sqO]; omega
  rw [hO] at hnx
  unfold sqB at hnx
  simp only [sqS] at hnx
  simp only [P.adf, toNat_cast]
  generalize sqO r s i ++ List.replicate (m - i) 0 = o at hl hnx ⊢
  generalize sqS r s i = t at hg2 hnx ⊢
  have hlt := hg2.2
  rw [bf (by omega), aun hr]
  unfold sq0 sqb at hnx
  by_cases he : t.2 = r
  ·rw [if_pos he] at hnx
   rw [fu (by omega), bbn hg2.1, bf (by omega), bf (by omega), yh (x := (i : Int) + 1) (by omega) (by omega), yh (x := (0 : Int) + 1) (by omega) (by omega)]
   simp only [zd, zm] at hnx
   exact hnx
  ·rw [if_neg he] at hnx
   rw [iw (by omega), at8 _ (by omega), am8 _ (by omega), toNat_cast, toNat_cast, yh (x := (t.2 : Int) + 1) (by omega) (by omega), yh (x := (i : Int) + 1) (by omega) (by omega)]
   simp (disch := omega) only [bf, dz, ku, ji, fu, iw, w9, aa7, aef, yh]
   exact hnx
 ·simp only [P.adf]
  rw [dz (by omega)]
  simp
end QK
end

section
/- keccak: sums. -/
namespace QK
open Q
open Go Go.Abs
set_option linter.unusedVariables false
set_option linter.unusedSimpArgs false
theorem nk {kd : Int} {r : Nat} (hr : Rt kd r) (w : List Int) (a : Nat) (hg : Good r (w, a)) (b : List Int) (hn : b.length < 9223372036854775807) {ρ : Type} (k : Int → List Int → Int → Bool → Option ρ) :
    P.nk kd w (a : Int) false b k = k kd (apq r (w, a) b).1 ((apq r (w, a) b).2 : Int) false := by
 have hr2 := hr.le
 rw [P.ahv]; unfold P.ac6
 rw [aef, aun hr, P.akg]; unfold P.ahr P.bl7 P.bly P.bov
 refine ac3 (fun i => (b, (r : Int), (b.length : Int), (i : Int), kd, (apq r (w, a) (b.take i)).1, ((apq r (w, a) (b.take i)).2 : Int), false, (0 : Int), Z25, (0 : Int), false)) b.length (by simp [apq]) (fun i hi next hnx => ?_) (fun next => ?_) (by omega)
 ·have hg2 := aiv (b.take i) hg
  rw [bbr r (w, a) b i hi] at hnx
  simp only [P.ad9, toNat_cast]
  generalize apq r (w, a) (b.take i) = s at hg2 hnx ⊢
  have hlt := hg2.2
  rw [at8 _ (by omega), am8 _ (by omega), toNat_cast, toNat_cast, yh (x := (s.2 : Int) + 1) (by omega) (by omega), yh (x := (i : Int) + 1) (by omega) (by omega)]
  unfold ast at hnx
  by_cases he : s.2 + 1 = r
  ·rw [if_pos he] at hnx
   simp (disch := omega) only [bf, dz, ku, ji, fu, iw, w9, aa7, aef, yh]
   exact (bbn (bgk hg2.1 _ _) _).trans hnx
  ·rw [if_neg he] at hnx
   simp (disch := omega) only [bf, dz, ku, ji, fu, iw, w9, aa7, aef, yh]
   exact hnx
 ·simp only [P.ad9]
  rw [dz (by omega), List.take_length]
def mark (kd : Int) : Int := if kd = 4 ∨ kd = 5 then 6 else 31
def trn (kd : Int) (r : Nat) (s : List Int × Nat) : List Int := perm (pt (pt s.1 s.2 (mark kd)) (r - 1) 128)
theorem bni {kd : Int} {r : Nat} {s : List Int × Nat} (h : W25 s.1) : W25 (trn kd r s) := bb5 (bgk (bgk h _ _) _ _)
theorem qo {kd : Int} {r : Nat} (hr : Rt kd r) (s : List Int × Nat) (hg : Good r s) (z : Bool) {ρ : Type} (k : Int → List Int → Int → Bool → Option ρ) :
    P.qo kd s.1 (s.2 : Int) z k = k kd (trn kd r s) 0 true := by
 have hr2 := hr.le
 have h2 := hg.2
 have er : (r : Int) - 1 = ((r - 1 : Nat) : Int) := by omega
 rw [P.ahs]; unfold P.ada
 rw [at8 _ (by omega), am8 _ (by omega), toNat_cast, toNat_cast]
 rw [aun hr, aun hr, yh (x := (r : Int) - 1) (by omega) (by omega), er, at8 _ (by omega), am8 _ (by omega), toNat_cast, toNat_cast]
 have fin : ∀ c : Int, (P.d9 (pt (pt s.1 s.2 c) (r - 1) 128) fun q => k kd q 0 true) = k kd (perm (pt (pt s.1 s.2 c) (r - 1) 128)) 0 true := fun c => bbn (bgk (bgk hg.1 _ _) _ _) _
 unfold trn mark
 by_cases h4 : kd = 4
 ·rw [if_pos (.inl h4)]
  simp (disch := omega) only [bf, dz, ku, ji, fu, iw, w9, aa7, aef, yh]
  exact fin 6
 ·by_cases h5 : kd = 5
  ·rw [if_pos (.inr h5)]
   simp (disch := omega) only [bf, dz, ku, ji, fu, iw, w9, aa7, aef, yh]
   exact fin 6
  ·rw [if_neg (by omega)]
   simp (disch := omega) only [bf, dz, ku, ji, fu, iw, w9, aa7, aef, yh]
   exact fin 31
theorem o9 {kd : Int} {r : Nat} (hr : Rt kd r) (s : List Int × Nat) (hg : Good r s) (m : Nat) (hm : m ≤ 100000000) {ρ : Type} (k : Int → List Int → Int → Bool → List Int → Option ρ) :
    P.o9 kd s.1 (s.2 : Int) false (m : Int) k = k kd (sqS r (trn kd r s, 0) m).1 ((sqS r (trn kd r s, 0) m).2 : Int) true (sqO r (trn kd r s, 0) m) := by
 have hr2 := hr.le
 rw [P.ag2]; unfold P.acd
 rw [dz (by omega), w9, aef, qo hr s hg, bf (by omega), bf (by omega), bf (by omega), toNat_cast, List.length_replicate]
 exact bpx hr (trn kd r s, 0) ⟨bni hg.1, by simp only; omega⟩ m hm true _
def rOf (kd : Int) : Nat := if kd = 4 then 136 else if kd = 5 then 72 else if kd = 6 then 168 else 136
def bl6 (kd : Int) (b : List Int) (m : Nat) : List Int := sqO (rOf kd) (trn kd (rOf kd) (apq (rOf kd) (Z25, 0) b), 0) m
theorem beb (kd : Int) (b : List Int) (m : Nat) : (bl6 kd b m).length = m := bgp _ _ _
theorem bgc (kd : Int) (b : List Int) (m : Nat) : In 256 (bl6 kd b m) := bjd _ _ _
end QK
end

section
/- SHA-2: what a block does. -/
namespace Q
open Go Go.Abs
set_option linter.unusedVariables false
set_option linter.unusedSimpArgs false
structure Par (w : Nat) where
 rounds : Nat
 a : Nat × Nat × Nat
 b : Nat × Nat × Nat
 c : Nat × Nat × Nat
 d : Nat × Nat × Nat
 K : Nat → BitVec w
section
variable {w : Nat}
def hi (t : Nat × Nat × Nat) (x : BitVec w) : BitVec w := rr x t.1 ^^^ rr x t.2.1 ^^^ rr x t.2.2
def lo (t : Nat × Nat × Nat) (x : BitVec w) : BitVec w := rr x t.1 ^^^ rr x t.2.1 ^^^ (x >>> t.2.2)
def cv (l : List (BitVec w)) : List Int := l.map fun x => (x.toNat : Int)
@[simp] theorem aak (l : List (BitVec w)) : (cv l).length = l.length := by simp [cv]
theorem als (l : List (BitVec w)) (i : Nat) : (cv l).getD i 0 = ((l.getD i 0).toNat : Int) := by
 unfold cv
 rw [List.getD_eq_getElem?_getD, List.getD_eq_getElem?_getD, List.getElem?_map]
 cases l[i]? <;> simp
theorem ayb (l : List (BitVec w)) (i : Nat) (x : BitVec w) : (cv l).set i (x.toNat : Int) = cv (l.set i x) := by simp [cv, List.map_set]
theorem alc (l r : List (BitVec w)) : cv l ++ cv r = cv (l ++ r) := by simp [cv]
def bij (p : Par w) (t : Nat) (wt : BitVec w) (v : List (BitVec w)) : BitVec w :=
 v.getD 7 0 + hi p.d (v.getD 4 0) + (v.getD 6 0 ^^^ (v.getD 4 0 &&& (v.getD 5 0 ^^^ v.getD 6 0))) + p.K t + wt
def bny (p : Par w) (v : List (BitVec w)) : BitVec w := hi p.c (v.getD 0 0) + ((v.getD 0 0 &&& v.getD 1 0) ||| (v.getD 2 0 &&& (v.getD 0 0 ||| v.getD 1 0)))
def rnd (p : Par w) (t : Nat) (wt : BitVec w) (v : List (BitVec w)) : List (BitVec w) :=
 [bij p t wt v + bny p v, v.getD 0 0, v.getD 1 0, v.getD 2 0, v.getD 3 0 + bij p t wt v, v.getD 4 0, v.getD 5 0, v.getD 6 0]
def bkp (p : Par w) (l : List (BitVec w)) : BitVec w := lo p.b (l.getD (l.length - 2) 0) + l.getD (l.length - 7) 0 + lo p.a (l.getD (l.length - 15) 0) + l.getD (l.length - 16) 0
def sched (p : Par w) (l : List (BitVec w)) : Nat → List (BitVec w)
 | 0 => l
 | n + 1 => sched p l n ++ [bkp p (sched p l n)]
theorem aox (p : Par w) (l : List (BitVec w)) : ∀ n, (sched p l n).length = l.length + n
 | 0 => rfl
 | n + 1 => by simp only [sched, List.length_append, aox p l n, List.length_singleton]; omega
theorem ar9 (p : Par w) (l : List (BitVec w)) (n i : Nat) (hi : i < l.length + n) : ∀ m, (sched p l (n + m)).getD i 0 = (sched p l n).getD i 0
 | 0 => rfl
 | m + 1 => by
  rw [← Nat.add_assoc]
  simp only [sched]
  rw [List.getD_eq_getElem?_getD, List.getElem?_append_left (by rw [aox]; omega), ← List.getD_eq_getElem?_getD, ar9 p l n i hi m]
def W (p : Par w) (l : List (BitVec w)) (t : Nat) : BitVec w := (sched p l t).getD t 0
theorem bii (p : Par w) (l : List (BitVec w)) (hl : 0 < l.length) (n t : Nat) (h : t < l.length + n) : (sched p l n).getD t 0 = W p l t := by
 unfold W
 by_cases hn : n ≤ t
 ·have := ar9 p l n t h (t - n)
  rw [show n + (t - n) = t by omega] at this
  exact this.symm
 ·have := ar9 p l t t (by omega) (n - t)
  rw [show t + (n - t) = n by omega] at this
  exact this
theorem bft (p : Par w) (l : List (BitVec w)) (hl : l.length = 16) (t : Nat) : W p l (t + 16) = W p l t + lo p.a (W p l (t + 1)) + W p l (t + 9) + lo p.b (W p l (t + 14)) := by
 have e := bii p l (by omega) (t + 1) (t + 16) (by omega)
 rw [← e]
 simp only [sched]
 have hlen := aox p l t
 rw [List.getD_eq_getElem?_getD, List.getElem?_append_right (by rw [hlen]; omega), hlen, show t + 16 - (l.length + t) = 0 by omega]
 simp only [List.getElem?_cons_zero, Option.getD_some]
 unfold bkp
 rw [hlen, show l.length + t - 2 = t + 14 by omega, show l.length + t - 7 = t + 9 by omega, show l.length + t - 15 = t + 1 by omega, show l.length + t - 16 = t by omega,
  bii p l (by omega) t _ (by omega), bii p l (by omega) t _ (by omega), bii p l (by omega) t _ (by omega), bii p l (by omega) t _ (by omega)]
 ac_rfl
def runs (p : Par w) (l : List (BitVec w)) (v : List (BitVec w)) : Nat → List (BitVec w)
 | 0 => v
 | t + 1 => rnd p t (W p l t) (runs p l v t)
theorem ank (p : Par w) (l v : List (BitVec w)) (hv : v.length = 8) : ∀ t, (runs p l v t).length = 8
 | 0 => hv
 | t + 1 => rfl
def bfr (p : Par w) (l v : List (BitVec w)) : List (BitVec w) := (List.range 8).map fun i => (runs p l v p.rounds).getD i 0 + v.getD i 0
def abp (w : Nat) (b : List Int) (n : Nat) : List (BitVec w) := (List.range n).map fun t => BitVec.ofNat w (T 8 ((b.take ((t + 1) * (w / 8))).drop (t * (w / 8))).reverse)
def ate (p : Par w) (v : List (BitVec w)) (b : List Int) : List (BitVec w) := bfr p (abp w b 16) v
theorem ayq (p : Par w) (v : List (BitVec w)) (b : List Int) : (ate p v b).length = 8 := by simp [ate, bfr]
theorem an3 (b : List Int) (n : Nat) : abp w b (n + 1) = abp w b n ++ [BitVec.ofNat w (T 8 ((b.take ((n + 1) * (w / 8))).drop (n * (w / 8))).reverse)] := by simp [abp, List.range_succ]
theorem zn (b : List Int) (n : Nat) : (abp w b n).length = n := by simp [abp]
def win (p : Par w) (l : List (BitVec w)) (t : Nat) : List (BitVec w) := (List.range 16).map fun j => W p l (t + (j + 16 - t % 16) % 16)
theorem amn (p : Par w) (l : List (BitVec w)) (t i : Nat) (hi : i < 16) : (win p l t).getD ((t + i) % 16) 0 = W p l (t + i) := by
 unfold win
 rw [getD_lt (by simp; omega)]
 simp only [List.getElem_map, List.getElem_range]
 congr 1
 omega
theorem aw0 (p : Par w) (l : List (BitVec w)) (t : Nat) : (win p l t).set (t % 16) (W p l (t + 16)) = win p l (t + 1) := by
 unfold win
 refine List.ext_getElem (by simp) (fun j h1 h2 => ?_)
 simp only [List.length_map, List.length_range] at h2
 rw [List.getElem_set]
 by_cases h : t % 16 = j
 ·rw [if_pos h]
  simp only [List.getElem_map, List.getElem_range]
  congr 1
  omega
 ·rw [if_neg h]
  simp only [List.getElem_map, List.getElem_range]
  congr 1
  omega
theorem win_zero (p : Par w) (b : List Int) : win p (abp w b 16) 0 = abp w b 16 := by
 unfold win
 refine List.ext_getElem (by simp [abp]) (fun j h1 h2 => ?_)
 rw [zn] at h2
 simp only [List.getElem_map, List.getElem_range]
 rw [show 0 + (j + 16 - 0 % 16) % 16 = j by omega, ← bii p _ (by rw [zn]; omega) 0 j (by rw [zn]; omega)]
 exact getD_lt (by rw [show sched p (abp w b 16) 0 = abp w b 16 from rfl, zn]; exact h2)
end
theorem awi : ∀ x, x ∈ P.roots256 → 0 ≤ x ∧ x < 4294967296 := by decide +kernel
theorem awq : ∀ x, x ∈ P.roots512 → 0 ≤ x ∧ x < 18446744073709551616 := by decide +kernel
def p32 : Par 32 := ⟨64, (7, 18, 3), (17, 19, 10), (2, 13, 22), (6, 11, 25), fun t => BitVec.ofInt 32 (P.roots256.getD t 0)⟩
def p64 : Par 64 := ⟨80, (1, 8, 7), (19, 61, 6), (28, 34, 39), (14, 18, 41), fun t => BitVec.ofInt 64 (P.roots512.getD t 0)⟩
theorem K32 (t : Nat) : P.roots256.getD t 0 = ((p32.K t).toNat : Int) := by
 have := In.getD (m := 4294967296) awi t (by omega)
 simp only [p32, BitVec.toNat_ofInt]
 omega
theorem K64 (t : Nat) : P.roots512.getD t 0 = ((p64.K t).toNat : Int) := by
 have := In.getD (m := 18446744073709551616) awq t (by omega)
 simp only [p64, BitVec.toNat_ofInt]
 omega
end Q
end

section
/- SHA-2: the program's engine of 32 bits. -/
namespace Q
open Go Go.Abs
set_option linter.unusedVariables false
set_option linter.unusedSimpArgs false
theorem agj (rd : Int) (t0 t1 t2 t3 : List Int) (x : BitVec 32) (m : Int) (n : Nat) (hm : m = (n : Int)) (hn : n ≤ 32) {ρ : Type} (k : Int → Option ρ) :
    P.ay 32 rd t0 t1 t2 t3 (x.toNat : Int) m k = k ((rr x n).toNat : Int) := by
 subst hm
 rw [P.aag]
 unfold P.ug
 rw [dz (by omega), yh (by omega) (by omega), dz (by omega), show (32 : Int) - (n : Int) = ((32 - n : Nat) : Int) by omega]
 simp only [toNat_cast]
 rw [bgg _ _ hn, bo0 _ _ (by omega), br0]
 rfl
theorem bbl (rd : Int) (x : BitVec 32) {ρ : Type} (k : Int → Option ρ) : P.je 32 rd [7, 18, 3] [17, 19, 10] [2, 13, 22] [6, 11, 25] (x.toNat : Int) 3 k = k ((hi p32.d x).toNat : Int) := by
 rw [P.xq]
 unfold P.qx
 simp only [List.getD_cons_zero, List.getD_cons_succ]
 rw [dz (by decide), dz (by decide), dz (by decide), bf (by decide), agj _ _ _ _ _ _ _ 6 (by rfl) (by omega), agj _ _ _ _ _ _ _ 11 (by rfl) (by omega), agj _ _ _ _ _ _ _ 25 (by rfl) (by omega), ar3, ar3]
 rfl
theorem bbk (rd : Int) (x : BitVec 32) {ρ : Type} (k : Int → Option ρ) : P.je 32 rd [7, 18, 3] [17, 19, 10] [2, 13, 22] [6, 11, 25] (x.toNat : Int) 2 k = k ((hi p32.c x).toNat : Int) := by
 rw [P.xq]
 unfold P.qx
 simp only [List.getD_cons_zero, List.getD_cons_succ]
 rw [dz (by decide), dz (by decide), bf (by decide), agj _ _ _ _ _ _ _ 2 (by rfl) (by omega), agj _ _ _ _ _ _ _ 13 (by rfl) (by omega), agj _ _ _ _ _ _ _ 22 (by rfl) (by omega), ar3, ar3]
 rfl
theorem bcp (rd : Int) (x : BitVec 32) {ρ : Type} (k : Int → Option ρ) : P.jr 32 rd [7, 18, 3] [17, 19, 10] [2, 13, 22] [6, 11, 25] (x.toNat : Int) 0 k = k ((lo p32.a x).toNat : Int) := by
 rw [P.yx]
 unfold P.sj
 simp only [List.getD_cons_zero, List.getD_cons_succ]
 rw [bf (by decide), agj _ _ _ _ _ _ _ 7 (by rfl) (by omega), agj _ _ _ _ _ _ _ 18 (by rfl) (by omega), dz (by decide), ar3, show (3 : Int).toNat = 3 from rfl, bgg _ _ (by omega), ar3]
 rfl
theorem bd9 (rd : Int) (x : BitVec 32) {ρ : Type} (k : Int → Option ρ) : P.jr 32 rd [7, 18, 3] [17, 19, 10] [2, 13, 22] [6, 11, 25] (x.toNat : Int) 1 k = k ((lo p32.b x).toNat : Int) := by
 rw [P.yx]
 unfold P.sj
 simp only [List.getD_cons_zero, List.getD_cons_succ]
 rw [dz (by decide), bf (by decide), agj _ _ _ _ _ _ _ 17 (by rfl) (by omega), agj _ _ _ _ _ _ _ 19 (by rfl) (by omega), dz (by decide), ar3, show (10 : Int).toNat = 10 from rfl, bgg _ _ (by omega), ar3]
 rfl
theorem bek (t : Nat) (h : t < 64) {ρ : Type} (k : Int → Option ρ) : P.mq (t : Int) k = k ((p32.K t).toNat : Int) := by
 rw [P.ajv]
 unfold P.ae9
 rw [bf (by omega), bf (by omega), toNat_cast, K32]
theorem v8 {w : Nat} (v : List (BitVec w)) (hv : v.length = 8) : v = [v.getD 0 0, v.getD 1 0, v.getD 2 0, v.getD 3 0, v.getD 4 0, v.getD 5 0, v.getD 6 0, v.getD 7 0] := by
 match v, hv with
 | [a, b, c, d, e, f, g, h], _ => rfl
theorem brm (t : Nat) : ((t : Nat) : Int).tmod 16 = ((t % 16 : Nat) : Int) := by
 rw [Int.tmod_eq_emod_of_nonneg (by omega)]; rfl
theorem bjr (b : List Int) (hb : In 256 b) (hl : b.length = 16 * 4) (rd : Int) (t0 t1 t2 t3 h1 h2 : List Int) {ρ : Type} (k0 : List Int → Int → Int → Int → Int → List Int → List Int → List Int → List Int → List Int → List Int → List Int → Option ρ) :
    P.wo b 4 0 32 rd t0 t1 t2 t3 h1 h2 (List.replicate 16 0) k0 = k0 b 4 16 32 rd t0 t1 t2 t3 h1 h2 (cv (abp 32 b 16)) := by
 rw [P.aeb]
 unfold P.abj P.bl2 P.blc P.bo5
 refine ac3 (fun i => (b, 4, (i : Int), 32, rd, t0, t1, t2, t3, h1, h2, cv (abp 32 b i) ++ List.replicate (16 - i) 0)) 16 (by simp [abp, cv]) (fun i hi next hn' => ?_) (fun next => ?_) (by omega)
 ·simp only [P.wh, toNat_cast]
  have e1 : IntKind.i64.wrap ((i : Int) * 4) = ((i * 4 : Nat) : Int) := by rw [yh (by omega) (by omega)]; omega
  have e2 : IntKind.i64.wrap (IntKind.i64.wrap ((i : Int) + 1) * 4) = (((i + 1) * 4 : Nat) : Int) := by rw [yh (x := (i : Int) + 1) (by omega) (by omega), yh (by omega) (by omega)]; omega
  rw [e1, e2]
  simp only [toNat_cast]
  have hlen : ((b.take ((i + 1) * 4)).drop (i * 4)).length = 4 := by simp; omega
  rw [bf (by omega), bf (by omega), bf (by omega), bf (by omega), su _ ((hb.take _).drop _) (by omega), bf (by omega), bf (by omega)]
  have e3 : IntKind.u32.wrap ((T 8 ((b.take ((i + 1) * 4)).drop (i * 4)).reverse % 2 ^ 64 : Nat) : Int) = (((BitVec.ofNat 32 (T 8 ((b.take ((i + 1) * 4)).drop (i * 4)).reverse)).toNat : Nat) : Int) := by
   rw [bky, BitVec.toNat_ofNat]; omega
  have e4 : IntKind.i64.wrap ((i : Int) + 1) = ((i + 1 : Nat) : Int) := by rw [yh (by omega) (by omega)]; omega
  rw [e3, e4]
  have e5 : (cv (abp 32 b i) ++ List.replicate (16 - i) (0 : Int)).set i (((BitVec.ofNat 32 (T 8 ((b.take ((i + 1) * 4)).drop (i * 4)).reverse)).toNat : Nat) : Int) = cv (abp 32 b (i + 1)) ++ List.replicate (16 - (i + 1)) 0 := by
   rw [List.set_append_right _ _ (by simp [zn]), aak, zn, Nat.sub_self, show 16 - i = (16 - (i + 1)) + 1 by omega, List.replicate_succ, List.set_cons_zero, an3, ← alc, List.append_assoc]
   rfl
  rw [e5]
  exact hn'
 ·simp only [P.wh]
  rw [dz (by omega)]
  simp
theorem bhc (l v : List (BitVec 32)) (hv : v.length = 8) (h2 h1 : List Int) {ρ : Type} (k0 : Int → Int → List Int → List Int → List Int → Int → Int → List Int → List Int → List Int → List Int → List Int → Option ρ) (hl : l.length = 16) :
    P.qd 64 0 (cv (win p32 l 0)) h2 h1 32 64 [7, 18, 3] [17, 19, 10] [2, 13, 22] [6, 11, 25] (cv v) k0 =
     k0 64 64 (cv (win p32 l 64)) h2 h1 32 64 [7, 18, 3] [17, 19, 10] [2, 13, 22] [6, 11, 25] (cv (runs p32 l v 64)) := by
 rw [P.adw]
 unfold P.aao P.bml P.blv P.bpb
 refine ac3 (fun t => (64, (t : Int), cv (win p32 l t), h2, h1, 32, 64, [7, 18, 3], [17, 19, 10], [2, 13, 22], [6, 11, 25], cv (runs p32 l v t))) 64 rfl (fun t ht next hn' => ?_) (fun next => ?_) (by omega)
 ·simp only [P.uz]
  have e1 : IntKind.i64.wrap ((t : Int) + 1) = ((t + 1 : Nat) : Int) := by rw [yh (by omega) (by omega)]; omega
  have e9 : IntKind.i64.wrap ((t : Int) + 9) = ((t + 9 : Nat) : Int) := by rw [yh (by omega) (by omega)]; omega
  have e14 : IntKind.i64.wrap ((t : Int) + 14) = ((t + 14 : Nat) : Int) := by rw [yh (by omega) (by omega)]; omega
  simp only [e1, e9, e14, brm, toNat_cast, als]
  have g0 := amn p32 l t 0 (by omega)
  rw [Nat.add_zero] at g0
  rw [g0, amn p32 l t 1 (by omega), amn p32 l t 9 (by omega), amn p32 l t 14 (by omega)]
  have hV := v8 _ (ank p32 l v hv t)
  rw [bf (by omega), bf (by omega), bf (by omega), bbl, bek t ht, bbk, bf (by omega), bf (by omega), bcp, bf (by omega), bf (by omega), bf (by omega), bf (by omega), bd9, bf (by omega), bf (by omega)]
  simp only [add32, ar3, bqf, br0]
  rw [← bft p32 l hl t, ayb, aw0]
  have hr : cv (runs p32 l v (t + 1)) = (((List.take 1 (cv (runs p32 l v t))).append (List.take 7 (List.take 7 (List.drop 0 (cv (runs p32 l v t)))) ++ List.drop (1 + min 7 (List.take 7 (List.drop 0 (cv (runs p32 l v t)))).length) (cv (runs p32 l v t)))).set 4
      (((runs p32 l v t).getD 3 0 + bij p32 t (W p32 l t) (runs p32 l v t)).toNat : Int)).set 0 ((bij p32 t (W p32 l t) (runs p32 l v t) + bny p32 (runs p32 l v t)).toNat : Int) := by
   rw [hV]
   rfl
  have h3 : ((List.take 1 (cv (runs p32 l v t))).append (List.take 7 (List.take 7 (List.drop 0 (cv (runs p32 l v t)))) ++ List.drop (1 + min 7 (List.take 7 (List.drop 0 (cv (runs p32 l v t)))).length) (cv (runs p32 l v t)))).getD 4 0 = (((runs p32 l v t).getD 3 0).toNat : Int) := by
   rw [hV]
   rfl
  rw [h3, add32]
  rw [hr] at hn'
  exact hn'
 ·simp only [P.uz]
  rw [dz (by omega)]
  rfl
theorem bhl (v u : List (BitVec 32)) (hv : v.length = 8) (hu : u.length = 8) (h2 : List Int) {ρ : Type} (k0 : Int → List Int → List Int → List Int → Option ρ) :
    P.qj 0 (cv v) h2 (cv u) k0 = k0 8 (cv v) h2 (cv ((List.range 8).map fun i => u.getD i 0 + v.getD i 0)) := by
 rw [P.adt]
 unfold P.aa4 P.bmh P.bls P.bor
 have hs : ∀ i, i ≤ 8 → (((List.range i).map fun i => u.getD i 0 + v.getD i 0) ++ u.drop i).length = 8 := fun i hi => by simp; omega
 refine ac3 (fun i => ((i : Int), cv v, h2, cv (((List.range i).map fun i => u.getD i 0 + v.getD i 0) ++ u.drop i))) 8 (by simp) (fun i hi next hn' => ?_) (fun next => ?_) (by omega)
 ·simp only [P.vk, toNat_cast, als]
  have e1 : IntKind.i64.wrap ((i : Int) + 1) = ((i + 1 : Nat) : Int) := by rw [yh (by omega) (by omega)]; omega
  have e2 : (((List.range i).map fun i => u.getD i 0 + v.getD i 0) ++ u.drop i).getD i 0 = u.getD i 0 := by
   rw [List.getD_eq_getElem?_getD, List.getElem?_append_right (by simp), List.getElem?_drop, List.length_map, List.length_range, List.getD_eq_getElem?_getD]
   congr 2
   omega
  rw [e1, e2, add32, ayb]
  have e3 : (((List.range i).map fun i => u.getD i 0 + v.getD i 0) ++ u.drop i).set i (u.getD i 0 + v.getD i 0) = ((List.range (i + 1)).map fun i => u.getD i 0 + v.getD i 0) ++ u.drop (i + 1) := by
   rw [List.set_append_right _ _ (by simp), List.length_map, List.length_range, Nat.sub_self, List.range_succ, List.map_append, List.append_assoc, List.drop_eq_getElem_cons (by omega), List.set_cons_zero]
   rfl
  rw [e3]
  simp (disch := omega) only [bf, dz, ku, ji, fu, iw, w9, aa7, aef, yh]
  exact hn'
 ·simp only [P.vk]
  rw [dz (by omega), List.drop_eq_nil_of_le (by omega), List.append_nil]
  rfl
theorem bbh (v : List (BitVec 32)) (hv : v.length = 8) (b : List Int) (hb : In 256 b) (hl : b.length = 16 * 4) {ρ : Type} (k : List Int → Option ρ) :
    P.j6 32 64 [7, 18, 3] [17, 19, 10] [2, 13, 22] [6, 11, 25] (cv v) b k = k (cv (ate p32 v b)) := by
 rw [P.abh]
 unfold P.u7
 rw [show IntKind.i64.wrap ((32 : Int).tdiv 8) = 4 from rfl]
 have := bjr b hb hl 64 [7, 18, 3] [17, 19, 10] [2, 13, 22] [6, 11, 25] (cv v) (List.replicate 8 0) (fun (q0 : List Int) (q1 q2 q3 q4 : Int) (q5 q6 q7 q8 q9 q10 q11 : List Int) =>
  P.qd q4 (0 : Int) q11 q10 q9 q3 q4 q5 q6 q7 q8 q9
   fun (q12 q13 : Int) (q14 q15 q16 : List Int) (q17 q18 : Int) (q19 q20 q21 q22 q23 : List Int) =>
   P.qj (0 : Int) q16 q15 q23 fun (q24 : Int) (q25 q26 q27 : List Int) => k q27)
 refine this.trans ?_
 rw [← win_zero p32, bhc _ v hv _ _ _ (zn b 16), bhl v _ hv (ank _ _ _ hv _)]
 rfl
end Q
end

section
/- SHA-2: the document's block of words of 32 bits. -/
namespace Q
open Go Go.Abs
set_option linter.unusedVariables false
set_option linter.unusedSimpArgs false
end Q
end

section
/- SHA-2: the program's engine of 64 bits. -/
namespace Q
open Go Go.Abs
set_option linter.unusedVariables false
set_option linter.unusedSimpArgs false
theorem agf (rd : Int) (t0 t1 t2 t3 : List Int) (x : BitVec 64) (m : Int) (n : Nat) (hm : m = (n : Int)) (hn : n ≤ 64) {ρ : Type} (k : Int → Option ρ) :
    P.av 64 rd t0 t1 t2 t3 (x.toNat : Int) m k = k ((rr x n).toNat : Int) := by
 subst hm
 rw [P.aaf]
 unfold P.uf
 rw [dz (by omega), yh (by omega) (by omega), dz (by omega), show (64 : Int) - (n : Int) = ((64 - n : Nat) : Int) by omega]
 simp only [toNat_cast]
 rw [bdd _ _ hn, bil _ _ (by omega), bq5]
 rfl
theorem azk (rd : Int) (x : BitVec 64) {ρ : Type} (k : Int → Option ρ) : P.jd 64 rd [1, 8, 7] [19, 61, 6] [28, 34, 39] [14, 18, 41] (x.toNat : Int) 3 k = k ((hi p64.d x).toNat : Int) := by
 rw [P.xg]
 unfold P.qz
 simp only [List.getD_cons_zero, List.getD_cons_succ]
 rw [dz (by decide), dz (by decide), dz (by decide), bf (by decide), agf _ _ _ _ _ _ _ 14 (by rfl) (by omega), agf _ _ _ _ _ _ _ 18 (by rfl) (by omega), agf _ _ _ _ _ _ _ 41 (by rfl) (by omega), aob, aob]
 rfl
theorem bb4 (rd : Int) (x : BitVec 64) {ρ : Type} (k : Int → Option ρ) : P.jd 64 rd [1, 8, 7] [19, 61, 6] [28, 34, 39] [14, 18, 41] (x.toNat : Int) 2 k = k ((hi p64.c x).toNat : Int) := by
 rw [P.xg]
 unfold P.qz
 simp only [List.getD_cons_zero, List.getD_cons_succ]
 rw [dz (by decide), dz (by decide), bf (by decide), agf _ _ _ _ _ _ _ 28 (by rfl) (by omega), agf _ _ _ _ _ _ _ 34 (by rfl) (by omega), agf _ _ _ _ _ _ _ 39 (by rfl) (by omega), aob, aob]
 rfl
theorem bc7 (rd : Int) (x : BitVec 64) {ρ : Type} (k : Int → Option ρ) : P.jo 64 rd [1, 8, 7] [19, 61, 6] [28, 34, 39] [14, 18, 41] (x.toNat : Int) 0 k = k ((lo p64.a x).toNat : Int) := by
 rw [P.yj]
 unfold P.sw
 simp only [List.getD_cons_zero, List.getD_cons_succ]
 rw [bf (by decide), agf _ _ _ _ _ _ _ 1 (by rfl) (by omega), agf _ _ _ _ _ _ _ 8 (by rfl) (by omega), dz (by decide), aob, show (7 : Int).toNat = 7 from rfl, bdd _ _ (by omega), aob]
 rfl
theorem bee (rd : Int) (x : BitVec 64) {ρ : Type} (k : Int → Option ρ) : P.jo 64 rd [1, 8, 7] [19, 61, 6] [28, 34, 39] [14, 18, 41] (x.toNat : Int) 1 k = k ((lo p64.b x).toNat : Int) := by
 rw [P.yj]
 unfold P.sw
 simp only [List.getD_cons_zero, List.getD_cons_succ]
 rw [dz (by decide), bf (by decide), agf _ _ _ _ _ _ _ 19 (by rfl) (by omega), agf _ _ _ _ _ _ _ 61 (by rfl) (by omega), dz (by decide), aob, show (6 : Int).toNat = 6 from rfl, bdd _ _ (by omega), aob]
 rfl
theorem bd7 (t : Nat) (h : t < 80) {ρ : Type} (k : Int → Option ρ) : P.ni (t : Int) k = k ((p64.K t).toNat : Int) := by
 rw [P.ajo]
 unfold P.ae3
 rw [bf (by omega), bf (by omega), toNat_cast, K64]
theorem bl1 (b : List Int) (hb : In 256 b) (hl : b.length = 16 * 8) (rd : Int) (t0 t1 t2 t3 h1 h2 : List Int) {ρ : Type} (k0 : List Int → Int → Int → Int → Int → List Int → List Int → List Int → List Int → List Int → List Int → List Int → Option ρ) :
    P.vw b 8 0 64 rd t0 t1 t2 t3 h1 h2 (List.replicate 16 0) k0 = k0 b 8 16 64 rd t0 t1 t2 t3 h1 h2 (cv (abp 64 b 16)) := by
 rw [P.aeg]
 unfold P.abk P.bmt P.bjy P.bq0
 refine ac3 (fun i => (b, 8, (i : Int), 64, rd, t0, t1, t2, t3, h1, h2, cv (abp 64 b i) ++ List.replicate (16 - i) 0)) 16 (by simp [abp, cv]) (fun i hi next hn' => ?_) (fun next => ?_) (by omega)
 ·simp only [P.wm, toNat_cast]
  have e1 : IntKind.i64.wrap ((i : Int) * 8) = ((i * 8 : Nat) : Int) := by rw [yh (by omega) (by omega)]; omega
  have e2 : IntKind.i64.wrap (IntKind.i64.wrap ((i : Int) + 1) * 8) = (((i + 1) * 8 : Nat) : Int) := by rw [yh (x := (i : Int) + 1) (by omega) (by omega), yh (by omega) (by omega)]; omega
  rw [e1, e2]
  simp only [toNat_cast]
  have hlen : ((b.take ((i + 1) * 8)).drop (i * 8)).length = 8 := by simp; omega
  rw [bf (by omega), bf (by omega), bf (by omega), bf (by omega), su _ ((hb.take _).drop _) (by omega), bf (by omega), bf (by omega)]
  have e3 : ((T 8 ((b.take ((i + 1) * 8)).drop (i * 8)).reverse % 2 ^ 64 : Nat) : Int) = (((BitVec.ofNat 64 (T 8 ((b.take ((i + 1) * 8)).drop (i * 8)).reverse)).toNat : Nat) : Int) := by
   rw [BitVec.toNat_ofNat]
  have e4 : IntKind.i64.wrap ((i : Int) + 1) = ((i + 1 : Nat) : Int) := by rw [yh (by omega) (by omega)]; omega
  rw [e3, e4]
  have e5 : (cv (abp 64 b i) ++ List.replicate (16 - i) (0 : Int)).set i (((BitVec.ofNat 64 (T 8 ((b.take ((i + 1) * 8)).drop (i * 8)).reverse)).toNat : Nat) : Int) = cv (abp 64 b (i + 1)) ++ List.replicate (16 - (i + 1)) 0 := by
   rw [List.set_append_right _ _ (by simp [zn]), aak, zn, Nat.sub_self, show 16 - i = (16 - (i + 1)) + 1 by omega, List.replicate_succ, List.set_cons_zero, an3, ← alc, List.append_assoc]
   rfl
  rw [e5]
  exact hn'
 ·simp only [P.wm]
  rw [dz (by omega)]
  simp
theorem bf7 (l v : List (BitVec 64)) (hv : v.length = 8) (h2 h1 : List Int) {ρ : Type} (k0 : Int → Int → List Int → List Int → List Int → Int → Int → List Int → List Int → List Int → List Int → List Int → Option ρ) (hl : l.length = 16) :
    P.ql 80 0 (cv (win p64 l 0)) h2 h1 64 80 [1, 8, 7] [19, 61, 6] [28, 34, 39] [14, 18, 41] (cv v) k0 =
     k0 80 80 (cv (win p64 l 80)) h2 h1 64 80 [1, 8, 7] [19, 61, 6] [28, 34, 39] [14, 18, 41] (cv (runs p64 l v 80)) := by
 rw [P.ad5]
 unfold P.aal P.bmg P.biy P.boe
 refine ac3 (fun t => (80, (t : Int), cv (win p64 l t), h2, h1, 64, 80, [1, 8, 7], [19, 61, 6], [28, 34, 39], [14, 18, 41], cv (runs p64 l v t))) 80 rfl (fun t ht next hn' => ?_) (fun next => ?_) (by omega)
 ·simp only [P.u6]
  have e1 : IntKind.i64.wrap ((t : Int) + 1) = ((t + 1 : Nat) : Int) := by rw [yh (by omega) (by omega)]; omega
  have e9 : IntKind.i64.wrap ((t : Int) + 9) = ((t + 9 : Nat) : Int) := by rw [yh (by omega) (by omega)]; omega
  have e14 : IntKind.i64.wrap ((t : Int) + 14) = ((t + 14 : Nat) : Int) := by rw [yh (by omega) (by omega)]; omega
  simp only [e1, e9, e14, brm, toNat_cast, als]
  have g0 := amn p64 l t 0 (by omega)
  rw [Nat.add_zero] at g0
  rw [g0, amn p64 l t 1 (by omega), amn p64 l t 9 (by omega), amn p64 l t 14 (by omega)]
  have hV := v8 _ (ank p64 l v hv t)
  rw [bf (by omega), bf (by omega), bf (by omega), azk, bd7 t ht, bb4, bf (by omega), bf (by omega), bc7, bf (by omega), bf (by omega), bf (by omega), bf (by omega), bee, bf (by omega), bf (by omega)]
  simp only [bga, aob, bo7, bq5]
  rw [← bft p64 l hl t, ayb, aw0]
  have hr : cv (runs p64 l v (t + 1)) = (((List.take 1 (cv (runs p64 l v t))).append (List.take 7 (List.take 7 (List.drop 0 (cv (runs p64 l v t)))) ++ List.drop (1 + min 7 (List.take 7 (List.drop 0 (cv (runs p64 l v t)))).length) (cv (runs p64 l v t)))).set 4
      (((runs p64 l v t).getD 3 0 + bij p64 t (W p64 l t) (runs p64 l v t)).toNat : Int)).set 0 ((bij p64 t (W p64 l t) (runs p64 l v t) + bny p64 (runs p64 l v t)).toNat : Int) := by
   rw [hV]
   rfl
  have h3 : ((List.take 1 (cv (runs p64 l v t))).append (List.take 7 (List.take 7 (List.drop 0 (cv (runs p64 l v t)))) ++ List.drop (1 + min 7 (List.take 7 (List.drop 0 (cv (runs p64 l v t)))).length) (cv (runs p64 l v t)))).getD 4 0 = (((runs p64 l v t).getD 3 0).toNat : Int) := by
   rw [hV]
   rfl
  rw [h3, bga]
  rw [hr] at hn'
  exact hn'
 ·simp only [P.u6]
  rw [dz (by omega)]
  rfl
theorem bgm (v u : List (BitVec 64)) (hv : v.length = 8) (hu : u.length = 8) (h2 : List Int) {ρ : Type} (k0 : Int → List Int → List Int → List Int → Option ρ) :
    P.qh 0 (cv v) h2 (cv u) k0 = k0 8 (cv v) h2 (cv ((List.range 8).map fun i => u.getD i 0 + v.getD i 0)) := by
 rw [P.adu]
 unfold P.aan P.bmk P.blj P.bn1
 have hs : ∀ i, i ≤ 8 → (((List.range i).map fun i => u.getD i 0 + v.getD i 0) ++ u.drop i).length = 8 := fun i hi => by simp; omega
 refine ac3 (fun i => ((i : Int), cv v, h2, cv (((List.range i).map fun i => u.getD i 0 + v.getD i 0) ++ u.drop i))) 8 (by simp) (fun i hi next hn' => ?_) (fun next => ?_) (by omega)
 ·simp only [P.vo, toNat_cast, als]
  have e1 : IntKind.i64.wrap ((i : Int) + 1) = ((i + 1 : Nat) : Int) := by rw [yh (by omega) (by omega)]; omega
  have e2 : (((List.range i).map fun i => u.getD i 0 + v.getD i 0) ++ u.drop i).getD i 0 = u.getD i 0 := by
   rw [List.getD_eq_getElem?_getD, List.getElem?_append_right (by simp), List.getElem?_drop, List.length_map, List.length_range, List.getD_eq_getElem?_getD]
   congr 2
   omega
  rw [e1, e2, bga, ayb]
  have e3 : (((List.range i).map fun i => u.getD i 0 + v.getD i 0) ++ u.drop i).set i (u.getD i 0 + v.getD i 0) = ((List.range (i + 1)).map fun i => u.getD i 0 + v.getD i 0) ++ u.drop (i + 1) := by
   rw [List.set_append_right _ _ (by simp), List.length_map, List.length_range, Nat.sub_self, List.range_succ, List.map_append, List.append_assoc, List.drop_eq_getElem_cons (by omega), List.set_cons_zero]
   rfl
  rw [e3]
  simp (disch := omega) only [bf, dz, ku, ji, fu, iw, w9, aa7, aef, yh]
  exact hn'
 ·simp only [P.vo]
  rw [dz (by omega), List.drop_eq_nil_of_le (by omega), List.append_nil]
  rfl
theorem azx (v : List (BitVec 64)) (hv : v.length = 8) (b : List Int) (hb : In 256 b) (hl : b.length = 16 * 8) {ρ : Type} (k : List Int → Option ρ) :
    P.kg 64 80 [1, 8, 7] [19, 61, 6] [28, 34, 39] [14, 18, 41] (cv v) b k = k (cv (ate p64 v b)) := by
 rw [P.abl]
 unfold P.vg
 rw [show IntKind.i64.wrap ((64 : Int).tdiv 8) = 8 from rfl]
 have := bl1 b hb hl 80 [1, 8, 7] [19, 61, 6] [28, 34, 39] [14, 18, 41] (cv v) (List.replicate 8 0) (fun (q0 : List Int) (q1 q2 q3 q4 : Int) (q5 q6 q7 q8 q9 q10 q11 : List Int) =>
  P.ql q4 (0 : Int) q11 q10 q9 q3 q4 q5 q6 q7 q8 q9
   fun (q12 q13 : Int) (q14 q15 q16 : List Int) (q17 q18 : Int) (q19 q20 q21 q22 q23 : List Int) =>
   P.qh (0 : Int) q16 q15 q23 fun (q24 : Int) (q25 q26 q27 : List Int) => k q27)
 refine this.trans ?_
 rw [← win_zero p64, bf7 _ v hv _ _ _ (zn b 16), bgm v _ hv (ank _ _ _ hv _)]
 rfl
end Q
end

section
/- SHA-2: the document's block of words of 64 bits. -/
namespace Q
open Go Go.Abs
set_option linter.unusedVariables false
set_option linter.unusedSimpArgs false
end Q
end

section
/- bits, the first part: texts. -/
namespace Q
open Go Go.Abs
set_option linter.unusedVariables false
set_option linter.unusedSimpArgs false
theorem bcb {a b : List Int} (hl : a.length = b.length) (hs : a.length ≤ 140737488355328) {ρ : Type} (k0 : List Int → List Int → Int → Option ρ) (k1 : Bool → Option ρ) :
    ∀ (m i : Nat), i + m = a.length → ∀ {stp : (List Int × List Int × Int) → ((List Int × List Int × Int) → Option ρ) → ((List Int × List Int × Int) ⊕ Bool → Option ρ) → Option ρ} {K : (List Int × List Int × Int) ⊕ Bool → Option ρ},
     (∀ (j : Nat) next, stp (a, b, (j : Int)) next K = br (decide ((j : Int) < (a.length : Int))) (br (a.getD j 0 != b.getD j 0) (k1 false) (next (a, b, ((j + 1 : Nat) : Int)))) (k0 a b (j : Int))) →
     lp stp (a, b, (i : Int)) K = if a.drop i = b.drop i then k0 a b (a.length : Int) else k1 false := by
 intro m i hm stp K hst
 refine bkk (P := fun x => ∃ j : Nat, x = (a, b, (j : Int)) ∧ j ≤ a.length ∧ (if a.drop j = b.drop j then k0 a b (a.length : Int) else k1 false) = (if a.drop i = b.drop i then k0 a b (a.length : Int) else k1 false)) (μ := fun x => ((a.length : Int) - x.2.2).toNat) ?_ ⟨i, rfl, by omega, rfl⟩ (by simp only; omega)
 rintro _ ⟨j, rfl, hj, he⟩ next hn
 rw [hst, ← he]
 by_cases hji : j < a.length
 ·rw [bf (by omega), ae2 a 0 j hji, ae2 b 0 j (by omega)]
  by_cases hab : a.getD j 0 = b.getD j 0
  ·rw [ji hab, hn _ ⟨j + 1, rfl, by omega, ?_⟩ (by simp only; omega), ← he, ae2 a 0 j hji, ae2 b 0 j (by omega)]
   ·rw [← he, ae2 a 0 j hji, ae2 b 0 j (by omega)]
    simp only [hab, List.cons.injEq, true_and]
  ·rw [ku hab, if_neg (by simp only [List.cons.injEq]; exact fun h => hab h.1)]
 ·have : j = a.length := by omega
  subst this
  rw [dz (by omega), if_pos (by rw [List.drop_eq_nil_of_le (Nat.le_refl _), List.drop_eq_nil_of_le (by omega)])]
theorem ace (a b : List Int) (h : a.length ≤ 140737488355328) {ρ : Type} (k : Bool → Option ρ) : P.ace a b k = k (decide (a = b)) := by
 rw [P.ant]
 unfold P.aiw
 by_cases hl : a.length = b.length
 ·rw [ji (by omega), P.apw]
  unfold P.aoe P.zk1 P.zs1 P.zu1
  have := bcb hl h (fun _ _ _ => k true) k a.length 0 (by omega) (stp := (fun x next ex => P.aj1 x.1 x.2.1 x.2.2 (fun v0 v1 v5 => next (v0, v1, v5)) (fun v0 v1 v5 => ex (.inl (v0, v1, v5))) (fun v4 => ex (.inr v4)))) (K := Sum.elim (fun _ => k true) k) (by
   intro j next
   simp only [P.aj1, Sum.elim_inl, Sum.elim_inr]
   by_cases hj : (j : Int) < (a.length : Int)
   ·simp only [bf hj]
    simp (disch := omega) only [bf, dz, ku, ji, fu, iw, w9, aa7, aef, yh, toNat_cast]
    rfl
   ·simp only [dz hj])
  simp only [List.drop_zero] at this
  refine this.trans ?_
  by_cases hab : a = b
  ·rw [if_pos hab, decide_eq_true hab]
  ·rw [if_neg hab, decide_eq_false hab]
 ·rw [ku (by omega), decide_eq_false (fun e => hl (by rw [e]))]
end Q
end

section
/- bits: the law's own test. -/
namespace Q
open Go Go.Abs
set_option linter.unusedVariables false
set_option linter.unusedSimpArgs false
end Q
end

section
/- bits: Same, Join. -/
namespace Q
open Go Go.Abs
set_option linter.unusedVariables false
set_option linter.unusedSimpArgs false
def joined (l : List (List Int)) (i : Nat) : List Int := (l.take i).flatten
theorem an0 (l : List (List Int)) (i : Nat) (h : i < l.length) : joined l (i + 1) = joined l i ++ l.getD i [] := by
 unfold joined
 rw [← ah9 l [] i h, List.flatten_append]; simp
theorem aqt (l : List (List Int)) : joined l l.length = l.flatten := by unfold joined; rw [List.take_length]
theorem ava (l : List (List Int)) (i : Nat) : (joined l i).length ≤ l.flatten.length := by
 unfold joined
 have : l.flatten = (l.take i).flatten ++ (l.drop i).flatten := by rw [← List.flatten_append, List.take_append_drop]
 rw [this, List.length_append]; omega
theorem nu (n : Nat) (h : n ≤ 140737488355328) {ρ : Type} (k : List Int → Option ρ) : P.nu (n : Int) k = k [] := by
 rw [P.ae6]
 unfold P.abm
 rw [dz (by omega), show IntKind.i64.wrap ((0 : Int) - (0 : Int)) = 0 by decide]
 rw [yh (by omega) (by omega)]
 by_cases h0 : n = 0
 ·subst h0; rw [dz (by omega)]
 ·rw [bf (by omega), bf (by omega), bf (by omega)]; rfl
theorem gy (l : List (List Int)) (h : l.length ≤ 140737488355328) (h2 : l.flatten.length ≤ 140737488355328) {ρ : Type} (k : List Int → Option ρ) : P.gy l k = k l.flatten := by
 rw [P.ad2]
 unfold P.z8
 rw [P.ag3]
 unfold P.ady P.zk6 P.zs6 P.zu6
 refine bg4 (fun i => (l, ((joined l i).length : Int), l, (l.length : Int), (i : Int))) l.length (fun i hi next hn => ?_) (fun next => ?_) (Nat.zero_le _) (by omega)
 ·have e := an0 l i hi
  have h3 := ava l (i + 1)
  have e2 : ((joined l i).length : Int) + ((l.getD i []).length : Int) = ((joined l (i + 1)).length : Int) := by rw [e, List.length_append]; omega
  simp only [P.aaw, toNat_cast, e2]
  simp (disch := omega) only [bf, dz, ku, ji, fu, iw, w9, aa7, aef, yh]
  exact hn
 ·simp only [P.aaw]
  rw [dz (by omega), aqt, nu _ h2, P.af7]
  unfold P.acy P.zk7 P.zs7 P.zu7
  refine bg4 (fun i => (l, (l.length : Int), (i : Int), joined l i)) l.length (fun i hi next hn => ?_) (fun next => ?_) (Nat.zero_le _) (by omega)
  ·have e := an0 l i hi
   have h3 := ava l (i + 1)
   rw [e, List.length_append] at h3
   simp only [P.zq, toNat_cast]
   simp (disch := omega) only [bf, dz, ku, ji, fu, iw, w9, aa7, aef, yh]
   rw [← e]
   exact hn
  ·simp only [P.zq]
   rw [dz (by omega), aqt]
theorem jq (l : List (List Int)) (h : l.length ≤ 140737488355328) (h2 : l.flatten.length ≤ 140737488355328) {ρ : Type} (k : List Int → Option ρ) : P.jq l k = k l.flatten := by
 rw [P.ams]
 unfold P.ahe
 exact gy l h h2 k
end Q
end

section
/- lmots: digits. -/
namespace Q
open Go Go.Abs
set_option linter.unusedVariables false
set_option linter.unusedSimpArgs false
def sumTo (D : List Int) : Nat → Nat
 | 0 => 0
 | i + 1 => sumTo D i + (D.getD i 0).toNat
def left (w s : Nat) (b : List Int) : Nat := ((256 / w) * (2 ^ w - 1) - sumTo (ae8 b w ((256 / w : Nat) : Int)) (256 / w)) * 2 ^ s
theorem ayw (b : List Int) (w c : Nat) (h1 : 1 ≤ w) (h2 : w ≤ 24) (h : c * w ≤ b.length * 8) : ae8 b (w : Int) (c : Int) = (List.range c).map (dg w b.length (T 8 b.reverse)) := by
 unfold ae8
 rw [if_pos (by refine ⟨by omega, by omega, by omega, ?_⟩; rw [← Int.natCast_mul]; omega)]
 simp only [toNat_cast]
end Q
end

section
/- SHA-2: blocks one behind the other, words of 32 bits. -/
namespace Q
open Go Go.Abs
set_option linter.unusedVariables false
set_option linter.unusedSimpArgs false
def thr {w : Nat} (p : Par w) (v : List (BitVec w)) (b : List Int) : Nat → List (BitVec w)
 | 0 => v
 | i + 1 => ate p (thr p v b i) ((b.drop ((2 * w) * i)).take (2 * w))
theorem aj4 {w : Nat} (p : Par w) (v : List (BitVec w)) (hv : v.length = 8) (b : List Int) : ∀ i, (thr p v b i).length = 8
 | 0 => hv
 | i + 1 => ayq _ _ _
def toV (w : Nat) (l : List Int) : List (BitVec w) := (List.range 8).map fun i => BitVec.ofInt w (l.getD i 0)
theorem aj5 (w : Nat) (l : List Int) : (toV w l).length = 8 := by simp [toV]
theorem bgn {w : Nat} (l : List (BitVec w)) : In (2 ^ w) (cv l) := by
 intro x hx
 obtain ⟨y, _, rfl⟩ := List.mem_map.1 hx
 have := y.isLt
 have hp : ((2 : Int) ^ w) = ((2 ^ w : Nat) : Int) := by simp
 rw [hp]
 omega
theorem bfl {w : Nat} (l : List (BitVec w)) (hl : l.length = 8) : toV w (cv l) = l := by
 unfold toV
 refine List.ext_getElem (by simp [hl]) (fun i h1 h2 => ?_)
 simp only [List.getElem_map, List.getElem_range, als, ofI, getD_lt h2]
theorem arx (x : Int) : IntKind.u32.wrap x = ((BitVec.ofInt 32 x).toNat : Int) := by
 rw [bky, BitVec.toNat_ofInt]; omega
def rest (n : Nat) (b : List Int) : List Int := b.drop (n * (b.length / n))
theorem bjk (words b : List Int) (rd : Int) (t0 t1 t2 t3 h1 h2 : List Int) (hi : In 18446744073709551616 words) {ρ : Type} (k0 : List Int → List Int → Int → Int → Int → List Int → List Int → List Int → List Int → List Int → List Int → List Int → Option ρ) :
    P.aa6 b words 0 32 rd t0 t1 t2 t3 h1 h2 (List.replicate 8 0) k0 = k0 b words 8 32 rd t0 t1 t2 t3 h1 h2 (cv (toV 32 words)) := by
 rw [P.ag1]
 unfold P.adv P.bl4 P.bk7 P.bpi
 refine ac3 (fun i => (b, words, (i : Int), 32, rd, t0, t1, t2, t3, h1, h2, cv ((List.range i).map fun i => BitVec.ofInt 32 (words.getD i 0)) ++ List.replicate (8 - i) 0)) 8 (by simp [cv]) (fun i hi' next hn' => ?_) (fun next => ?_) (by omega)
 ·simp only [P.aam, toNat_cast]
  have e4 : IntKind.i64.wrap ((i : Int) + 1) = ((i + 1 : Nat) : Int) := by rw [yh (by omega) (by omega)]; omega
  have e5 : (cv ((List.range i).map fun i => BitVec.ofInt 32 (words.getD i 0)) ++ List.replicate (8 - i) (0 : Int)).set i ((BitVec.ofInt 32 (words.getD i 0)).toNat : Int) = cv ((List.range (i + 1)).map fun i => BitVec.ofInt 32 (words.getD i 0)) ++ List.replicate (8 - (i + 1)) 0 := by
   rw [List.set_append_right _ _ (by simp), aak, List.length_map, List.length_range, Nat.sub_self, show 8 - i = (8 - (i + 1)) + 1 by omega, List.replicate_succ, List.set_cons_zero, List.range_succ, List.map_append, ← alc, List.append_assoc]
   rfl
  rw [bf (by omega), bf (by omega), bf (by omega), bf (by omega), bf (by omega), arx, e5, e4]
  exact hn'
 ·simp only [P.aam]
  rw [dz (by omega)]
  simp [toV]
theorem bji (v : List (BitVec 32)) (hv : v.length = 8) (b : List Int) (hb : In 256 b) (hn : b.length ≤ 1000000) (h1 h2 : List Int) {ρ : Type} (k0 : List Int → Int → List Int → List Int → List Int → Int → Int → List Int → List Int → List Int → List Int → Option ρ) :
    P.aai b 64 (cv v) h2 h1 32 64 [7, 18, 3] [17, 19, 10] [2, 13, 22] [6, 11, 25] k0 =
     k0 (rest 64 b) 64 (cv (thr p32 v b (b.length / 64))) h2 h1 32 64 [7, 18, 3] [17, 19, 10] [2, 13, 22] [6, 11, 25] := by
 rw [P.agt]
 unfold P.adx P.bma P.bi5 P.bnx
 refine ac3 (fun i => (b.drop (64 * i), 64, cv (thr p32 v b i), h2, h1, 32, 64, [7, 18, 3], [17, 19, 10], [2, 13, 22], [6, 11, 25])) (b.length / 64) (by simp [thr]) (fun i hi next hn' => ?_) (fun next => ?_) (by omega)
 ·simp only [P.aap]
  have hlen : (b.drop (64 * i)).length = b.length - 64 * i := by simp
  have hge : 64 ≤ b.length - 64 * i := by omega
  simp only [hlen, show (64 : Int).toNat = 64 from rfl, toNat_cast, List.drop_zero]
  have hbl : ((b.drop (64 * i)).take 64).length = 16 * 4 := by rw [List.length_take, hlen]; omega
  rw [bf (by omega), bf (by omega), bf (by omega), bbh _ (aj4 _ _ hv _ _) _ ((hb.drop _).take _) hbl, bf (by omega), bf (by omega), bf (by omega),
   List.take_of_length_le (by rw [hlen]; omega), List.drop_drop, show 64 * i + 64 = 64 * (i + 1) by omega]
  exact hn'
 ·simp only [P.aap]
  have hlen : (b.drop (64 * (b.length / 64))).length = b.length - 64 * (b.length / 64) := by simp
  rw [dz (by rw [hlen]; omega)]
  rfl
theorem bhw (v : List (BitVec 32)) (hv : v.length = 8) (b : List Int) (words h2 : List Int) (hl : words.length = 8) {ρ : Type} (k0 : List Int → List Int → Int → List Int → List Int → Option ρ) :
    P.zw b (cv v) 0 words h2 k0 = k0 b (cv v) 8 (cv v) h2 := by
 rw [P.af6]
 unfold P.acw P.bl8 P.bk9 P.bnk
 refine ac3 (fun i => (b, cv v, (i : Int), (cv v).take i ++ words.drop i, h2)) 8 (by simp) (fun i hi next hn' => ?_) (fun next => ?_) (by omega)
 ·simp only [P.aad, toNat_cast]
  have e4 : IntKind.i64.wrap ((i : Int) + 1) = ((i + 1 : Nat) : Int) := by rw [yh (by omega) (by omega)]; omega
  have e5 : ((cv v).take i ++ words.drop i).set i ((cv v).getD i 0) = (cv v).take (i + 1) ++ words.drop (i + 1) := by
   rw [List.set_append_right _ _ (by rw [List.length_take]; omega), List.length_take, aak, hv, Nat.min_eq_left (by omega), Nat.sub_self, List.drop_eq_getElem_cons (by omega), List.set_cons_zero, ← ah9 (cv v) 0 i (by rw [aak]; omega), List.append_assoc]
   rfl
  have e6 : IntKind.u64.wrap ((cv v).getD i 0) = (cv v).getD i 0 := by
   rw [als]; exact apn _ (nlt _)
  rw [bf (by omega), bf (by omega), bf (by omega), bf (by omega), bf (by omega), e6, e5, e4]
  exact hn'
 ·simp only [P.aad]
  rw [dz (by omega), List.drop_eq_nil_of_le (by omega), List.append_nil, List.take_of_length_le (by rw [aak]; omega)]
  rfl
theorem avl (words b : List Int) (hl : words.length = 8) (hi : In 18446744073709551616 words) (hb : In 256 b) (hn : b.length ≤ 1000000) {ρ : Type} (k : List Int → List Int → Option ρ) :
    P.oq 32 64 [7, 18, 3] [17, 19, 10] [2, 13, 22] [6, 11, 25] words b k = k (cv (thr p32 (toV 32 words) b (b.length / 64))) (rest 64 b) := by
 rw [P.ad3]
 unfold P.zu
 refine (bjk words b 64 [7, 18, 3] [17, 19, 10] [2, 13, 22] [6, 11, 25] words (List.replicate 8 0) hi _).trans ?_
 rw [show IntKind.i64.wrap ((32 : Int) * 2) = 64 from rfl, bji _ (aj5 _ _) b hb hn, bhw _ (aj4 _ _ (aj5 _ _) _ _) _ _ _ hl]
end Q
end

section
/- SHA-2: blocks one behind the other, words of 64 bits. -/
namespace Q
open Go Go.Abs
set_option linter.unusedVariables false
set_option linter.unusedSimpArgs false
theorem bj9 (words b : List Int) (rd : Int) (t0 t1 t2 t3 h1 h2 : List Int) (hi : In 18446744073709551616 words) {ρ : Type} (k0 : List Int → List Int → Int → Int → Int → List Int → List Int → List Int → List Int → List Int → List Int → List Int → Option ρ) :
    P.aaz b words 0 64 rd t0 t1 t2 t3 h1 h2 (List.replicate 8 0) k0 = k0 b words 8 64 rd t0 t1 t2 t3 h1 h2 (cv (toV 64 words)) := by
 rw [P.agm]
 unfold P.ad6 P.bmy P.bj8 P.brd
 refine ac3 (fun i => (b, words, (i : Int), 64, rd, t0, t1, t2, t3, h1, h2, cv ((List.range i).map fun i => BitVec.ofInt 64 (words.getD i 0)) ++ List.replicate (8 - i) 0)) 8 (by simp [cv]) (fun i hi' next hn' => ?_) (fun next => ?_) (by omega)
 ·simp only [P.aa1, toNat_cast]
  have e4 : IntKind.i64.wrap ((i : Int) + 1) = ((i + 1 : Nat) : Int) := by rw [yh (by omega) (by omega)]; omega
  have e6 : words.getD i 0 = ((BitVec.ofInt 64 (words.getD i 0)).toNat : Int) := by
   have := hi.getD i (by omega)
   rw [BitVec.toNat_ofInt]
   omega
  have e5 : (cv ((List.range i).map fun i => BitVec.ofInt 64 (words.getD i 0)) ++ List.replicate (8 - i) (0 : Int)).set i ((BitVec.ofInt 64 (words.getD i 0)).toNat : Int) = cv ((List.range (i + 1)).map fun i => BitVec.ofInt 64 (words.getD i 0)) ++ List.replicate (8 - (i + 1)) 0 := by
   rw [List.set_append_right _ _ (by simp), aak, List.length_map, List.length_range, Nat.sub_self, show 8 - i = (8 - (i + 1)) + 1 by omega, List.replicate_succ, List.set_cons_zero, List.range_succ, List.map_append, ← alc, List.append_assoc]
   rfl
  rw [bf (by omega), bf (by omega), bf (by omega), bf (by omega), bf (by omega), e6, e5, e4]
  exact hn'
 ·simp only [P.aa1]
  rw [dz (by omega)]
  simp [toV]
theorem bj1 (v : List (BitVec 64)) (hv : v.length = 8) (b : List Int) (hb : In 256 b) (hn : b.length ≤ 1000000) (h1 h2 : List Int) {ρ : Type} (k0 : List Int → Int → List Int → List Int → List Int → Int → Int → List Int → List Int → List Int → List Int → Option ρ) :
    P.aas b 128 (cv v) h2 h1 64 80 [1, 8, 7] [19, 61, 6] [28, 34, 39] [14, 18, 41] k0 =
     k0 (rest 128 b) 128 (cv (thr p64 v b (b.length / 128))) h2 h1 64 80 [1, 8, 7] [19, 61, 6] [28, 34, 39] [14, 18, 41] := by
 rw [P.agy]
 unfold P.ad4 P.bmw P.bkl P.bn9
 refine ac3 (fun i => (b.drop (128 * i), 128, cv (thr p64 v b i), h2, h1, 64, 80, [1, 8, 7], [19, 61, 6], [28, 34, 39], [14, 18, 41])) (b.length / 128) (by simp [thr]) (fun i hi next hn' => ?_) (fun next => ?_) (by omega)
 ·simp only [P.aav]
  have hlen : (b.drop (128 * i)).length = b.length - 128 * i := by simp
  have hge : 128 ≤ b.length - 128 * i := by omega
  simp only [hlen, show (128 : Int).toNat = 128 from rfl, toNat_cast, List.drop_zero]
  have hbl : ((b.drop (128 * i)).take 128).length = 16 * 8 := by rw [List.length_take, hlen]; omega
  rw [bf (by omega), bf (by omega), bf (by omega), azx _ (aj4 _ _ hv _ _) _ ((hb.drop _).take _) hbl, bf (by omega), bf (by omega), bf (by omega),
   List.take_of_length_le (by rw [hlen]; omega), List.drop_drop, show 128 * i + 128 = 128 * (i + 1) by omega]
  exact hn'
 ·simp only [P.aav]
  have hlen : (b.drop (128 * (b.length / 128))).length = b.length - 128 * (b.length / 128) := by simp
  rw [dz (by rw [hlen]; omega)]
  rfl
theorem bh7 (v : List (BitVec 64)) (hv : v.length = 8) (b : List Int) (words h2 : List Int) (hl : words.length = 8) {ρ : Type} (k0 : List Int → List Int → Int → List Int → List Int → Option ρ) :
    P.zx b (cv v) 0 words h2 k0 = k0 b (cv v) 8 (cv v) h2 := by
 rw [P.agk]
 unfold P.acz P.bmm P.bjp P.boh
 refine ac3 (fun i => (b, cv v, (i : Int), (cv v).take i ++ words.drop i, h2)) 8 (by simp) (fun i hi next hn' => ?_) (fun next => ?_) (by omega)
 ·simp only [P.zy, toNat_cast]
  have e4 : IntKind.i64.wrap ((i : Int) + 1) = ((i + 1 : Nat) : Int) := by rw [yh (by omega) (by omega)]; omega
  have e5 : ((cv v).take i ++ words.drop i).set i ((cv v).getD i 0) = (cv v).take (i + 1) ++ words.drop (i + 1) := by
   rw [List.set_append_right _ _ (by rw [List.length_take]; omega), List.length_take, aak, hv, Nat.min_eq_left (by omega), Nat.sub_self, List.drop_eq_getElem_cons (by omega), List.set_cons_zero, ← ah9 (cv v) 0 i (by rw [aak]; omega), List.append_assoc]
   rfl
  rw [bf (by omega), bf (by omega), bf (by omega), bf (by omega), bf (by omega), e5, e4]
  exact hn'
 ·simp only [P.zy]
  rw [dz (by omega), List.drop_eq_nil_of_le (by omega), List.append_nil, List.take_of_length_le (by rw [aak]; omega)]
  rfl
theorem avn (words b : List Int) (hl : words.length = 8) (hi : In 18446744073709551616 words) (hb : In 256 b) (hn : b.length ≤ 1000000) {ρ : Type} (k : List Int → List Int → Option ρ) :
    P.om 64 80 [1, 8, 7] [19, 61, 6] [28, 34, 39] [14, 18, 41] words b k = k (cv (thr p64 (toV 64 words) b (b.length / 128))) (rest 128 b) := by
 rw [P.ad7]
 unfold P.zo
 refine (bj9 words b 80 [1, 8, 7] [19, 61, 6] [28, 34, 39] [14, 18, 41] words (List.replicate 8 0) hi _).trans ?_
 rw [show IntKind.i64.wrap ((64 : Int) * 2) = 128 from rfl, bj1 _ (aj5 _ _) b hb hn, bh7 _ (aj4 _ _ (aj5 _ _) _ _) _ _ _ hl]
end Q
end

section
/- Are two rows of bytes the same. -/
namespace Q
open Go Go.Abs
set_option linter.unusedVariables false
set_option linter.unusedSimpArgs false
end Q
end

section
/- SHA-2: sums that go on, and their ends. -/
namespace Q
open Go Go.Abs
set_option linter.unusedVariables false
set_option linter.unusedSimpArgs false
def bsz (kind : Int) : Nat := if kind = 1 then 64 else 128
theorem ajn (kind : Int) : (kind = 1 ∧ bsz kind = 64) ∨ (kind ≠ 1 ∧ bsz kind = 128) := by
 unfold bsz
 by_cases h : kind = 1
 ·exact .inl ⟨h, if_pos h⟩
 ·exact .inr ⟨h, if_neg h⟩
theorem qp (kind : Int) {ρ : Type} (k : Int → Option ρ) : P.qp kind k = k ((bsz kind : Nat) : Int) := by
 rw [P.ahm]; unfold P.adk
 rcases ajn kind with ⟨h, e⟩ | ⟨h, e⟩
 ·rw [fu h, e]; rfl
 ·rw [iw h, e]; rfl
def apg (kind : Int) (words all : List Int) : List Int :=
 if kind = 1 then cv (thr p32 (toV 32 words) all (all.length / 64)) else cv (thr p64 (toV 64 words) all (all.length / 128))
theorem ber (kind : Int) (words all : List Int) : (apg kind words all).length = 8 := by
 unfold apg
 split <;> rw [aak, aj4 _ _ (aj5 _ _)]
def Wok (kind : Int) (words : List Int) : Prop := words.length = 8 ∧ In 18446744073709551616 words ∧ (kind = 1 → In 4294967296 words)
theorem av7 (kind : Int) (words all : List Int) : Wok kind (apg kind words all) := by
 refine ⟨ber _ _ _, ?_, fun h => ?_⟩
 ·unfold apg
  split
  ·intro x hx
   have := bgn _ x hx
   omega
  ·intro x hx
   have := bgn _ x hx
   omega
 ·unfold apg
  rw [if_pos h]
  intro x hx
  have := bgn _ x hx
  omega
theorem axv (n : Nat) (hn : 0 < n) (b : List Int) : (rest n b).length = b.length % n := by
 unfold rest
 rw [List.length_drop]
 have := Nat.div_add_mod b.length n
 omega
theorem bhx {n : Nat} {b : List Int} (h : In 256 b) : In 256 (rest n b) := h.drop _
theorem aay {ρ : Type} (k : Int → Int → List Int → List Int → List Int → List Int → Option ρ) : P.aay k = k 32 64 [7, 18, 3] [17, 19, 10] [2, 13, 22] [6, 11, 25] := by rw [P.am7]; rfl
theorem aa3 {ρ : Type} (k : Int → Int → List Int → List Int → List Int → List Int → Option ρ) : P.aa3 k = k 64 80 [1, 8, 7] [19, 61, 6] [28, 34, 39] [14, 18, 41] := by rw [P.amq]; rfl
theorem uy (kind : Int) (words tail : List Int) (size : Int) (b : List Int) (hl : words.length = 8) (hi : In 18446744073709551616 words) (ht : In 256 tail) (hb : In 256 b) (hn : tail.length + b.length ≤ 1000000) {ρ : Type} (k : Int → List Int → List Int → Int → Option ρ) :
    P.uy kind words tail size b k = k kind (apg kind words (tail ++ b)) (rest (bsz kind) (tail ++ b)) (IntKind.u64.wrap (size + IntKind.u64.wrap (b.length : Int))) := by
 rw [P.aqn]; unfold P.ake
 have hf : [tail, b].flatten = tail ++ b := by simp
 have hall : (tail ++ b).length ≤ 1000000 := by rw [List.length_append]; exact hn
 have hin : In 256 (tail ++ b) := ht.app hb
 have hr : ∀ n, (rest n (tail ++ b)).length ≤ 1000000 := fun n => by unfold rest; rw [List.length_drop]; omega
 rw [gy _ (by simp) (by rw [hf]; omega), hf]
 rcases ajn kind with ⟨h, e⟩ | ⟨h, e⟩
 ·rw [fu h, aay, e]
  rw [avl words _ hl hi hin hall]
  unfold P.oh apg
  have := hr 64
  rw [bf (by omega), if_pos h]
 ·rw [iw h, aa3, e]
  rw [avn words _ hl hi hin hall]
  unfold P.oh apg
  have := hr 128
  rw [bf (by omega), if_neg h]
def be7 (kind : Int) (tl : Nat) : Nat := if kind = 1 then (119 - tl) % 64 else (239 - tl) % 128 + 8
def pad (kind : Int) (tl : Nat) (size : Nat) : List Int := 128 :: List.replicate (be7 kind tl) 0 ++ (bsw 8 8 (size * 8 % 2 ^ 64)).reverse
def bco (n : Nat) (words : List Int) (i : Nat) : List Int := ((List.range i).map fun j => (bsw 8 n (words.getD j 0).toNat).reverse).flatten
theorem anu (n : Nat) (words : List Int) (i : Nat) : bco n words (i + 1) = bco n words i ++ (bsw 8 n (words.getD i 0).toNat).reverse := by simp [bco, List.range_succ]
theorem ai0 (n : Nat) (words : List Int) : ∀ i, (bco n words i).length = n * i
 | 0 => by simp [bco]
 | i + 1 => by rw [anu, List.length_append, ai0 n words i, List.length_reverse, ac9, Nat.mul_succ]
theorem avj (n : Nat) (words : List Int) : ∀ i, In 256 (bco n words i)
 | 0 => by simp [bco, In]
 | i + 1 => by rw [anu]; exact (avj n words i).app (bb7 8 n _).rev
def be8 (kind : Int) (words tail : List Int) (size : Nat) : List Int :=
 let o := bco (bsz kind / 16) (apg kind words (tail ++ pad kind tail.length size)) 8
 if kind = 2 then o.take 48 else o
theorem bf4 (kind : Int) (words tail : List Int) (size : Nat) : In 256 (be8 kind words tail size) := by
 unfold be8
 simp only
 split
 ·exact (avj _ _ _).take _
 ·exact avj _ _ _
theorem bc6 (kind : Int) (words tail : List Int) (size : Nat) : (be8 kind words tail size).length = if kind = 1 then 32 else if kind = 2 then 48 else 64 := by
 unfold be8
 simp only
 rcases ajn kind with ⟨h, e⟩ | ⟨h, e⟩
 ·rw [if_neg (by omega), if_pos h, ai0, e]
 ·rw [if_neg h, e]
  split
  ·rw [List.length_take, ai0]; decide
  ·rw [ai0]
theorem tmN (a b : Nat) : ((a : Nat) : Int).tmod (b : Int) = ((a % b : Nat) : Int) := by
 rw [Int.tmod_eq_emod_of_nonneg (by omega)]; rfl
theorem bim (kind : Int) (tl size : Nat) : In 256 (pad kind tl size) := by
 unfold pad
 refine In.app ?_ (bb7 8 8 _).rev
 intro x hx
 rcases List.mem_cons.1 hx with rfl | hx
 ·omega
 ·rw [List.mem_replicate] at hx; omega
theorem bhv (kind : Int) (tl size : Nat) : (pad kind tl size).length = be7 kind tl + 9 := by
 unfold pad; simp
theorem bhy (kind : Int) (tl : Nat) : be7 kind tl ≤ 200 := by
 unfold be7; split <;> omega
theorem bcr (n : Nat) (hn : n = 64 ∨ n = 128) (words : List Int) (hw : In 18446744073709551616 words) (a : Int) (b : List Int) (c : Int) (d : List Int) {ρ : Type} (k0 : Int → List Int → Int → List Int → Int → List Int → Int → List Int → Option ρ) :
    P.aj3 (n : Int) words 0 [] a b c d k0 = k0 (n : Int) words 8 (bco (n / 16) words 8) a b c d := by
 rw [P.apz]
 unfold P.aoi P.bmp P.bik P.bq3
 have e16 : IntKind.i64.wrap ((n : Int).tdiv 16) = ((n / 16 : Nat) : Int) := by rcases hn with rfl | rfl <;> rfl
 refine ac3 (fun i => ((n : Int), words, (i : Int), bco (n / 16) words i, a, b, c, d)) 8 rfl (fun i hi next hn' => ?_) (fun next => ?_) (by omega)
 ·simp only [P.aj6, toNat_cast]
  have h1 := hw.getD i (by omega)
  have e4 : IntKind.i64.wrap ((i : Int) + 1) = ((i + 1 : Nat) : Int) := by rw [yh (by omega) (by omega)]; omega
  have e5 : words.getD i 0 = (((words.getD i 0).toNat : Nat) : Int) := by omega
  rw [anu] at hn'
  rw [bf (by omega), bf (by omega), bf (by omega), e16, e5, tq _ _ (by omega) (by omega), e4]
  rw [bf (by rw [ai0, List.length_reverse, ac9]; rcases hn with rfl | rfl <;> omega)]
  exact hn'
 ·simp only [P.aj6]
  rw [dz (by omega)]
  rfl
theorem shl3 (size : Nat) : IntKind.u64.wrap ((size : Int) * (2 : Int) ^ 3) = ((size * 8 % 2 ^ 64 : Nat) : Int) := by
 rw [bf3]; omega
theorem acp (kind : Int) (words tail : List Int) (size : Nat) (hl : words.length = 8) (hi : In 18446744073709551616 words) (ht : In 256 tail) (hn : tail.length < bsz kind) {ρ : Type} (k : List Int → Option ρ) :
    P.acp kind words tail (size : Int) k = k (be8 kind words tail size) := by
 rw [P.aq8]; unfold P.aj8
 rw [qp]
 have hz : IntKind.i64.wrap (IntKind.i64.wrap ((IntKind.i64.wrap (IntKind.i64.wrap (IntKind.i64.wrap (IntKind.i64.wrap ((2 : Int) * ((bsz kind : Nat) : Int)) - (1 : Int)) - IntKind.i64.wrap (((bsz kind : Nat) : Int).tdiv (8 : Int))) - (tail.length : Int))).tmod ((bsz kind : Nat) : Int) + IntKind.i64.wrap (((bsz kind : Nat) : Int).tdiv (8 : Int))) - (8 : Int)) = ((be7 kind tail.length : Nat) : Int) := by
  unfold be7
  rcases ajn kind with ⟨h, e⟩ | ⟨h, e⟩
  ·rw [e] at hn ⊢
   rw [if_pos h, show IntKind.i64.wrap (IntKind.i64.wrap (IntKind.i64.wrap ((2 : Int) * ((64 : Nat) : Int)) - (1 : Int)) - IntKind.i64.wrap (((64 : Nat) : Int).tdiv (8 : Int))) = 119 from rfl, yh (x := (119 : Int) - (tail.length : Int)) (by omega) (by omega),
    show (119 : Int) - (tail.length : Int) = ((119 - tail.length : Nat) : Int) by omega, tmN, show IntKind.i64.wrap (((64 : Nat) : Int).tdiv (8 : Int)) = 8 from rfl, yh (x := ((((119 - tail.length) % 64 : Nat) : Int)) + 8) (by omega) (by omega), yh (by omega) (by omega)]
   omega
  ·rw [e] at hn ⊢
   rw [if_neg h, show IntKind.i64.wrap (IntKind.i64.wrap (IntKind.i64.wrap ((2 : Int) * ((128 : Nat) : Int)) - (1 : Int)) - IntKind.i64.wrap (((128 : Nat) : Int).tdiv (8 : Int))) = 239 from rfl, yh (x := (239 : Int) - (tail.length : Int)) (by omega) (by omega),
    show (239 : Int) - (tail.length : Int) = ((239 - tail.length : Nat) : Int) by omega, tmN, show IntKind.i64.wrap (((128 : Nat) : Int).tdiv (8 : Int)) = 16 from rfl, yh (x := ((((239 - tail.length) % 128 : Nat) : Int)) + 16) (by omega) (by omega), yh (by omega) (by omega)]
   omega
 have hb : bsz kind = 64 ∨ bsz kind = 128 := by rcases ajn kind with ⟨h, e⟩ | ⟨h, e⟩ <;> omega
 have hz2 := bhy kind tail.length
 rw [hz]
 simp only [toNat_cast]
 rw [bf (by omega), bf (by omega), dz (by omega), bf (by omega), bf (by omega), shl3, show (8 : Int) = ((8 : Nat) : Int) from rfl, tq _ 8 (by omega) (by omega)]
 have hp : (List.replicate 1 (0 : Int)).set 0 (128 : Int) ++ List.replicate (be7 kind tail.length) (0 : Int) ++ (bsw 8 8 (size * 8 % 2 ^ 64)).reverse = pad kind tail.length size := rfl
 rw [bf (by
  show ((List.replicate (be7 kind tail.length) (0 : Int)).length + 0 + 1 + _) * 1 ≤ _
  rw [List.length_replicate, List.length_reverse, ac9]; omega), hp]
 have hpl := bhv kind tail.length size
 rw [uy kind words tail _ _ hl hi ht (bim _ _ _) (by omega), bcr _ hb _ (av7 _ _ _).2.1]
 unfold be8
 simp only
 by_cases h2 : kind = 2
 ·have e : bsz kind = 128 := by unfold bsz; rw [if_neg (by omega)]
  rw [fu h2, bf (by rw [ai0, e]; omega), if_pos h2]
  rfl
 ·rw [iw h2, if_neg h2]
def awu (kind : Int) : List Int :=
 if kind = 1 then [1779033703, 3144134277, 1013904242, 2773480762, 1359893119, 2600822924, 528734635, 1541459225]
 else if kind = 2 then [14680500436340154072, 7105036623409894663, 10473403895298186519, 1526699215303891257, 7436329637833083697, 10282925794625328401, 15784041429090275239, 5167115440072839076]
 else [7640891576956012808, 13503953896175478587, 4354685564936845355, 11912009170470909681, 5840696475078001361, 11170449401992604703, 2270897969802886507, 6620516959819538809]
theorem bg7 (kind : Int) : Wok kind (awu kind) := by
 unfold awu Wok
 by_cases h1 : kind = 1
 ·simp only [if_pos h1]
  refine ⟨rfl, ?_, fun _ => ?_⟩
  ·unfold In; decide
  ·unfold In; decide
 ·by_cases h2 : kind = 2
  ·simp only [if_neg h1, if_pos h2]
   refine ⟨rfl, ?_, fun h => absurd h h1⟩
   unfold In; decide
  ·simp only [if_neg h1, if_neg h2]
   refine ⟨rfl, ?_, fun h => absurd h h1⟩
   unfold In; decide
def K3 (kind : Int) : Prop := kind = 1 ∨ kind = 2 ∨ kind = 3
theorem avq {kind : Int} (h : K3 kind) {ρ : Type} (k : List Int → Bool → Option ρ) : P.ab8 kind k = k (awu kind) true := by
 rw [P.amz]
 rcases h with rfl | rfl | rfl <;> kernel_rfl
theorem aez {kind : Int} (h : K3 kind) {ρ : Type} (k : Int → List Int → List Int → Int → Int → Option ρ) : P.aez kind k = k kind (awu kind) [] 0 0 := by
 rw [P.aqf]; unfold P.akb
 rw [avq h, w9, aa7]
theorem ash (kind : Int) : 0 < bsz kind := by rcases ajn kind with ⟨h, e⟩ | ⟨h, e⟩ <;> omega
def bhr (kind : Int) (b : List Int) : List Int := be8 kind (apg kind (awu kind) b) (rest (bsz kind) b) b.length
theorem bdp (b : List Int) (hn : b.length ≤ 1000000) : IntKind.u64.wrap ((0 : Int) + IntKind.u64.wrap (b.length : Int)) = ((b.length : Nat) : Int) := by
 rw [apn _ (by omega), Int.zero_add, apn _ (by omega)]
theorem bgb (kind : Int) (b : List Int) : In 256 (bhr kind b) := bf4 _ _ _ _
theorem bcv (kind : Int) (b : List Int) : (bhr kind b).length = if kind = 1 then 32 else if kind = 2 then 48 else 64 := bc6 _ _ _ _
end Q
end

section
/- SHA-2: which sums can be, which are the same; the examples. -/
namespace Q
open Go Go.Abs
set_option linter.unusedVariables false
set_option linter.unusedSimpArgs false
theorem first (p : Nat → Bool) : ∀ n, ∃ m, m ≤ n ∧ (∀ i, i < m → p i = true) ∧ (m = n ∨ (m < n ∧ p m = false))
 | 0 => ⟨0, by omega, by omega, .inl rfl⟩
 | n + 1 => by
  obtain ⟨m, h1, h2, h3⟩ := first p n
  rcases h3 with h3 | ⟨h3, h4⟩
  ·subst h3
   cases hp : p m with
   | true => exact ⟨m + 1, by omega, fun i hi => by
       by_cases e : i = m
       ·rw [e]; exact hp
       ·exact h2 i (by omega), .inl rfl⟩
   | false => exact ⟨m, by omega, h2, .inr ⟨by omega, hp⟩⟩
  ·exact ⟨m, by omega, h2, .inr ⟨by omega, h4⟩⟩
end Q
end

section
/- mac: digests, with keys and without. -/
namespace Q
open QK
open Go Go.Abs
set_option linter.unusedVariables false
set_option linter.unusedSimpArgs false
def K7 (kd : Int) : Prop := kd = 1 ∨ kd = 2 ∨ kd = 3 ∨ kd = 4 ∨ kd = 5 ∨ kd = 6 ∨ kd = 7
theorem K7.of {kd : Int} (h : 1 ≤ kd ∧ kd ≤ 7) : K7 kd := by unfold K7; omega
def bk (kd : Int) : Nat := if kd ≤ 3 then bsz kd else rOf kd
end Q
end

section
/- mac: bytes of keys and of seeds. -/
namespace Q
open QK
open Go Go.Abs
set_option linter.unusedVariables false
set_option linter.unusedSimpArgs false
def cat (T : Nat → List Int) : Nat → List Int
 | 0 => []
 | j + 1 => cat T j ++ T j
theorem ahd {T : Nat → List Int} {d : Nat} (h : ∀ i, (T i).length = d) : ∀ j, (cat T j).length = j * d
 | 0 => by simp [cat]
 | j + 1 => by rw [cat, List.length_append, ahd h j, h, Nat.succ_mul]
theorem ato {T : Nat → List Int} (h : ∀ i, In 256 (T i)) : ∀ j, In 256 (cat T j)
 | 0 => In.nil
 | j + 1 => (ato h j).app (h j)
end Q
end

section
/- SHA-2: bytes that are added one behind the other. -/
namespace Q
open Go Go.Abs
set_option linter.unusedVariables false
set_option linter.unusedSimpArgs false
theorem aq3 {w : Nat} (p : Par w) (v : List (BitVec w)) (a b : List Int) (m : Nat) (hm : (2 * w) * m = a.length) : ∀ i, thr p v (a ++ b) (m + i) = thr p (thr p v a m) b i ∧ thr p v (a ++ b) m = thr p v a m := by
 have key : ∀ i, i ≤ m → thr p v (a ++ b) i = thr p v a i := by
  intro i
  induction i with
  | zero => intro _; rfl
  | succ i ih =>
   intro hi
   have h1 : (2 * w) * i + 2 * w ≤ a.length := by
    rw [← hm, ← Nat.mul_succ]
    exact Nat.mul_le_mul (Nat.le_refl _) hi
   simp only [thr]
   rw [ih (by omega), List.drop_append_of_le_length (by omega), List.take_append_of_le_length (by rw [List.length_drop]; omega)]
 intro i
 refine ⟨?_, key m (Nat.le_refl _)⟩
 induction i with
 | zero => exact key m (Nat.le_refl _)
 | succ i ih =>
  rw [← Nat.add_assoc]
  simp only [thr]
  rw [ih, Nat.mul_add, hm, List.drop_append, List.drop_eq_nil_of_le (by omega), List.nil_append, Nat.add_sub_cancel_left]
end Q
end

section
/- lmots: the digits as the program and as the document count them. -/
namespace Q
open Go Go.Abs
set_option linter.unusedVariables false
set_option linter.unusedSimpArgs false
end Q
end

section
/- wots: the digits of a text. -/
namespace Q
open Go Go.Abs
set_option linter.unusedVariables false
set_option linter.unusedSimpArgs false
def N3 (n : Nat) : Prop := n = 16 ∨ n = 24 ∨ n = 32
def wl (n : Nat) (x : List Int) : Nat := 15 * (2 * n) - sumTo (ae8 x 4 ((2 * n : Nat) : Int)) (2 * n)
end Q
end
