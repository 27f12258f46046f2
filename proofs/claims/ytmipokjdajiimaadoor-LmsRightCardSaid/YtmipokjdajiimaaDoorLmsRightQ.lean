/-
  LmsRight, part 17: an interpreter of my own over abstract values, the pure functions, the walks and the plain law.
-/

import Derived.Test.YtmipokjdajiimaaDoorLmsRightH
import Derived.Laws.Bits64
import Derived.Test.YtmipokjdajiimaaDoorLmsRightK
import Derived.Test.YtmipokjdajiimaaDoorLmsRightJ
import Derived.Test.YtmipokjdajiimaaDoorLmsRightI

section
/- Small laws for the plain proofs. -/
namespace Q
open Go Go.Abs
set_option linter.unusedVariables false
def In (m : Int) (l : List Int) : Prop := ∀ x, x ∈ l → 0 ≤ x ∧ x < m
theorem wf_u8 {n : Int} (h : wfI .u8 n) : 0 ≤ n ∧ n < 256 := by
 simp [wfI, Lit.wf, IntKind.min, IntKind.max, IntKind.signed, IntKind.bits] at h; omega
theorem wf_u32 {n : Int} (h : wfI .u32 n) : 0 ≤ n ∧ n < 4294967296 := by
 simp [wfI, Lit.wf, IntKind.min, IntKind.max, IntKind.signed, IntKind.bits] at h; omega
theorem bdq {l : List Int} (h : ∀ x, x ∈ l → wfI .u8 x) : In 256 l := fun x hx => wf_u8 (h x hx)
theorem In.tail {m x : Int} {l : List Int} (h : In m (x :: l)) : In m l := fun y hy => h y (List.mem_cons_of_mem _ hy)
theorem In.app {m : Int} {l r : List Int} (h1 : In m l) (h2 : In m r) : In m (l ++ r) := fun y hy => (List.mem_append.1 hy).elim (h1 y) (h2 y)
theorem In.left {m : Int} {l r : List Int} (h : In m (l ++ r)) : In m l := fun y hy => h y (List.mem_append_left _ hy)
theorem In.right {m : Int} {l r : List Int} (h : In m (l ++ r)) : In m r := fun y hy => h y (List.mem_append_right _ hy)
theorem In.take {m : Int} {l : List Int} (h : In m l) (n : Nat) : In m (l.take n) := fun y hy => h y (List.mem_of_mem_take hy)
theorem In.drop {m : Int} {l : List Int} (h : In m l) (n : Nat) : In m (l.drop n) := fun y hy => h y (List.mem_of_mem_drop hy)
theorem In.nil {m : Int} : In m [] := fun y hy => by simp at hy
theorem In.rev {m : Int} {l : List Int} (h : In m l) : In m l.reverse := fun y hy => h y (by simpa using hy)
theorem In.getD {m : Int} {l : List Int} (h : In m l) (i : Nat) (hm : 0 < m) : 0 ≤ l.getD i 0 ∧ l.getD i 0 < m := by
 rw [List.getD_eq_getElem?_getD]
 by_cases hi : i < l.length
 ·rw [List.getElem?_eq_getElem hi]; exact h _ (List.getElem_mem hi)
 ·rw [List.getElem?_eq_none (by omega)]; exact ⟨Int.le_refl 0, hm⟩
theorem In.map {m : Int} {α : Type} {l : List α} {f : α → Int} (h : ∀ a, a ∈ l → 0 ≤ f a ∧ f a < m) : In m (l.map f) := fun y hy => by
 obtain ⟨a, ha, rfl⟩ := List.mem_map.1 hy
 exact h a ha
theorem jr {α : Type} {a b : Int} (h : ¬ a = b) (x y : α) : br (a != b) x y = x := by rw [bne_iff_ne.2 h]; exact abd x y
theorem dh {α : Type} {a b : Int} (h : a = b) (x y : α) : br (a != b) x y = y := by rw [bne_eq_false_iff_eq.2 h]; exact adu x y
theorem dw {α : Type} {a b : Int} (h : a = b) (x y : α) : br (a == b) x y = x := by rw [beq_iff_eq.2 h]; exact abd x y
theorem bn {α : Type} {a b : Int} (h : ¬ a = b) (x y : α) : br (a == b) x y = y := by rw [beq_eq_false_iff_ne.2 h]; exact adu x y
theorem su {α : Type} (b : Bool) (x y : α) : br (!b) x y = br b y x := by cases b <;> simp
theorem bdp {X Y ρ : Type} {stp : X → (X → Option ρ) → (Y → Option ρ) → Option ρ} {K : Y → Option ρ} {r : Option ρ} (S : Nat → X) (n : Nat)
    (hstep : ∀ i, i < n → ∀ next, next (S (i + 1)) = r → stp (S i) next K = r) (hend : ∀ next, stp (S n) next K = r) {i : Nat} (hi : i ≤ n) (hn : n ≤ 18446744073709551616) : lp stp (S i) K = r := by
 have key : ∀ m i, m + i = n → lpN stp K m (S i) = r ∧ ∀ q, m ≤ q → lpN stp K q (S i) = r := by
  intro m
  induction m with
  | zero =>
   intro i hi
   have : i = n := by omega
   subst this
   refine ⟨hend _, fun q _ => ?_⟩
   cases q with
   | zero => exact hend _
   | succ q => exact hend _
  | succ m ih =>
   intro i hi
   refine ⟨hstep i (by omega) _ (ih (i + 1) (by omega)).1, fun q hq => ?_⟩
   cases q with
   | zero => omega
   | succ q => exact hstep i (by omega) _ ((ih (i + 1) (by omega)).2 q (by omega))
 exact (key (n - i) i (by omega)).2 FU (by rw [bj1]; omega)
theorem getD_lt {α : Type} {l : List α} {d : α} {i : Nat} (h : i < l.length) : l.getD i d = l[i] := by
 rw [List.getD_eq_getElem?_getD, List.getElem?_eq_getElem h]; rfl
theorem toNat_cast (n : Nat) : ((n : Int)).toNat = n := Int.toNat_natCast n
theorem bbn (f : Nat → Int) (i n : Nat) (h : i < n) (d : Int) : ((List.range i).map f ++ List.replicate (n - i) d).set i (f i) = (List.range (i + 1)).map f ++ List.replicate (n - (i + 1)) d := by
 rw [List.set_append_right _ _ (by simp), show n - i = (n - (i + 1)) + 1 by omega, List.replicate_succ]
 simp [List.range_succ]
theorem aju {α : Type} (l : List α) (d : α) (i : Nat) (h : i < l.length) : l.take i ++ [l.getD i d] = l.take (i + 1) := by
 rw [getD_lt h, List.take_add_one, List.getElem?_eq_getElem h]; rfl
theorem aed {α : Type} (l : List α) (d : α) (i : Nat) (h : i < l.length) : l.drop i = l.getD i d :: l.drop (i + 1) := by
 rw [getD_lt h]; exact List.drop_eq_getElem_cons h
end Q
end

section
/- The bit operations as numbers. -/
namespace Q
open Go Go.Abs
set_option linter.unusedVariables false
theorem bln (x y : Nat) (hx : x < 256) (hy : y < 256) : bits .or .u8 (x : Int) (y : Int) = ((x ||| y : Nat) : Int) := by
 have h1 : x ||| y < 256 := Nat.or_lt_two_pow (n := 8) hx hy
 have e : bits .or .u8 (x : Int) (y : Int) = IntKind.u8.wrap ((BitVec.ofInt 8 (x : Int) ||| BitVec.ofInt 8 (y : Int)).toNat : Int) := rfl
 have e2 : (BitVec.ofInt 8 (x : Int) ||| BitVec.ofInt 8 (y : Int)).toNat = x ||| y := by
  rw [BitVec.toNat_or, BitVec.toNat_ofInt, BitVec.toNat_ofInt]; congr 1 <;> omega
 rw [e, e2]; exact IntWalk.u8_in _ ⟨by omega, by omega⟩
theorem bjh (x y : Nat) (hx : x < 256) (hy : y < 256) : bits .xor .u8 (x : Int) (y : Int) = ((x ^^^ y : Nat) : Int) := by
 have h1 : x ^^^ y < 256 := Nat.xor_lt_two_pow (n := 8) hx hy
 have e : bits .xor .u8 (x : Int) (y : Int) = IntKind.u8.wrap ((BitVec.ofInt 8 (x : Int) ^^^ BitVec.ofInt 8 (y : Int)).toNat : Int) := rfl
 have e2 : (BitVec.ofInt 8 (x : Int) ^^^ BitVec.ofInt 8 (y : Int)).toNat = x ^^^ y := by
  rw [BitVec.toNat_xor, BitVec.toNat_ofInt, BitVec.toNat_ofInt]; congr 1 <;> omega
 rw [e, e2]; exact IntWalk.u8_in _ ⟨by omega, by omega⟩
theorem be3 (x y : Nat) (hx : x < 18446744073709551616) (hy : y < 18446744073709551616) : bits .or .u64 (x : Int) (y : Int) = ((x ||| y : Nat) : Int) := by
 have h1 : x ||| y < 18446744073709551616 := Nat.or_lt_two_pow (n := 64) hx hy
 have e : bits .or .u64 (x : Int) (y : Int) = IntKind.u64.wrap ((BitVec.ofInt 64 (x : Int) ||| BitVec.ofInt 64 (y : Int)).toNat : Int) := rfl
 have e2 : (BitVec.ofInt 64 (x : Int) ||| BitVec.ofInt 64 (y : Int)).toNat = x ||| y := by
  rw [BitVec.toNat_or, BitVec.toNat_ofInt, BitVec.toNat_ofInt]; congr 1 <;> omega
 rw [e, e2]; exact IntWalk.u64_in _ ⟨by omega, by omega⟩
theorem bgd (x y : Nat) (hx : x < 18446744073709551616) (hy : y < 18446744073709551616) : bits .and .u64 (x : Int) (y : Int) = ((x &&& y : Nat) : Int) := by
 have h1 : x &&& y < 18446744073709551616 := Nat.and_lt_two_pow (n := 64) x hy
 have e : bits .and .u64 (x : Int) (y : Int) = IntKind.u64.wrap ((BitVec.ofInt 64 (x : Int) &&& BitVec.ofInt 64 (y : Int)).toNat : Int) := rfl
 have e2 : (BitVec.ofInt 64 (x : Int) &&& BitVec.ofInt 64 (y : Int)).toNat = x &&& y := by
  rw [BitVec.toNat_and, BitVec.toNat_ofInt, BitVec.toNat_ofInt]; congr 1 <;> omega
 rw [e, e2]; exact IntWalk.u64_in _ ⟨by omega, by omega⟩
theorem u8m (n : Int) : IntKind.u8.wrap n = n % 256 := by simp [IntKind.wrap, IntKind.bits, IntKind.signed]
theorem bir (n : Int) : IntKind.u32.wrap n = n % 4294967296 := by simp [IntKind.wrap, IntKind.bits, IntKind.signed]
theorem bhk (n : Int) : IntKind.u64.wrap n = n % 18446744073709551616 := by simp [IntKind.wrap, IntKind.bits, IntKind.signed]
theorem xor_zero {x y : Nat} : x ^^^ y = 0 ↔ x = y := by
 constructor
 ·intro h
  have : (x ^^^ y) ^^^ y = x := by rw [Nat.xor_assoc, Nat.xor_self, Nat.xor_zero]
  rw [h, Nat.zero_xor] at this
  exact this.symm
 ·rintro rfl; exact Nat.xor_self _
theorem ayf (a x i : Nat) (hx : x < 2 ^ i) : (a * 2 ^ i) ||| x = a * 2 ^ i + x := by
 rw [← Nat.shiftLeft_eq, Nat.shiftLeft_add_eq_or_of_lt hx]
end Q
end

section
/- Numbers and their digits, the lowest first. -/
namespace Q
open Go Go.Abs
set_option linter.unusedVariables false
def T (w : Nat) : List Int → Nat
 | [] => 0
 | x :: l => x.toNat % 2 ^ w + 2 ^ w * T w l
theorem p2 (n : Nat) : 0 < 2 ^ n := Nat.pow_pos (by omega)
theorem bi5 (w : Nat) : ∀ l : List Int, T w l < 2 ^ (w * l.length)
 | [] => by simp [T]
 | x :: l => by
  have ih := bi5 w l
  have h1 := Nat.mod_lt x.toNat (p2 w)
  rw [List.length_cons, Nat.mul_succ, Nat.add_comm, Nat.pow_add]
  simp only [T]
  have : 2 ^ w * (T w l + 1) ≤ 2 ^ w * 2 ^ (w * l.length) := Nat.mul_le_mul (Nat.le_refl _) ih
  rw [Nat.mul_add] at this
  omega
theorem amy (w : Nat) : ∀ a b : List Int, T w (a ++ b) = T w a + 2 ^ (w * a.length) * T w b
 | [], b => by simp [T]
 | x :: a, b => by
  rw [List.cons_append, T, T, amy w a b, List.length_cons, Nat.mul_succ, Nat.add_comm (w * a.length) w, Nat.pow_add, Nat.mul_add, Nat.mul_assoc]
  omega
theorem bjr (w : Nat) (l : List Int) (k : Nat) (h : k ≤ l.length) : T w l = T w (l.take k) + 2 ^ (w * k) * T w (l.drop k) := by
 have := amy w (l.take k) (l.drop k)
 rw [List.take_append_drop, List.length_take, Nat.min_eq_left h] at this
 exact this
theorem aza (w : Nat) (l : List Int) (k : Nat) (h : k ≤ l.length) : T w (l.drop k) = T w l / 2 ^ (w * k) := by
 have := bi5 w (l.take k)
 rw [List.length_take, Nat.min_eq_left h] at this
 rw [bjr w l k h, Nat.add_mul_div_left _ _ (p2 _), Nat.div_eq_of_lt this, Nat.zero_add]
theorem ac9 {X Y ρ : Type} {stp : X → (X → Option ρ) → (Y → Option ρ) → Option ρ} {K : Y → Option ρ} {r : Option ρ} (S : Nat → X) (n : Nat) {x : X} (hx : x = S 0)
    (hstep : ∀ i, i < n → ∀ next, next (S (i + 1)) = r → stp (S i) next K = r) (hend : ∀ next, stp (S n) next K = r) (hn : n ≤ 18446744073709551616) : lp stp x K = r := by
 rw [hx]; exact bdp S n hstep hend (Nat.zero_le _) hn
def bsw (w n X : Nat) : List Int := (List.range n).map fun i => ((X / 2 ^ (w * i) % 2 ^ w : Nat) : Int)
@[simp] theorem abr (w n X : Nat) : (bsw w n X).length = n := by simp [bsw]
theorem axn (w n X i : Nat) (h : i < n) : (bsw w n X).getD i 0 = ((X / 2 ^ (w * i) % 2 ^ w : Nat) : Int) := by
 rw [getD_lt (by simpa using h)]; simp [bsw]
theorem ar4 (w n X : Nat) : bsw w (n + 1) X = bsw w n X ++ [((X / 2 ^ (w * n) % 2 ^ w : Nat) : Int)] := by simp [bsw, List.range_succ]
theorem axw (w n X : Nat) : In (2 ^ w) (bsw w n X) := by
 refine In.map (fun i _ => ⟨Int.natCast_nonneg _, ?_⟩)
 have := Nat.mod_lt (X / 2 ^ (w * i)) (p2 w)
 have e : ((2 : Int) ^ w) = ((2 ^ w : Nat) : Int) := by simp
 rw [e]; omega
theorem bho (w X : Nat) : ∀ n, T w (bsw w n X) = X % 2 ^ (w * n)
 | 0 => by simp [bsw, T, Nat.mod_one]
 | n + 1 => by
  rw [ar4, amy, bho w X n, abr, Nat.mul_succ, Nat.pow_add, Nat.mod_mul]
  simp only [T, Int.toNat_natCast, Nat.mod_mod, Nat.mul_zero, Nat.add_zero]
theorem atr (X h w m : Nat) (hm : h + w ≤ m) : X % 2 ^ m / 2 ^ h % 2 ^ w = X / 2 ^ h % 2 ^ w := by
 have e : (2 : Nat) ^ m = 2 ^ h * (2 ^ w * 2 ^ (m - (h + w))) := by rw [← Nat.pow_add, ← Nat.pow_add]; congr 1; omega
 rw [e, Nat.mod_mul_right_div_self, Nat.mod_mul_right_mod]
end Q
end

section
/- hss: a number's digits, each by its own width: pure. -/
namespace Q
open Go Go.Abs
set_option linter.unusedVariables false
set_option linter.unusedSimpArgs false
def sm : List Nat → Nat
 | [] => 0
 | h :: r => h + sm r
end Q
end

section
/- bits: Unpack. -/
namespace Q
open Go Go.Abs
set_option linter.unusedVariables false
set_option linter.unusedSimpArgs false
def Such (n : Nat) (w c : Int) : Prop := 1 ≤ w ∧ w ≤ 24 ∧ 0 ≤ c ∧ c * w ≤ n * 8
instance (n : Nat) (w c : Int) : Decidable (Such n w c) := inferInstanceAs (Decidable (_ ∧ _))
theorem bf6 (n : Nat) (w c : Int) (hn : n ≤ 1000000) {ρ : Type} (k : Bool → Option ρ) :
    br (decide (w ≥ (1 : Int))) (br (decide (w ≤ (24 : Int))) (br (decide (c ≥ (0 : Int))) (br (decide (w = (0 : Int))) none
     (k (decide (c ≤ IntKind.i64.wrap ((IntKind.i64.wrap ((↑n : Int) * (8 : Int))).tdiv w))))) (k false)) (k false)) (k false) = k (decide (Such n w c)) := by
 by_cases h1 : w ≥ 1
 ·by_cases h2 : w ≤ 24
  ·by_cases h3 : c ≥ 0
   ·rw [au h1, au h2, au h3, dx (by omega)]
    congr 1
    have e0 : ((n : Int) * 8).tdiv w = (n : Int) * 8 / w := Int.tdiv_eq_ediv_of_nonneg (by omega)
    have e1 : (n : Int) * 8 / w ≤ n * 8 := Int.ediv_le_self _ (by omega)
    have e2 : 0 ≤ (n : Int) * 8 / w := Int.ediv_nonneg (by omega) (by omega)
    rw [aag (x := (n : Int) * 8) (by omega) (by omega), e0, aag (by omega) (by omega)]
    apply decide_eq_decide.2
    rw [Int.le_ediv_iff_mul_le (by omega)]
    unfold Such
    omega
   ·rw [au h1, au h2, dx h3, decide_eq_false (fun h => h3 h.2.2.1)]
  ·rw [au h1, dx h2, decide_eq_false (fun h => h2 h.2.1)]
 ·rw [dx h1, decide_eq_false (fun h => h1 h.1)]
theorem aaf (b : List Int) (w c : Int) (hn : b.length ≤ 1000000) {ρ : Type} (k : Bool → Option ρ) : P.aaf b w c k = k (decide (Such b.length w c)) := by
 rw [P.alz]; exact bf6 b.length w c hn k
theorem fdiv_pow (a n m : Nat) (h : n ≤ m) : (a : Int).fdiv ((2 : Int) ^ min n m) = ((a / 2 ^ n : Nat) : Int) := by
 rw [Nat.min_eq_left h, show ((2 : Int) ^ n) = ((2 ^ n : Nat) : Int) by simp, ← Int.ofNat_fdiv]
theorem mul_pow (a n m : Nat) (h : n ≤ m) : (a : Int) * ((2 : Int) ^ min n m) = ((a * 2 ^ n : Nat) : Int) := by
 rw [Nat.min_eq_left h, show ((2 : Int) ^ n) = ((2 ^ n : Nat) : Int) by simp, ← Int.natCast_mul]
theorem agr (a : Nat) (h : a < 18446744073709551616) : IntKind.u64.wrap (a : Int) = (a : Int) := by rw [bhk]; omega
theorem bcn (a : Nat) (h : a < 4294967296) : IntKind.u32.wrap (a : Int) = (a : Int) := by rw [bir]; omega
theorem u8n (a : Nat) (h : a < 256) : IntKind.u8.wrap (a : Int) = (a : Int) := by rw [u8m]; omega
theorem bdv {a b : Nat} (h : a ≤ b) : 2 ^ a ≤ 2 ^ b := Nat.pow_le_pow_right (by omega) h
theorem bfc (w : Nat) (h : w ≤ 24) : IntKind.u64.wrap (IntKind.u64.wrap ((1 : Int) * (2 : Int) ^ min w 64) - (1 : Int)) = ((2 ^ w - 1 : Nat) : Int) := by
 have h1 := p2 w
 have h2 : 2 ^ w ≤ 2 ^ 24 := bdv h
 rw [show (1 : Int) = ((1 : Nat) : Int) from rfl, mul_pow 1 w 64 (by omega), agr _ (by omega), show ((1 * 2 ^ w : Nat) : Int) - ((1 : Nat) : Int) = ((2 ^ w - 1 : Nat) : Int) by omega, agr _ (by omega)]
theorem ay4 (x w : Nat) (hx : x < 18446744073709551616) (h : w ≤ 24) : bits .and .u64 (x : Int) (IntKind.u64.wrap (IntKind.u64.wrap ((1 : Int) * (2 : Int) ^ min w 64) - (1 : Int))) = ((x % 2 ^ w : Nat) : Int) := by
 have h2 : 2 ^ w ≤ 2 ^ 24 := bdv h
 rw [bfc w h, bgd _ _ hx (by omega), Nat.and_two_pow_sub_one_eq_mod]
def wu (n : Nat) : Nat := (n + 7) / 8
theorem ax6 (n : Nat) : n ≤ 8 * wu n := by unfold wu; omega
theorem axa (n : Nat) : 8 * wu n < n + 8 := by unfold wu; omega
theorem byte_at {b : List Int} (hb : In 256 b) (t : Nat) : ∃ x : Nat, b.getD t 0 = (x : Int) ∧ x < 256 ∧ x = (b.getD t 0).toNat % 2 ^ 8 := by
 have := hb.getD t (by omega)
 exact ⟨(b.getD t 0).toNat, by omega, by omega, by omega⟩
end Q
end

section
/- Words of 32 and of 64 bits. -/
namespace Q
open Go Go.Abs
set_option linter.unusedVariables false
set_option linter.unusedSimpArgs false
theorem ofI {w : Nat} (x : BitVec w) : BitVec.ofInt w (x.toNat : Int) = x := by simp
theorem bj7 (x : BitVec 32) : x.toNat < 4294967296 := x.isLt
theorem bnz (x : BitVec 64) : x.toNat < 18446744073709551616 := x.isLt
theorem aq5 (x y : BitVec 32) : bits .xor .u32 (x.toNat : Int) (y.toNat : Int) = ((x ^^^ y).toNat : Int) := by
 have e : bits .xor .u32 (x.toNat : Int) (y.toNat : Int) = IntKind.u32.wrap ((BitVec.ofInt 32 (x.toNat : Int) ^^^ BitVec.ofInt 32 (y.toNat : Int)).toNat : Int) := rfl
 rw [e, ofI, ofI, bcn _ (bj7 _)]
theorem bmz (x y : BitVec 32) : bits .and .u32 (x.toNat : Int) (y.toNat : Int) = ((x &&& y).toNat : Int) := by
 have e : bits .and .u32 (x.toNat : Int) (y.toNat : Int) = IntKind.u32.wrap ((BitVec.ofInt 32 (x.toNat : Int) &&& BitVec.ofInt 32 (y.toNat : Int)).toNat : Int) := rfl
 rw [e, ofI, ofI, bcn _ (bj7 _)]
theorem boe (x y : BitVec 32) : bits .or .u32 (x.toNat : Int) (y.toNat : Int) = ((x ||| y).toNat : Int) := by
 have e : bits .or .u32 (x.toNat : Int) (y.toNat : Int) = IntKind.u32.wrap ((BitVec.ofInt 32 (x.toNat : Int) ||| BitVec.ofInt 32 (y.toNat : Int)).toNat : Int) := rfl
 rw [e, ofI, ofI, bcn _ (bj7 _)]
theorem add32 (x y : BitVec 32) : IntKind.u32.wrap ((x.toNat : Int) + (y.toNat : Int)) = ((x + y).toNat : Int) := by
 rw [bir, BitVec.toNat_add]; omega
theorem apb (x y : BitVec 64) : bits .xor .u64 (x.toNat : Int) (y.toNat : Int) = ((x ^^^ y).toNat : Int) := by
 have e : bits .xor .u64 (x.toNat : Int) (y.toNat : Int) = IntKind.u64.wrap ((BitVec.ofInt 64 (x.toNat : Int) ^^^ BitVec.ofInt 64 (y.toNat : Int)).toNat : Int) := rfl
 rw [e, ofI, ofI, agr _ (bnz _)]
theorem blz (x y : BitVec 64) : bits .and .u64 (x.toNat : Int) (y.toNat : Int) = ((x &&& y).toNat : Int) := by
 have e : bits .and .u64 (x.toNat : Int) (y.toNat : Int) = IntKind.u64.wrap ((BitVec.ofInt 64 (x.toNat : Int) &&& BitVec.ofInt 64 (y.toNat : Int)).toNat : Int) := rfl
 rw [e, ofI, ofI, agr _ (bnz _)]
theorem boz (x y : BitVec 64) : bits .or .u64 (x.toNat : Int) (y.toNat : Int) = ((x ||| y).toNat : Int) := by
 have e : bits .or .u64 (x.toNat : Int) (y.toNat : Int) = IntKind.u64.wrap ((BitVec.ofInt 64 (x.toNat : Int) ||| BitVec.ofInt 64 (y.toNat : Int)).toNat : Int) := rfl
 rw [e, ofI, ofI, agr _ (bnz _)]
theorem bgv (x y : BitVec 64) : IntKind.u64.wrap ((x.toNat : Int) + (y.toNat : Int)) = ((x + y).toNat : Int) := by
 rw [bhk, BitVec.toNat_add]; omega
theorem bfy (x y : Nat) (hx : x < 18446744073709551616) (hy : y < 18446744073709551616) : bits .xor .u64 (x : Int) (y : Int) = ((x ^^^ y : Nat) : Int) := by
 have := apb (BitVec.ofNat 64 x) (BitVec.ofNat 64 y)
 rw [BitVec.toNat_xor, BitVec.toNat_ofNat, BitVec.toNat_ofNat, Nat.mod_eq_of_lt (by omega), Nat.mod_eq_of_lt (by omega)] at this
 exact this
/- words of 32 bits as numbers of 64 -/
theorem nlt (x : BitVec 32) : x.toNat < 18446744073709551616 := by have := bj7 x; omega
def rr {w : Nat} (x : BitVec w) (n : Nat) : BitVec w := (x >>> n) ||| (x <<< (w - n))
theorem as0 {w : Nat} (x : BitVec w) (n : Nat) : (x >>> n).toNat = x.toNat / 2 ^ n := by rw [BitVec.toNat_ushiftRight, Nat.shiftRight_eq_div_pow]
theorem atv {w : Nat} (x : BitVec w) (n : Nat) : (x <<< n).toNat = x.toNat * 2 ^ n % 2 ^ w := by rw [BitVec.toNat_shiftLeft, Nat.shiftLeft_eq]
theorem bf3 (x : BitVec 32) (n : Nat) (h : n ≤ 32) : (x.toNat : Int).fdiv ((2 : Int) ^ min n 32) = ((x >>> n).toNat : Int) := by rw [fdiv_pow _ _ _ h, as0]
theorem bmn (x : BitVec 32) (n : Nat) (h : n ≤ 32) : IntKind.u32.wrap ((x.toNat : Int) * (2 : Int) ^ min n 32) = ((x <<< n).toNat : Int) := by
 rw [mul_pow _ _ _ h, bir, atv]; omega
theorem bf1 (x : BitVec 64) (n : Nat) (h : n ≤ 64) : (x.toNat : Int).fdiv ((2 : Int) ^ min n 64) = ((x >>> n).toNat : Int) := by rw [fdiv_pow _ _ _ h, as0]
theorem bmm (x : BitVec 64) (n : Nat) (h : n ≤ 64) : IntKind.u64.wrap ((x.toNat : Int) * (2 : Int) ^ min n 64) = ((x <<< n).toNat : Int) := by
 rw [mul_pow _ _ _ h, bhk, atv]; omega
end Q
end

section
/- SHA-2: what a block does. -/
namespace Q
open Go Go.Abs
set_option linter.unusedVariables false
set_option linter.unusedSimpArgs false
structure Par (w : Nat) where
 rounds : Nat
 a : Nat × Nat × Nat
 b : Nat × Nat × Nat
 c : Nat × Nat × Nat
 d : Nat × Nat × Nat
 K : Nat → BitVec w
section
variable {w : Nat}
def hi (t : Nat × Nat × Nat) (x : BitVec w) : BitVec w := rr x t.1 ^^^ rr x t.2.1 ^^^ rr x t.2.2
def lo (t : Nat × Nat × Nat) (x : BitVec w) : BitVec w := rr x t.1 ^^^ rr x t.2.1 ^^^ (x >>> t.2.2)
def cv (l : List (BitVec w)) : List Int := l.map fun x => (x.toNat : Int)
@[simp] theorem aar (l : List (BitVec w)) : (cv l).length = l.length := by simp [cv]
theorem alj (l : List (BitVec w)) (i : Nat) : (cv l).getD i 0 = ((l.getD i 0).toNat : Int) := by
 unfold cv
 rw [List.getD_eq_getElem?_getD, List.getD_eq_getElem?_getD, List.getElem?_map]
 cases l[i]? <;> simp
theorem aw8 (l : List (BitVec w)) (i : Nat) (x : BitVec w) : (cv l).set i (x.toNat : Int) = cv (l.set i x) := by simp [cv, List.map_set]
theorem ajz (l r : List (BitVec w)) : cv l ++ cv r = cv (l ++ r) := by simp [cv]
def bhc (p : Par w) (t : Nat) (wt : BitVec w) (v : List (BitVec w)) : BitVec w :=
 v.getD 7 0 + hi p.d (v.getD 4 0) + (v.getD 6 0 ^^^ (v.getD 4 0 &&& (v.getD 5 0 ^^^ v.getD 6 0))) + p.K t + wt
def bnm (p : Par w) (v : List (BitVec w)) : BitVec w := hi p.c (v.getD 0 0) + ((v.getD 0 0 &&& v.getD 1 0) ||| (v.getD 2 0 &&& (v.getD 0 0 ||| v.getD 1 0)))
def rnd (p : Par w) (t : Nat) (wt : BitVec w) (v : List (BitVec w)) : List (BitVec w) :=
 [bhc p t wt v + bnm p v, v.getD 0 0, v.getD 1 0, v.getD 2 0, v.getD 3 0 + bhc p t wt v, v.getD 4 0, v.getD 5 0, v.getD 6 0]
def bie (p : Par w) (l : List (BitVec w)) : BitVec w := lo p.b (l.getD (l.length - 2) 0) + l.getD (l.length - 7) 0 + lo p.a (l.getD (l.length - 15) 0) + l.getD (l.length - 16) 0
def sched (p : Par w) (l : List (BitVec w)) : Nat → List (BitVec w)
 | 0 => l
 | n + 1 => sched p l n ++ [bie p (sched p l n)]
theorem aoe (p : Par w) (l : List (BitVec w)) : ∀ n, (sched p l n).length = l.length + n
 | 0 => rfl
 | n + 1 => by simp only [sched, List.length_append, aoe p l n, List.length_singleton]; omega
theorem aq9 (p : Par w) (l : List (BitVec w)) (n i : Nat) (hi : i < l.length + n) : ∀ m, (sched p l (n + m)).getD i 0 = (sched p l n).getD i 0
 | 0 => rfl
 | m + 1 => by
  rw [← Nat.add_assoc]
  simp only [sched]
  rw [List.getD_eq_getElem?_getD, List.getElem?_append_left (by rw [aoe]; omega), ← List.getD_eq_getElem?_getD, aq9 p l n i hi m]
def W (p : Par w) (l : List (BitVec w)) (t : Nat) : BitVec w := (sched p l t).getD t 0
theorem bhe (p : Par w) (l : List (BitVec w)) (hl : 0 < l.length) (n t : Nat) (h : t < l.length + n) : (sched p l n).getD t 0 = W p l t := by
 unfold W
 by_cases hn : n ≤ t
 ·have := aq9 p l n t h (t - n)
  rw [show n + (t - n) = t by omega] at this
  exact this.symm
 ·have := aq9 p l t t (by omega) (n - t)
  rw [show t + (n - t) = n by omega] at this
  exact this
theorem be4 (p : Par w) (l : List (BitVec w)) (hl : l.length = 16) (t : Nat) : W p l (t + 16) = W p l t + lo p.a (W p l (t + 1)) + W p l (t + 9) + lo p.b (W p l (t + 14)) := by
 have e := bhe p l (by omega) (t + 1) (t + 16) (by omega)
 rw [← e]
 simp only [sched]
 have hlen := aoe p l t
 rw [List.getD_eq_getElem?_getD, List.getElem?_append_right (by rw [hlen]; omega), hlen, show t + 16 - (l.length + t) = 0 by omega]
 simp only [List.getElem?_cons_zero, Option.getD_some]
 unfold bie
 rw [hlen, show l.length + t - 2 = t + 14 by omega, show l.length + t - 7 = t + 9 by omega, show l.length + t - 15 = t + 1 by omega, show l.length + t - 16 = t by omega,
  bhe p l (by omega) t _ (by omega), bhe p l (by omega) t _ (by omega), bhe p l (by omega) t _ (by omega), bhe p l (by omega) t _ (by omega)]
 ac_rfl
def runs (p : Par w) (l : List (BitVec w)) (v : List (BitVec w)) : Nat → List (BitVec w)
 | 0 => v
 | t + 1 => rnd p t (W p l t) (runs p l v t)
theorem amq (p : Par w) (l v : List (BitVec w)) (hv : v.length = 8) : ∀ t, (runs p l v t).length = 8
 | 0 => hv
 | t + 1 => rfl
def be9 (p : Par w) (l v : List (BitVec w)) : List (BitVec w) := (List.range 8).map fun i => (runs p l v p.rounds).getD i 0 + v.getD i 0
def aa9 (w : Nat) (b : List Int) (n : Nat) : List (BitVec w) := (List.range n).map fun t => BitVec.ofNat w (T 8 ((b.take ((t + 1) * (w / 8))).drop (t * (w / 8))).reverse)
def au7 (p : Par w) (v : List (BitVec w)) (b : List Int) : List (BitVec w) := be9 p (aa9 w b 16) v
theorem ay3 (p : Par w) (v : List (BitVec w)) (b : List Int) : (au7 p v b).length = 8 := by simp [au7, be9]
theorem aor (b : List Int) (n : Nat) : aa9 w b (n + 1) = aa9 w b n ++ [BitVec.ofNat w (T 8 ((b.take ((n + 1) * (w / 8))).drop (n * (w / 8))).reverse)] := by simp [aa9, List.range_succ]
theorem zh (b : List Int) (n : Nat) : (aa9 w b n).length = n := by simp [aa9]
def win (p : Par w) (l : List (BitVec w)) (t : Nat) : List (BitVec w) := (List.range 16).map fun j => W p l (t + (j + 16 - t % 16) % 16)
theorem al2 (p : Par w) (l : List (BitVec w)) (t i : Nat) (hi : i < 16) : (win p l t).getD ((t + i) % 16) 0 = W p l (t + i) := by
 unfold win
 rw [getD_lt (by simp; omega)]
 simp only [List.getElem_map, List.getElem_range]
 congr 1
 omega
theorem aw6 (p : Par w) (l : List (BitVec w)) (t : Nat) : (win p l t).set (t % 16) (W p l (t + 16)) = win p l (t + 1) := by
 unfold win
 refine List.ext_getElem (by simp) (fun j h1 h2 => ?_)
 simp only [List.length_map, List.length_range] at h2
 rw [List.getElem_set]
 by_cases h : t % 16 = j
 ·rw [if_pos h]
  simp only [List.getElem_map, List.getElem_range]
  congr 1
  omega
 ·rw [if_neg h]
  simp only [List.getElem_map, List.getElem_range]
  congr 1
  omega
theorem win_zero (p : Par w) (b : List Int) : win p (aa9 w b 16) 0 = aa9 w b 16 := by
 unfold win
 refine List.ext_getElem (by simp [aa9]) (fun j h1 h2 => ?_)
 rw [zh] at h2
 simp only [List.getElem_map, List.getElem_range]
 rw [show 0 + (j + 16 - 0 % 16) % 16 = j by omega, ← bhe p _ (by rw [zh]; omega) 0 j (by rw [zh]; omega)]
 exact getD_lt (by rw [show sched p (aa9 w b 16) 0 = aa9 w b 16 from rfl, zh]; exact h2)
end
theorem awc : ∀ x, x ∈ P.roots256 → 0 ≤ x ∧ x < 4294967296 := by decide +kernel
theorem avn : ∀ x, x ∈ P.roots512 → 0 ≤ x ∧ x < 18446744073709551616 := by decide +kernel
def p32 : Par 32 := ⟨64, (7, 18, 3), (17, 19, 10), (2, 13, 22), (6, 11, 25), fun t => BitVec.ofInt 32 (P.roots256.getD t 0)⟩
def p64 : Par 64 := ⟨80, (1, 8, 7), (19, 61, 6), (28, 34, 39), (14, 18, 41), fun t => BitVec.ofInt 64 (P.roots512.getD t 0)⟩
theorem K32 (t : Nat) : P.roots256.getD t 0 = ((p32.K t).toNat : Int) := by
 have := In.getD (m := 4294967296) awc t (by omega)
 simp only [p32, BitVec.toNat_ofInt]
 omega
theorem K64 (t : Nat) : P.roots512.getD t 0 = ((p64.K t).toNat : Int) := by
 have := In.getD (m := 18446744073709551616) avn t (by omega)
 simp only [p64, BitVec.toNat_ofInt]
 omega
end Q
end

section
/- bits: Unpack, as the document has it. -/
namespace Q
open Go Go.Abs
set_option linter.unusedVariables false
set_option linter.unusedSimpArgs false
end Q
end

section
/- bits: Digits. -/
namespace Q
open Go Go.Abs
set_option linter.unusedVariables false
set_option linter.unusedSimpArgs false
def dg (w L N : Nat) (i : Nat) : Int := ((N / 2 ^ (8 * L - w * (i + 1)) % 2 ^ w : Nat) : Int)
def xw (b : List Int) (w c : Int) : List Int := if Such b.length w c then (List.range c.toNat).map (dg w.toNat b.length (T 8 b.reverse)) else []
theorem bd5 (b : List Int) (t : Nat) (h : t ≤ b.length) : T 8 (b.take t).reverse = T 8 b.reverse / 2 ^ (8 * (b.length - t)) := by
 rw [List.reverse_take, aza 8 _ _ (by simp)]
theorem axk (b : List Int) (t : Nat) (h : t < b.length) : T 8 (b.take (t + 1)).reverse = (b.getD t 0).toNat % 2 ^ 8 + 256 * T 8 (b.take t).reverse := by
 rw [← aju b 0 t h, List.reverse_append, List.reverse_singleton, List.singleton_append, T]
theorem qd (b : List Int) (w c : Int) (hb : In 256 b) (hn : b.length ≤ 1000000) {ρ : Type} (k : List Int → Option ρ) : P.qd b w c k = k (xw b w c) := by
 rw [P.ah1]
 unfold P.ad4
 rw [aaf b w c hn, su]
 unfold xw
 by_cases hs : Such b.length w c
 rotate_left
 ·rw [decide_eq_false hs, adu, if_neg hs]
 rw [decide_eq_true hs, abd, if_pos hs]
 obtain ⟨h1, h2, h3, h4⟩ := hs
 obtain ⟨w, rfl⟩ := Int.eq_ofNat_of_zero_le (show 0 ≤ w by omega)
 obtain ⟨c, rfl⟩ := Int.eq_ofNat_of_zero_le h3
 have h4 : c * w ≤ b.length * 8 := by exact_mod_cast h4
 have hc : c ≤ c * w := Nat.le_mul_of_pos_right c (by omega)
 simp only [toNat_cast, List.length_replicate]
 simp (disch := omega) only [au, dx, jr, dh, dw, bn, su, abd, adu, aag]
 rw [P.alc]
 unfold P.ah0 P.bks P.bi8 P.bml
 refine ac9 (fun i => (b.drop (wu (w * i)), (w : Int), ((T 8 (b.take (wu (w * i))).reverse % 2 ^ 64 : Nat) : Int), ((8 * wu (w * i) - w * i : Nat) : Int), (c : Int), (i : Int), ((List.range i).map (dg w b.length (T 8 b.reverse))) ++ List.replicate (c - i) 0)) c (by simp [wu, T, bsw]) (fun i hi next hn' => ?_) (fun next => ?_) (by omega)
 ·have hwi : w * (i + 1) = w * i + w := Nat.mul_succ w i
  have hwc : w * (i + 1) ≤ b.length * 8 := Nat.le_trans (Nat.mul_le_mul (Nat.le_refl w) hi) (by rw [Nat.mul_comm]; exact h4)
  have c1 := ax6 (w * i)
  have c2 := axa (w * i)
  have c3 := ax6 (w * (i + 1))
  have c4 := axa (w * (i + 1))
  have c5 : wu (w * i) ≤ wu (w * (i + 1)) := by unfold wu; omega
  simp only [P.afl]
  rw [au (by omega), P.ala]
  unfold P.ah9 P.bkb P.bji P.bmq
  refine ac9 (fun j => (b.drop (wu (w * i) + j), (w : Int), ((T 8 (b.take (wu (w * i) + j)).reverse % 2 ^ 64 : Nat) : Int), ((8 * (wu (w * i) + j) - w * i : Nat) : Int), (i : Int), (c : Int), (i : Int), ((List.range i).map (dg w b.length (T 8 b.reverse))) ++ List.replicate (c - i) 0)) (wu (w * (i + 1)) - wu (w * i)) rfl (fun j hj next2 hn2 => ?_) (fun next2 => ?_) (by omega)
  ·have ht : wu (w * i) + j < b.length := by omega
   obtain ⟨x, hx, hx2, hx3⟩ := byte_at hb (wu (w * i) + j)
   have est := axk b (wu (w * i) + j) ht
   rw [← hx3] at est
   simp only [P.afn, List.length_drop, toNat_cast]
   rw [List.take_of_length_le (l := b.drop (wu (w * i) + j)) (by simp), List.drop_drop]
   have e0 : (b.drop (wu (w * i) + j)).getD 0 0 = (x : Int) := by
    rw [← hx, aed b 0 _ ht]; rfl
   have e1 : IntKind.u64.wrap (((T 8 (b.take (wu (w * i) + j)).reverse % 2 ^ 64 : Nat) : Int) * 2 ^ 8) = ((T 8 (b.take (wu (w * i) + j)).reverse % 2 ^ 56 * 2 ^ 8 : Nat) : Int) := by
    rw [bhk]; omega
   rw [e0, e1, agr x (by omega), be3 _ _ (by omega) (by omega), ayf _ _ _ (by omega)]
   simp (disch := omega) only [au, dx, jr, dh, dw, bn, su, abd, adu, aag]
   rw [Nat.add_assoc, show ((8 * (wu (w * i) + j) - w * i : Nat) : Int) + 8 = ((8 * (wu (w * i) + (j + 1)) - w * i : Nat) : Int) by omega,
    show T 8 (b.take (wu (w * i) + j)).reverse % 2 ^ 56 * 2 ^ 8 + x = T 8 (b.take (wu (w * i) + (j + 1))).reverse % 2 ^ 64 by rw [← Nat.add_assoc, est]; omega]
   exact hn2
  ·have et : wu (w * i) + (wu (w * (i + 1)) - wu (w * i)) = wu (w * (i + 1)) := by omega
   simp only [P.afn, toNat_cast]
   rw [et, dx (by omega), show ((8 * wu (w * (i + 1)) - w * i : Nat) : Int) - (w : Int) = ((8 * wu (w * (i + 1)) - w * (i + 1) : Nat) : Int) by omega,
    aag (x := ((8 * wu (w * (i + 1)) - w * (i + 1) : Nat) : Int)) (by omega) (by omega)]
   simp only [toNat_cast]
   have hq : T 8 (b.take (wu (w * (i + 1)))).reverse % 2 ^ 64 / 2 ^ (8 * wu (w * (i + 1)) - w * (i + 1)) < 18446744073709551616 := by
    have := Nat.div_le_self (T 8 (b.take (wu (w * (i + 1)))).reverse % 2 ^ 64) (2 ^ (8 * wu (w * (i + 1)) - w * (i + 1)))
    omega
   rw [fdiv_pow _ _ 64 (by omega), ay4 _ w hq (by omega), atr _ _ _ _ (by omega)]
   have hw2 : 2 ^ w ≤ 2 ^ 24 := bdv (by omega)
   have hmod := Nat.mod_lt (T 8 (b.take (wu (w * (i + 1)))).reverse / 2 ^ (8 * wu (w * (i + 1)) - w * (i + 1))) (p2 w)
   rw [bcn _ (by omega)]
   have ed : ((T 8 (b.take (wu (w * (i + 1)))).reverse / 2 ^ (8 * wu (w * (i + 1)) - w * (i + 1)) % 2 ^ w : Nat) : Int) = dg w b.length (T 8 b.reverse) i := by
    unfold dg
    rw [bd5 b _ (by omega), Nat.div_div_eq_div_mul, ← Nat.pow_add]
    congr 4; omega
   rw [ed]
   simp only [List.length_append, List.length_map, List.length_range, List.length_replicate]
   simp (disch := omega) only [au, dx, jr, dh, dw, bn, su, abd, adu, aag]
   rw [bbn _ _ _ hi]
   exact hn'
 ·simp only [P.afl]
  rw [dx (by omega), Nat.sub_self]
  simp
end Q
end

section
/- bits: numbers as bytes and back. -/
namespace Q
open Go Go.Abs
set_option linter.unusedVariables false
set_option linter.unusedSimpArgs false
theorem bds (w n m X : Nat) (hm : m ≤ n) (hX : X < 2 ^ (w * m)) : bsw w m X ++ List.replicate (n - m) 0 = bsw w n X := by
 refine List.ext_getElem (by simp; omega) (fun i h1 h2 => ?_)
 have hi : i < n := by simpa using h2
 rw [← getD_lt (d := 0) h2, axn _ _ _ _ hi]
 by_cases him : i < m
 ·rw [List.getElem_append_left (by simpa using him), ← getD_lt (d := 0), axn _ _ _ _ him]
 ·rw [List.getElem_append_right (by simp; omega), List.getElem_replicate, Nat.div_eq_of_lt]
  ·rfl
  ·exact Nat.lt_of_lt_of_le hX (bdv (Nat.mul_le_mul (Nat.le_refl _) (by omega)))
theorem acs (N s : Nat) (hN : N < 18446744073709551616) (hs : s ≤ 65536) {ρ : Type} (k : List Int → Option ρ) : P.acs (N : Int) (s : Int) k = k (bsw 8 s N) := by
 rw [P.apk]
 unfold P.air
 have em : (bif decide ((8 : Int) < (s : Int)) then (8 : Int) else (s : Int)) = ((min s 8 : Nat) : Int) := by
  by_cases h : (8 : Int) < (s : Int)
  ·rw [decide_eq_true h]; simp only [cond_true]; omega
  ·rw [decide_eq_false h]; simp only [cond_false]; omega
 simp only [toNat_cast]
 rw [em]
 simp (disch := omega) only [au, dx, jr, dh, dw, bn, su, abd, adu, aag]
 rw [P.aq3]
 unfold P.aql P.zk4 P.zs4 P.zu4
 refine ac9 (fun i => ((N : Int), ((min s 8 : Nat) : Int), (i : Int), bsw 8 i N ++ List.replicate (s - i) 0)) (min s 8) (by simp [bsw]) (fun i hi next hn' => ?_) (fun next => ?_) (by omega)
 ·simp only [P.aks, List.length_append, abr, List.length_replicate, toNat_cast]
  rw [show (8 : Int) * (i : Int) = ((8 * i : Nat) : Int) by omega, aag (x := ((8 * i : Nat) : Int)) (by omega) (by omega)]
  simp only [toNat_cast]
  rw [fdiv_pow N _ 64 (by omega), u8m]
  simp (disch := omega) only [au, dx, jr, dh, dw, bn, su, abd, adu, aag]
  rw [List.set_append_right _ _ (by simp), abr, Nat.sub_self, show s - i = (s - (i + 1)) + 1 by omega, List.replicate_succ, List.set_cons_zero]
  rw [ar4, List.append_assoc, List.singleton_append] at hn'
  exact hn'
 ·simp only [P.aks]
  rw [dx (by omega)]
  by_cases h : s ≤ 8
  ·rw [Nat.min_eq_left h, Nat.sub_self]; simp
  ·rw [Nat.min_eq_right (by omega), bds 8 s 8 N (by omega) (by omega)]
theorem baf {f : Nat → Int} (n q : Nat) (v : Int) : ((List.range n).map f).set q v = (List.range n).map (fun j => if j = q then v else f j) := by
 refine List.ext_getElem (by simp) (fun i h1 h2 => ?_)
 simp only [List.getElem_set, List.getElem_map, List.getElem_range]
 by_cases h : q = i
 ·rw [if_pos h, if_pos h.symm]
 ·rw [if_neg h, if_neg (fun e => h e.symm)]
theorem aw5 {f : Nat → Int} (n q : Nat) (h : q < n) : ((List.range n).map f).getD q 0 = f q := by
 rw [getD_lt (by simpa using h)]; simp
theorem bdb (l : List Int) : l = (List.range l.length).map (fun j => l.getD j 0) := by
 refine List.ext_getElem (by simp) (fun i h1 h2 => ?_)
 simp only [List.getElem_map, List.getElem_range]
 rw [getD_lt h1]
theorem jg (N s : Nat) (hN : N < 18446744073709551616) (hs : s ≤ 65536) {ρ : Type} (k : List Int → Option ρ) : P.jg (N : Int) (s : Int) k = k (bsw 8 s N).reverse := by
 rw [P.aqg]
 unfold P.ai2
 rw [acs N s hN hs, P.aoi]
 unfold P.al4 P.zk5 P.zs5 P.zu5
 simp only [abr]
 rw [aag (by omega) (by omega)]
 have hfin : (bsw 8 s N).reverse = (List.range s).map (fun q => (bsw 8 s N).getD (s - 1 - q) 0) := by
  refine List.ext_getElem (by simp) (fun i h1 h2 => ?_)
  have hi : i < s := by simpa using h2
  rw [List.getElem_reverse, List.getElem_map, List.getElem_range, getD_lt (by simp; omega)]
  congr 1; simp
 have h0 : bsw 8 s N = (List.range s).map (fun q => if q < 0 ∨ s - 0 ≤ q then (bsw 8 s N).getD (s - 1 - q) 0 else (bsw 8 s N).getD q 0) := by
  have e := bdb (bsw 8 s N)
  rw [abr] at e
  refine e.trans (List.map_congr_left (fun q hq => ?_))
  have := List.mem_range.1 hq
  rw [if_neg (by omega)]
 generalize bsw 8 s N = l at h0 hfin
 refine ac9 (fun i => ((i : Int), (s : Int) - 1 - (i : Int), (List.range s).map (fun q => if q < i ∨ s - i ≤ q then l.getD (s - 1 - q) 0 else l.getD q 0))) (s / 2) (by rw [← h0]; simp) (fun i hi next hn' => ?_) (fun next => ?_) (by omega)
 ·simp only [P.ag8, List.length_map, List.length_range, List.length_set]
  rw [show (s : Int) - 1 - (i : Int) = ((s - 1 - i : Nat) : Int) by omega]
  simp only [toNat_cast]
  rw [aw5 _ _ (by omega), aw5 _ _ (by omega), if_neg (by omega), if_neg (by omega), baf, baf]
  have e : (List.range s).map (fun q => if q < i + 1 ∨ s - (i + 1) ≤ q then l.getD (s - 1 - q) 0 else l.getD q 0) = (List.range s).map (fun j => if j = s - 1 - i then l.getD i 0 else if j = i then l.getD (s - 1 - i) 0 else if j < i ∨ s - i ≤ j then l.getD (s - 1 - j) 0 else l.getD j 0) := by
   refine List.map_congr_left (fun q hq => ?_)
   have := List.mem_range.1 hq
   by_cases a1 : q = s - 1 - i
   ·subst a1; rw [if_pos (by omega), if_pos rfl]; congr 1; omega
   ·rw [if_neg a1]
    by_cases a2 : q = i
    ·subst a2; rw [if_pos (by omega), if_pos rfl]
    ·rw [if_neg a2]
     by_cases a3 : q < i ∨ s - i ≤ q
     ·rw [if_pos (by omega), if_pos a3]
     ·rw [if_neg (by omega), if_neg a3]
  rw [e] at hn'
  simp (disch := omega) only [au, dx, jr, dh, dw, bn, su, abd, adu, aag]
  rw [show ((s - 1 - i : Nat) : Int) - 1 = (s : Int) - 1 - ((i + 1 : Nat) : Int) by omega]
  exact hn'
 ·simp only [P.ag8]
  rw [dx (by omega), hfin]
  congr 1
  refine List.map_congr_left (fun q hq => ?_)
  have := List.mem_range.1 hq
  by_cases a3 : q < s / 2 ∨ s - s / 2 ≤ q
  ·rw [if_pos a3]
  ·rw [if_neg a3]; congr 1; omega
theorem jl (b : List Int) (hb : In 256 b) (hn : b.length ≤ 1000000) {ρ : Type} (k : Int → Option ρ) : P.jl b k = k ((T 8 b.reverse % 2 ^ 64 : Nat) : Int) := by
 rw [P.an0]
 unfold P.ahb
 rw [P.ao9]
 unfold P.anm P.zk6 P.zs6 P.zu6
 refine ac9 (fun i => (((T 8 (b.take i).reverse % 2 ^ 64 : Nat) : Int), b, (b.length : Int), (i : Int))) b.length (by simp [T]) (fun i hi next hn' => ?_) (fun next => ?_) (by omega)
 ·obtain ⟨x, hx, hx2, hx3⟩ := byte_at hb i
  have est := axk b i hi
  rw [← hx3] at est
  simp only [P.ai7, toNat_cast]
  have e1 : IntKind.u64.wrap (((T 8 (b.take i).reverse % 2 ^ 64 : Nat) : Int) * 2 ^ 8) = ((T 8 (b.take i).reverse % 2 ^ 56 * 2 ^ 8 : Nat) : Int) := by
   rw [bhk]; omega
  rw [hx, e1, agr x (by omega), be3 _ _ (by omega) (by omega), ayf _ _ _ (by omega),
   show T 8 (b.take i).reverse % 2 ^ 56 * 2 ^ 8 + x = T 8 (b.take (i + 1)).reverse % 2 ^ 64 by rw [est]; omega]
  simp (disch := omega) only [au, dx, jr, dh, dw, bn, su, abd, adu, aag]
  exact hn'
 ·simp only [P.ai7]
  rw [dx (by omega), List.take_length]
end Q
end

section
/- SHA-2: the program's engine of 32 bits. -/
namespace Q
open Go Go.Abs
set_option linter.unusedVariables false
set_option linter.unusedSimpArgs false
theorem afg (rd : Int) (t0 t1 t2 t3 : List Int) (x : BitVec 32) (m : Int) (n : Nat) (hm : m = (n : Int)) (hn : n ≤ 32) {ρ : Type} (k : Int → Option ρ) :
    P.ak 32 rd t0 t1 t2 t3 (x.toNat : Int) m k = k ((rr x n).toNat : Int) := by
 subst hm
 rw [P.zx]
 unfold P.ru
 rw [dx (by omega), aag (by omega) (by omega), dx (by omega), show (32 : Int) - (n : Int) = ((32 - n : Nat) : Int) by omega]
 simp only [toNat_cast]
 rw [bf3 _ _ hn, bmn _ _ (by omega), boe]
 rfl
theorem ba5 (rd : Int) (x : BitVec 32) {ρ : Type} (k : Int → Option ρ) : P.ig 32 rd [7, 18, 3] [17, 19, 10] [2, 13, 22] [6, 11, 25] (x.toNat : Int) 3 k = k ((hi p32.d x).toNat : Int) := by
 rw [P.wm]
 unfold P.pz
 simp only [List.getD_cons_zero, List.getD_cons_succ]
 rw [dx (by decide), dx (by decide), dx (by decide), au (by decide), afg _ _ _ _ _ _ _ 6 (by rfl) (by omega), afg _ _ _ _ _ _ _ 11 (by rfl) (by omega), afg _ _ _ _ _ _ _ 25 (by rfl) (by omega), aq5, aq5]
 rfl
theorem bbt (rd : Int) (x : BitVec 32) {ρ : Type} (k : Int → Option ρ) : P.ig 32 rd [7, 18, 3] [17, 19, 10] [2, 13, 22] [6, 11, 25] (x.toNat : Int) 2 k = k ((hi p32.c x).toNat : Int) := by
 rw [P.wm]
 unfold P.pz
 simp only [List.getD_cons_zero, List.getD_cons_succ]
 rw [dx (by decide), dx (by decide), au (by decide), afg _ _ _ _ _ _ _ 2 (by rfl) (by omega), afg _ _ _ _ _ _ _ 13 (by rfl) (by omega), afg _ _ _ _ _ _ _ 22 (by rfl) (by omega), aq5, aq5]
 rfl
theorem bed (rd : Int) (x : BitVec 32) {ρ : Type} (k : Int → Option ρ) : P.jd 32 rd [7, 18, 3] [17, 19, 10] [2, 13, 22] [6, 11, 25] (x.toNat : Int) 0 k = k ((lo p32.a x).toNat : Int) := by
 rw [P.xk]
 unfold P.ql
 simp only [List.getD_cons_zero, List.getD_cons_succ]
 rw [au (by decide), afg _ _ _ _ _ _ _ 7 (by rfl) (by omega), afg _ _ _ _ _ _ _ 18 (by rfl) (by omega), dx (by decide), aq5, show (3 : Int).toNat = 3 from rfl, bf3 _ _ (by omega), aq5]
 rfl
theorem bdd (rd : Int) (x : BitVec 32) {ρ : Type} (k : Int → Option ρ) : P.jd 32 rd [7, 18, 3] [17, 19, 10] [2, 13, 22] [6, 11, 25] (x.toNat : Int) 1 k = k ((lo p32.b x).toNat : Int) := by
 rw [P.xk]
 unfold P.ql
 simp only [List.getD_cons_zero, List.getD_cons_succ]
 rw [dx (by decide), au (by decide), afg _ _ _ _ _ _ _ 17 (by rfl) (by omega), afg _ _ _ _ _ _ _ 19 (by rfl) (by omega), dx (by decide), aq5, show (10 : Int).toNat = 10 from rfl, bf3 _ _ (by omega), aq5]
 rfl
theorem bco (t : Nat) (h : t < 64) {ρ : Type} (k : Int → Option ρ) : P.lq (t : Int) k = k ((p32.K t).toNat : Int) := by
 rw [P.ah3]
 unfold P.ael
 rw [au (by omega), au (by omega), toNat_cast, K32]
theorem v8 {w : Nat} (v : List (BitVec w)) (hv : v.length = 8) : v = [v.getD 0 0, v.getD 1 0, v.getD 2 0, v.getD 3 0, v.getD 4 0, v.getD 5 0, v.getD 6 0, v.getD 7 0] := by
 match v, hv with
 | [a, b, c, d, e, f, g, h], _ => rfl
theorem boh (t : Nat) : ((t : Nat) : Int).tmod 16 = ((t % 16 : Nat) : Int) := by
 rw [Int.tmod_eq_emod_of_nonneg (by omega)]; rfl
theorem biu (b : List Int) (hb : In 256 b) (hl : b.length = 16 * 4) (rd : Int) (t0 t1 t2 t3 h1 h2 : List Int) {ρ : Type} (k0 : List Int → Int → Int → Int → Int → List Int → List Int → List Int → List Int → List Int → List Int → List Int → Option ρ) :
    P.uw b 4 0 32 rd t0 t1 t2 t3 h1 h2 (List.replicate 16 0) k0 = k0 b 4 16 32 rd t0 t1 t2 t3 h1 h2 (cv (aa9 32 b 16)) := by
 rw [P.ado]
 unfold P.aa4 P.zk8 P.zs8 P.zu8
 refine ac9 (fun i => (b, 4, (i : Int), 32, rd, t0, t1, t2, t3, h1, h2, cv (aa9 32 b i) ++ List.replicate (16 - i) 0)) 16 (by simp [aa9, cv]) (fun i hi next hn' => ?_) (fun next => ?_) (by omega)
 ·simp only [P.u7, toNat_cast]
  have e1 : IntKind.i64.wrap ((i : Int) * 4) = ((i * 4 : Nat) : Int) := by rw [aag (by omega) (by omega)]; omega
  have e2 : IntKind.i64.wrap (IntKind.i64.wrap ((i : Int) + 1) * 4) = (((i + 1) * 4 : Nat) : Int) := by rw [aag (x := (i : Int) + 1) (by omega) (by omega), aag (by omega) (by omega)]; omega
  rw [e1, e2]
  simp only [toNat_cast]
  have hlen : ((b.take ((i + 1) * 4)).drop (i * 4)).length = 4 := by simp; omega
  rw [au (by omega), au (by omega), au (by omega), au (by omega), jl _ ((hb.take _).drop _) (by omega), au (by omega), au (by omega)]
  have e3 : IntKind.u32.wrap ((T 8 ((b.take ((i + 1) * 4)).drop (i * 4)).reverse % 2 ^ 64 : Nat) : Int) = (((BitVec.ofNat 32 (T 8 ((b.take ((i + 1) * 4)).drop (i * 4)).reverse)).toNat : Nat) : Int) := by
   rw [bir, BitVec.toNat_ofNat]; omega
  have e4 : IntKind.i64.wrap ((i : Int) + 1) = ((i + 1 : Nat) : Int) := by rw [aag (by omega) (by omega)]; omega
  rw [e3, e4]
  have e5 : (cv (aa9 32 b i) ++ List.replicate (16 - i) (0 : Int)).set i (((BitVec.ofNat 32 (T 8 ((b.take ((i + 1) * 4)).drop (i * 4)).reverse)).toNat : Nat) : Int) = cv (aa9 32 b (i + 1)) ++ List.replicate (16 - (i + 1)) 0 := by
   rw [List.set_append_right _ _ (by simp [zh]), aar, zh, Nat.sub_self, show 16 - i = (16 - (i + 1)) + 1 by omega, List.replicate_succ, List.set_cons_zero, aor, ← ajz, List.append_assoc]
   rfl
  rw [e5]
  exact hn'
 ·simp only [P.u7]
  rw [dx (by omega)]
  simp
theorem bgb (l v : List (BitVec 32)) (hv : v.length = 8) (h2 h1 : List Int) {ρ : Type} (k0 : Int → Int → List Int → List Int → List Int → Int → Int → List Int → List Int → List Int → List Int → List Int → Option ρ) (hl : l.length = 16) :
    P.ou 64 0 (cv (win p32 l 0)) h2 h1 32 64 [7, 18, 3] [17, 19, 10] [2, 13, 22] [6, 11, 25] (cv v) k0 =
     k0 64 64 (cv (win p32 l 64)) h2 h1 32 64 [7, 18, 3] [17, 19, 10] [2, 13, 22] [6, 11, 25] (cv (runs p32 l v 64)) := by
 rw [P.ac8]
 unfold P.aaq P.zk9 P.zs9 P.zu9
 refine ac9 (fun t => (64, (t : Int), cv (win p32 l t), h2, h1, 32, 64, [7, 18, 3], [17, 19, 10], [2, 13, 22], [6, 11, 25], cv (runs p32 l v t))) 64 rfl (fun t ht next hn' => ?_) (fun next => ?_) (by omega)
 ·simp only [P.sj]
  have e1 : IntKind.i64.wrap ((t : Int) + 1) = ((t + 1 : Nat) : Int) := by rw [aag (by omega) (by omega)]; omega
  have e9 : IntKind.i64.wrap ((t : Int) + 9) = ((t + 9 : Nat) : Int) := by rw [aag (by omega) (by omega)]; omega
  have e14 : IntKind.i64.wrap ((t : Int) + 14) = ((t + 14 : Nat) : Int) := by rw [aag (by omega) (by omega)]; omega
  simp only [e1, e9, e14, boh, toNat_cast, alj]
  have g0 := al2 p32 l t 0 (by omega)
  rw [Nat.add_zero] at g0
  rw [g0, al2 p32 l t 1 (by omega), al2 p32 l t 9 (by omega), al2 p32 l t 14 (by omega)]
  have hV := v8 _ (amq p32 l v hv t)
  rw [au (by omega), au (by omega), au (by omega), ba5, bco t ht, bbt, au (by omega), au (by omega), bed, au (by omega), au (by omega), au (by omega), au (by omega), bdd, au (by omega), au (by omega)]
  simp only [add32, aq5, bmz, boe]
  rw [← be4 p32 l hl t, aw8, aw6]
  have hr : cv (runs p32 l v (t + 1)) = (((List.take 1 (cv (runs p32 l v t))).append (List.take 7 (List.take 7 (List.drop 0 (cv (runs p32 l v t)))) ++ List.drop (1 + min 7 (List.take 7 (List.drop 0 (cv (runs p32 l v t)))).length) (cv (runs p32 l v t)))).set 4
      (((runs p32 l v t).getD 3 0 + bhc p32 t (W p32 l t) (runs p32 l v t)).toNat : Int)).set 0 ((bhc p32 t (W p32 l t) (runs p32 l v t) + bnm p32 (runs p32 l v t)).toNat : Int) := by
   rw [hV]
   rfl
  have h3 : ((List.take 1 (cv (runs p32 l v t))).append (List.take 7 (List.take 7 (List.drop 0 (cv (runs p32 l v t)))) ++ List.drop (1 + min 7 (List.take 7 (List.drop 0 (cv (runs p32 l v t)))).length) (cv (runs p32 l v t)))).getD 4 0 = (((runs p32 l v t).getD 3 0).toNat : Int) := by
   rw [hV]
   rfl
  rw [h3, add32]
  rw [hr] at hn'
  exact hn'
 ·simp only [P.sj]
  rw [dx (by omega)]
  rfl
theorem bgi (v u : List (BitVec 32)) (hv : v.length = 8) (hu : u.length = 8) (h2 : List Int) {ρ : Type} (k0 : Int → List Int → List Int → List Int → Option ρ) :
    P.o8 0 (cv v) h2 (cv u) k0 = k0 8 (cv v) h2 (cv ((List.range 8).map fun i => u.getD i 0 + v.getD i 0)) := by
 rw [P.ac3]
 unfold P.aap P.bkq P.bhm P.bmg
 have hs : ∀ i, i ≤ 8 → (((List.range i).map fun i => u.getD i 0 + v.getD i 0) ++ u.drop i).length = 8 := fun i hi => by simp; omega
 refine ac9 (fun i => ((i : Int), cv v, h2, cv (((List.range i).map fun i => u.getD i 0 + v.getD i 0) ++ u.drop i))) 8 (by simp) (fun i hi next hn' => ?_) (fun next => ?_) (by omega)
 ·simp only [P.tu, toNat_cast, alj]
  have e1 : IntKind.i64.wrap ((i : Int) + 1) = ((i + 1 : Nat) : Int) := by rw [aag (by omega) (by omega)]; omega
  have e2 : (((List.range i).map fun i => u.getD i 0 + v.getD i 0) ++ u.drop i).getD i 0 = u.getD i 0 := by
   rw [List.getD_eq_getElem?_getD, List.getElem?_append_right (by simp), List.getElem?_drop, List.length_map, List.length_range, List.getD_eq_getElem?_getD]
   congr 2
   omega
  rw [e1, e2, add32, aw8]
  have e3 : (((List.range i).map fun i => u.getD i 0 + v.getD i 0) ++ u.drop i).set i (u.getD i 0 + v.getD i 0) = ((List.range (i + 1)).map fun i => u.getD i 0 + v.getD i 0) ++ u.drop (i + 1) := by
   rw [List.set_append_right _ _ (by simp), List.length_map, List.length_range, Nat.sub_self, List.range_succ, List.map_append, List.append_assoc, List.drop_eq_getElem_cons (by omega), List.set_cons_zero]
   rfl
  rw [e3]
  simp (disch := omega) only [au, dx, jr, dh, dw, bn, su, abd, adu, aag]
  exact hn'
 ·simp only [P.tu]
  rw [dx (by omega), List.drop_eq_nil_of_le (by omega), List.append_nil]
  rfl
theorem bbg (v : List (BitVec 32)) (hv : v.length = 8) (b : List Int) (hb : In 256 b) (hl : b.length = 16 * 4) {ρ : Type} (k : List Int → Option ρ) :
    P.jo 32 64 [7, 18, 3] [17, 19, 10] [2, 13, 22] [6, 11, 25] (cv v) b k = k (cv (au7 p32 v b)) := by
 rw [P.aa5]
 unfold P.uo
 rw [show IntKind.i64.wrap ((32 : Int).tdiv 8) = 4 from rfl]
 have := biu b hb hl 64 [7, 18, 3] [17, 19, 10] [2, 13, 22] [6, 11, 25] (cv v) (List.replicate 8 0) (fun (q0 : List Int) (q1 q2 q3 q4 : Int) (q5 q6 q7 q8 q9 q10 q11 : List Int) =>
  P.ou q4 (0 : Int) q11 q10 q9 q3 q4 q5 q6 q7 q8 q9
   fun (q12 q13 : Int) (q14 q15 q16 : List Int) (q17 q18 : Int) (q19 q20 q21 q22 q23 : List Int) =>
   P.o8 (0 : Int) q16 q15 q23 fun (q24 : Int) (q25 q26 q27 : List Int) => k q27)
 refine this.trans ?_
 rw [← win_zero p32, bgb _ v hv _ _ _ (zh b 16), bgi v _ hv (amq _ _ _ hv _)]
 rfl
end Q
end

section
/- SHA-2: the document's block of words of 32 bits. -/
namespace Q
open Go Go.Abs
set_option linter.unusedVariables false
set_option linter.unusedSimpArgs false
end Q
end

section
/- SHA-2: the program's engine of 64 bits. -/
namespace Q
open Go Go.Abs
set_option linter.unusedVariables false
set_option linter.unusedSimpArgs false
theorem afi (rd : Int) (t0 t1 t2 t3 : List Int) (x : BitVec 64) (m : Int) (n : Nat) (hm : m = (n : Int)) (hn : n ≤ 64) {ρ : Type} (k : Int → Option ρ) :
    P.aj 64 rd t0 t1 t2 t3 (x.toNat : Int) m k = k ((rr x n).toNat : Int) := by
 subst hm
 rw [P.zy]
 unfold P.qy
 rw [dx (by omega), aag (by omega) (by omega), dx (by omega), show (64 : Int) - (n : Int) = ((64 - n : Nat) : Int) by omega]
 simp only [toNat_cast]
 rw [bf1 _ _ hn, bmm _ _ (by omega), boz]
 rfl
theorem bap (rd : Int) (x : BitVec 64) {ρ : Type} (k : Int → Option ρ) : P.iq 64 rd [1, 8, 7] [19, 61, 6] [28, 34, 39] [14, 18, 41] (x.toNat : Int) 3 k = k ((hi p64.d x).toNat : Int) := by
 rw [P.wo]
 unfold P.p9
 simp only [List.getD_cons_zero, List.getD_cons_succ]
 rw [dx (by decide), dx (by decide), dx (by decide), au (by decide), afi _ _ _ _ _ _ _ 14 (by rfl) (by omega), afi _ _ _ _ _ _ _ 18 (by rfl) (by omega), afi _ _ _ _ _ _ _ 41 (by rfl) (by omega), apb, apb]
 rfl
theorem ba9 (rd : Int) (x : BitVec 64) {ρ : Type} (k : Int → Option ρ) : P.iq 64 rd [1, 8, 7] [19, 61, 6] [28, 34, 39] [14, 18, 41] (x.toNat : Int) 2 k = k ((hi p64.c x).toNat : Int) := by
 rw [P.wo]
 unfold P.p9
 simp only [List.getD_cons_zero, List.getD_cons_succ]
 rw [dx (by decide), dx (by decide), au (by decide), afi _ _ _ _ _ _ _ 28 (by rfl) (by omega), afi _ _ _ _ _ _ _ 34 (by rfl) (by omega), afi _ _ _ _ _ _ _ 39 (by rfl) (by omega), apb, apb]
 rfl
theorem bdu (rd : Int) (x : BitVec 64) {ρ : Type} (k : Int → Option ρ) : P.jc 64 rd [1, 8, 7] [19, 61, 6] [28, 34, 39] [14, 18, 41] (x.toNat : Int) 0 k = k ((lo p64.a x).toNat : Int) := by
 rw [P.yh]
 unfold P.qo
 simp only [List.getD_cons_zero, List.getD_cons_succ]
 rw [au (by decide), afi _ _ _ _ _ _ _ 1 (by rfl) (by omega), afi _ _ _ _ _ _ _ 8 (by rfl) (by omega), dx (by decide), apb, show (7 : Int).toNat = 7 from rfl, bf1 _ _ (by omega), apb]
 rfl
theorem bdz (rd : Int) (x : BitVec 64) {ρ : Type} (k : Int → Option ρ) : P.jc 64 rd [1, 8, 7] [19, 61, 6] [28, 34, 39] [14, 18, 41] (x.toNat : Int) 1 k = k ((lo p64.b x).toNat : Int) := by
 rw [P.yh]
 unfold P.qo
 simp only [List.getD_cons_zero, List.getD_cons_succ]
 rw [dx (by decide), au (by decide), afi _ _ _ _ _ _ _ 19 (by rfl) (by omega), afi _ _ _ _ _ _ _ 61 (by rfl) (by omega), dx (by decide), apb, show (6 : Int).toNat = 6 from rfl, bf1 _ _ (by omega), apb]
 rfl
theorem bd1 (t : Nat) (h : t < 80) {ρ : Type} (k : Int → Option ρ) : P.l7 (t : Int) k = k ((p64.K t).toNat : Int) := by
 rw [P.ah2]
 unfold P.ad3
 rw [au (by omega), au (by omega), toNat_cast, K64]
theorem bhp (b : List Int) (hb : In 256 b) (hl : b.length = 16 * 8) (rd : Int) (t0 t1 t2 t3 h1 h2 : List Int) {ρ : Type} (k0 : List Int → Int → Int → Int → Int → List Int → List Int → List Int → List Int → List Int → List Int → List Int → Option ρ) :
    P.u6 b 8 0 64 rd t0 t1 t2 t3 h1 h2 (List.replicate 16 0) k0 = k0 b 8 16 64 rd t0 t1 t2 t3 h1 h2 (cv (aa9 64 b 16)) := by
 rw [P.adi]
 unfold P.aa6 P.bj9 P.bi9 P.bm7
 refine ac9 (fun i => (b, 8, (i : Int), 64, rd, t0, t1, t2, t3, h1, h2, cv (aa9 64 b i) ++ List.replicate (16 - i) 0)) 16 (by simp [aa9, cv]) (fun i hi next hn' => ?_) (fun next => ?_) (by omega)
 ·simp only [P.uy, toNat_cast]
  have e1 : IntKind.i64.wrap ((i : Int) * 8) = ((i * 8 : Nat) : Int) := by rw [aag (by omega) (by omega)]; omega
  have e2 : IntKind.i64.wrap (IntKind.i64.wrap ((i : Int) + 1) * 8) = (((i + 1) * 8 : Nat) : Int) := by rw [aag (x := (i : Int) + 1) (by omega) (by omega), aag (by omega) (by omega)]; omega
  rw [e1, e2]
  simp only [toNat_cast]
  have hlen : ((b.take ((i + 1) * 8)).drop (i * 8)).length = 8 := by simp; omega
  rw [au (by omega), au (by omega), au (by omega), au (by omega), jl _ ((hb.take _).drop _) (by omega), au (by omega), au (by omega)]
  have e3 : ((T 8 ((b.take ((i + 1) * 8)).drop (i * 8)).reverse % 2 ^ 64 : Nat) : Int) = (((BitVec.ofNat 64 (T 8 ((b.take ((i + 1) * 8)).drop (i * 8)).reverse)).toNat : Nat) : Int) := by
   rw [BitVec.toNat_ofNat]
  have e4 : IntKind.i64.wrap ((i : Int) + 1) = ((i + 1 : Nat) : Int) := by rw [aag (by omega) (by omega)]; omega
  rw [e3, e4]
  have e5 : (cv (aa9 64 b i) ++ List.replicate (16 - i) (0 : Int)).set i (((BitVec.ofNat 64 (T 8 ((b.take ((i + 1) * 8)).drop (i * 8)).reverse)).toNat : Nat) : Int) = cv (aa9 64 b (i + 1)) ++ List.replicate (16 - (i + 1)) 0 := by
   rw [List.set_append_right _ _ (by simp [zh]), aar, zh, Nat.sub_self, show 16 - i = (16 - (i + 1)) + 1 by omega, List.replicate_succ, List.set_cons_zero, aor, ← ajz, List.append_assoc]
   rfl
  rw [e5]
  exact hn'
 ·simp only [P.uy]
  rw [dx (by omega)]
  simp
theorem bg4 (l v : List (BitVec 64)) (hv : v.length = 8) (h2 h1 : List Int) {ρ : Type} (k0 : Int → Int → List Int → List Int → List Int → Int → Int → List Int → List Int → List Int → List Int → List Int → Option ρ) (hl : l.length = 16) :
    P.ow 80 0 (cv (win p64 l 0)) h2 h1 64 80 [1, 8, 7] [19, 61, 6] [28, 34, 39] [14, 18, 41] (cv v) k0 =
     k0 80 80 (cv (win p64 l 80)) h2 h1 64 80 [1, 8, 7] [19, 61, 6] [28, 34, 39] [14, 18, 41] (cv (runs p64 l v 80)) := by
 rw [P.ac6]
 unfold P.aam P.bki P.bjt P.bnw
 refine ac9 (fun t => (80, (t : Int), cv (win p64 l t), h2, h1, 64, 80, [1, 8, 7], [19, 61, 6], [28, 34, 39], [14, 18, 41], cv (runs p64 l v t))) 80 rfl (fun t ht next hn' => ?_) (fun next => ?_) (by omega)
 ·simp only [P.ug]
  have e1 : IntKind.i64.wrap ((t : Int) + 1) = ((t + 1 : Nat) : Int) := by rw [aag (by omega) (by omega)]; omega
  have e9 : IntKind.i64.wrap ((t : Int) + 9) = ((t + 9 : Nat) : Int) := by rw [aag (by omega) (by omega)]; omega
  have e14 : IntKind.i64.wrap ((t : Int) + 14) = ((t + 14 : Nat) : Int) := by rw [aag (by omega) (by omega)]; omega
  simp only [e1, e9, e14, boh, toNat_cast, alj]
  have g0 := al2 p64 l t 0 (by omega)
  rw [Nat.add_zero] at g0
  rw [g0, al2 p64 l t 1 (by omega), al2 p64 l t 9 (by omega), al2 p64 l t 14 (by omega)]
  have hV := v8 _ (amq p64 l v hv t)
  rw [au (by omega), au (by omega), au (by omega), bap, bd1 t ht, ba9, au (by omega), au (by omega), bdu, au (by omega), au (by omega), au (by omega), au (by omega), bdz, au (by omega), au (by omega)]
  simp only [bgv, apb, blz, boz]
  rw [← be4 p64 l hl t, aw8, aw6]
  have hr : cv (runs p64 l v (t + 1)) = (((List.take 1 (cv (runs p64 l v t))).append (List.take 7 (List.take 7 (List.drop 0 (cv (runs p64 l v t)))) ++ List.drop (1 + min 7 (List.take 7 (List.drop 0 (cv (runs p64 l v t)))).length) (cv (runs p64 l v t)))).set 4
      (((runs p64 l v t).getD 3 0 + bhc p64 t (W p64 l t) (runs p64 l v t)).toNat : Int)).set 0 ((bhc p64 t (W p64 l t) (runs p64 l v t) + bnm p64 (runs p64 l v t)).toNat : Int) := by
   rw [hV]
   rfl
  have h3 : ((List.take 1 (cv (runs p64 l v t))).append (List.take 7 (List.take 7 (List.drop 0 (cv (runs p64 l v t)))) ++ List.drop (1 + min 7 (List.take 7 (List.drop 0 (cv (runs p64 l v t)))).length) (cv (runs p64 l v t)))).getD 4 0 = (((runs p64 l v t).getD 3 0).toNat : Int) := by
   rw [hV]
   rfl
  rw [h3, bgv]
  rw [hr] at hn'
  exact hn'
 ·simp only [P.ug]
  rw [dx (by omega)]
  rfl
theorem bff (v u : List (BitVec 64)) (hv : v.length = 8) (hu : u.length = 8) (h2 : List Int) {ρ : Type} (k0 : Int → List Int → List Int → List Int → Option ρ) :
    P.oo 0 (cv v) h2 (cv u) k0 = k0 8 (cv v) h2 (cv ((List.range 8).map fun i => u.getD i 0 + v.getD i 0)) := by
 rw [P.ada]
 unfold P.aai P.bkv P.bjm P.bky
 have hs : ∀ i, i ≤ 8 → (((List.range i).map fun i => u.getD i 0 + v.getD i 0) ++ u.drop i).length = 8 := fun i hi => by simp; omega
 refine ac9 (fun i => ((i : Int), cv v, h2, cv (((List.range i).map fun i => u.getD i 0 + v.getD i 0) ++ u.drop i))) 8 (by simp) (fun i hi next hn' => ?_) (fun next => ?_) (by omega)
 ·simp only [P.uq, toNat_cast, alj]
  have e1 : IntKind.i64.wrap ((i : Int) + 1) = ((i + 1 : Nat) : Int) := by rw [aag (by omega) (by omega)]; omega
  have e2 : (((List.range i).map fun i => u.getD i 0 + v.getD i 0) ++ u.drop i).getD i 0 = u.getD i 0 := by
   rw [List.getD_eq_getElem?_getD, List.getElem?_append_right (by simp), List.getElem?_drop, List.length_map, List.length_range, List.getD_eq_getElem?_getD]
   congr 2
   omega
  rw [e1, e2, bgv, aw8]
  have e3 : (((List.range i).map fun i => u.getD i 0 + v.getD i 0) ++ u.drop i).set i (u.getD i 0 + v.getD i 0) = ((List.range (i + 1)).map fun i => u.getD i 0 + v.getD i 0) ++ u.drop (i + 1) := by
   rw [List.set_append_right _ _ (by simp), List.length_map, List.length_range, Nat.sub_self, List.range_succ, List.map_append, List.append_assoc, List.drop_eq_getElem_cons (by omega), List.set_cons_zero]
   rfl
  rw [e3]
  simp (disch := omega) only [au, dx, jr, dh, dw, bn, su, abd, adu, aag]
  exact hn'
 ·simp only [P.uq]
  rw [dx (by omega), List.drop_eq_nil_of_le (by omega), List.append_nil]
  rfl
theorem azu (v : List (BitVec 64)) (hv : v.length = 8) (b : List Int) (hb : In 256 b) (hl : b.length = 16 * 8) {ρ : Type} (k : List Int → Option ρ) :
    P.jm 64 80 [1, 8, 7] [19, 61, 6] [28, 34, 39] [14, 18, 41] (cv v) b k = k (cv (au7 p64 v b)) := by
 rw [P.aa3]
 unfold P.tq
 rw [show IntKind.i64.wrap ((64 : Int).tdiv 8) = 8 from rfl]
 have := bhp b hb hl 80 [1, 8, 7] [19, 61, 6] [28, 34, 39] [14, 18, 41] (cv v) (List.replicate 8 0) (fun (q0 : List Int) (q1 q2 q3 q4 : Int) (q5 q6 q7 q8 q9 q10 q11 : List Int) =>
  P.ow q4 (0 : Int) q11 q10 q9 q3 q4 q5 q6 q7 q8 q9
   fun (q12 q13 : Int) (q14 q15 q16 : List Int) (q17 q18 : Int) (q19 q20 q21 q22 q23 : List Int) =>
   P.oo (0 : Int) q16 q15 q23 fun (q24 : Int) (q25 q26 q27 : List Int) => k q27)
 refine this.trans ?_
 rw [← win_zero p64, bg4 _ v hv _ _ _ (zh b 16), bff v _ hv (amq _ _ _ hv _)]
 rfl
end Q
end

section
/- SHA-2: the document's block of words of 64 bits. -/
namespace Q
open Go Go.Abs
set_option linter.unusedVariables false
set_option linter.unusedSimpArgs false
end Q
end

section
/- bits, the first part: texts. -/
namespace Q
open Go Go.Abs
set_option linter.unusedVariables false
set_option linter.unusedSimpArgs false
theorem bcb {a b : List Int} (hl : a.length = b.length) (hs : a.length ≤ 140737488355328) {ρ : Type} (k0 : List Int → List Int → Int → Option ρ) (k1 : Bool → Option ρ) :
    ∀ (m i : Nat), i + m = a.length → ∀ {stp : (List Int × List Int × Int) → ((List Int × List Int × Int) → Option ρ) → ((List Int × List Int × Int) ⊕ Bool → Option ρ) → Option ρ} {K : (List Int × List Int × Int) ⊕ Bool → Option ρ},
     (∀ (j : Nat) next, stp (a, b, (j : Int)) next K = br (decide ((j : Int) < (a.length : Int))) (br (a.getD j 0 != b.getD j 0) (k1 false) (next (a, b, ((j + 1 : Nat) : Int)))) (k0 a b (j : Int))) →
     lp stp (a, b, (i : Int)) K = if a.drop i = b.drop i then k0 a b (a.length : Int) else k1 false := by
 intro m i hm stp K hst
 refine bhx (P := fun x => ∃ j : Nat, x = (a, b, (j : Int)) ∧ j ≤ a.length ∧ (if a.drop j = b.drop j then k0 a b (a.length : Int) else k1 false) = (if a.drop i = b.drop i then k0 a b (a.length : Int) else k1 false)) (μ := fun x => ((a.length : Int) - x.2.2).toNat) ?_ ⟨i, rfl, by omega, rfl⟩ (by simp only; omega)
 rintro _ ⟨j, rfl, hj, he⟩ next hn
 rw [hst, ← he]
 by_cases hji : j < a.length
 ·rw [au (by omega), aed a 0 j hji, aed b 0 j (by omega)]
  by_cases hab : a.getD j 0 = b.getD j 0
  ·rw [dh hab, hn _ ⟨j + 1, rfl, by omega, ?_⟩ (by simp only; omega), ← he, aed a 0 j hji, aed b 0 j (by omega)]
   ·rw [← he, aed a 0 j hji, aed b 0 j (by omega)]
    simp only [hab, List.cons.injEq, true_and]
  ·rw [jr hab, if_neg (by simp only [List.cons.injEq]; exact fun h => hab h.1)]
 ·have : j = a.length := by omega
  subst this
  rw [dx (by omega), if_pos (by rw [List.drop_eq_nil_of_le (Nat.le_refl _), List.drop_eq_nil_of_le (by omega)])]
theorem aa2 (a b : List Int) (h : a.length ≤ 140737488355328) {ρ : Type} (k : Bool → Option ρ) : P.aa2 a b k = k (decide (a = b)) := by
 rw [P.anh]
 unfold P.ag2
 by_cases hl : a.length = b.length
 ·rw [dh (by omega), P.ao8]
  unfold P.am3 P.bko P.bjj P.bow
  have := bcb hl h (fun _ _ _ => k true) k a.length 0 (by omega) (stp := (fun x next ex => P.ai1 x.1 x.2.1 x.2.2 (fun v0 v1 v5 => next (v0, v1, v5)) (fun v0 v1 v5 => ex (.inl (v0, v1, v5))) (fun v4 => ex (.inr v4)))) (K := Sum.elim (fun _ => k true) k) (by
   intro j next
   simp only [P.ai1, Sum.elim_inl, Sum.elim_inr]
   by_cases hj : (j : Int) < (a.length : Int)
   ·simp only [au hj]
    simp (disch := omega) only [au, dx, jr, dh, dw, bn, su, abd, adu, aag, toNat_cast]
    rfl
   ·simp only [dx hj])
  simp only [List.drop_zero] at this
  refine this.trans ?_
  by_cases hab : a = b
  ·rw [if_pos hab, decide_eq_true hab]
  ·rw [if_neg hab, decide_eq_false hab]
 ·rw [jr (by omega), decide_eq_false (fun e => hl (by rw [e]))]
end Q
end

section
/- bits: the law's own test. -/
namespace Q
open Go Go.Abs
set_option linter.unusedVariables false
set_option linter.unusedSimpArgs false
end Q
end

section
/- bits: Same, Join. -/
namespace Q
open Go Go.Abs
set_option linter.unusedVariables false
set_option linter.unusedSimpArgs false
def diff (a b : List Int) (i : Nat) : Int := (List.range i).foldl (fun acc j => bits .or .u8 acc (bits .xor .u8 (a.getD j 0) (b.getD j 0))) 0
theorem as8 (a b : List Int) (i : Nat) : diff a b (i + 1) = bits .or .u8 (diff a b i) (bits .xor .u8 (a.getD i 0) (b.getD i 0)) := by
 simp [diff, List.range_succ]
theorem asv (a b : List Int) (ha : In 256 a) (hb : In 256 b) : ∀ i, (0 ≤ diff a b i ∧ diff a b i < 256) ∧ (diff a b i = 0 ↔ ∀ j, j < i → a.getD j 0 = b.getD j 0)
 | 0 => ⟨⟨by simp [diff], by simp [diff]⟩, by simp [diff]⟩
 | i + 1 => by
  obtain ⟨h1, h2⟩ := asv a b ha hb i
  rw [as8]
  have hx := ha.getD i (by omega)
  have hy := hb.getD i (by omega)
  obtain ⟨d, hd⟩ := Int.eq_ofNat_of_zero_le h1.1
  obtain ⟨x, hx'⟩ := Int.eq_ofNat_of_zero_le hx.1
  obtain ⟨y, hy'⟩ := Int.eq_ofNat_of_zero_le hy.1
  rw [hd, hx', hy', bjh x y (by omega) (by omega), bln d _ (by omega) (Nat.xor_lt_two_pow (n := 8) (show x < 2 ^ 8 by omega) (show y < 2 ^ 8 by omega))]
  have hb : d ||| (x ^^^ y) < 256 := Nat.or_lt_two_pow (n := 8) (show d < 2 ^ 8 by omega) (Nat.xor_lt_two_pow (n := 8) (show x < 2 ^ 8 by omega) (show y < 2 ^ 8 by omega))
  refine ⟨⟨by omega, by omega⟩, ?_⟩
  rw [show (((d ||| (x ^^^ y) : Nat) : Int) = 0 ↔ (d ||| (x ^^^ y)) = 0) by omega, Nat.or_eq_zero_iff, xor_zero]
  constructor
  ·rintro ⟨h0, hxy⟩ j hj
   by_cases hji : j = i
   ·subst hji; rw [hx', hy', hxy]
   ·exact h2.1 (by omega) j (by omega)
  ·intro h
   refine ⟨?_, ?_⟩
   ·have := h2.2 (fun j hj => h j (by omega)); omega
   ·have := h i (by omega); rw [hx', hy'] at this; omega
theorem vo (a b : List Int) (ha : In 256 a) (hb : In 256 b) (h : a.length ≤ 140737488355328) {ρ : Type} (k : Bool → Option ρ) : P.vo a b k = k (decide (a = b)) := by
 rw [P.alx]
 unfold P.agh
 by_cases hl : a.length = b.length
 ·rw [dh (by omega), P.aov]
  unfold P.als P.zk7 P.zs7 P.zu7
  refine bdp (fun i => (a, b, diff a b i, (a.length : Int), (i : Int))) a.length (fun i hi next hn => ?_) (fun next => ?_) (Nat.zero_le _) (by omega)
  ·simp only [P.ahc, toNat_cast]
   simp (disch := omega) only [au, dx, jr, dh, dw, bn, su, abd, adu, aag]
   rw [← as8]
   exact hn
  ·simp only [P.ahc]
   rw [dx (by omega)]
   congr 1
   have := (asv a b ha hb a.length).2
   by_cases hab : a = b
   ·rw [decide_eq_true hab, beq_iff_eq, this]
    subst hab; exact fun _ _ => rfl
   ·rw [decide_eq_false hab, beq_eq_false_iff_ne]
    intro h0
    refine hab (List.ext_getElem hl (fun i h1 h2 => ?_))
    have := this.1 h0 i h1
    rw [getD_lt h1, getD_lt h2] at this
    exact this
 ·rw [jr (by omega), decide_eq_false (fun e => hl (by rw [e]))]
def joined (l : List (List Int)) (i : Nat) : List Int := (l.take i).flatten
theorem aoj (l : List (List Int)) (i : Nat) (h : i < l.length) : joined l (i + 1) = joined l i ++ l.getD i [] := by
 unfold joined
 rw [← aju l [] i h, List.flatten_append]; simp
theorem apf (l : List (List Int)) : joined l l.length = l.flatten := by unfold joined; rw [List.take_length]
theorem atx (l : List (List Int)) (i : Nat) : (joined l i).length ≤ l.flatten.length := by
 unfold joined
 have : l.flatten = (l.take i).flatten ++ (l.drop i).flatten := by rw [← List.flatten_append, List.take_append_drop]
 rw [this, List.length_append]; omega
theorem l8 (n : Nat) (h : n ≤ 140737488355328) {ρ : Type} (k : List Int → Option ρ) : P.l8 (n : Int) k = k [] := by
 rw [P.aeh]
 unfold P.aa7
 rw [dx (by omega), show IntKind.i64.wrap ((0 : Int) - (0 : Int)) = 0 by decide]
 rw [aag (by omega) (by omega)]
 by_cases h0 : n = 0
 ·subst h0; rw [dx (by omega)]
 ·rw [au (by omega), au (by omega), au (by omega)]; rfl
theorem gu (l : List (List Int)) (h : l.length ≤ 140737488355328) (h2 : l.flatten.length ≤ 140737488355328) {ρ : Type} (k : List Int → Option ρ) : P.gu l k = k l.flatten := by
 rw [P.ac2]
 unfold P.zo
 rw [P.afp]
 unfold P.adb P.zk2 P.zs2 P.zu2
 refine bdp (fun i => (l, ((joined l i).length : Int), l, (l.length : Int), (i : Int))) l.length (fun i hi next hn => ?_) (fun next => ?_) (Nat.zero_le _) (by omega)
 ·have e := aoj l i hi
  have h3 := atx l (i + 1)
  have e2 : ((joined l i).length : Int) + ((l.getD i []).length : Int) = ((joined l (i + 1)).length : Int) := by rw [e, List.length_append]; omega
  simp only [P.z8, toNat_cast, e2]
  simp (disch := omega) only [au, dx, jr, dh, dw, bn, su, abd, adu, aag]
  exact hn
 ·simp only [P.z8]
  rw [dx (by omega), apf, l8 _ h2, P.afe]
  unfold P.ab8 P.zk3 P.zs3 P.zu3
  refine bdp (fun i => (l, (l.length : Int), (i : Int), joined l i)) l.length (fun i hi next hn => ?_) (fun next => ?_) (Nat.zero_le _) (by omega)
  ·have e := aoj l i hi
   have h3 := atx l (i + 1)
   rw [e, List.length_append] at h3
   simp only [P.zl, toNat_cast]
   simp (disch := omega) only [au, dx, jr, dh, dw, bn, su, abd, adu, aag]
   rw [← e]
   exact hn
  ·simp only [P.zl]
   rw [dx (by omega), apf]
theorem d9 (l : List (List Int)) (h : l.length ≤ 140737488355328) (h2 : l.flatten.length ≤ 140737488355328) {ρ : Type} (k : List Int → Option ρ) : P.d9 l k = k l.flatten := by
 rw [P.alu]
 unfold P.af4
 exact gu l h h2 k
end Q
end

section
/- lmots: digits. -/
namespace Q
open Go Go.Abs
set_option linter.unusedVariables false
set_option linter.unusedSimpArgs false
def Kind (w p s : Nat) : Prop := (w = 1 ∧ p = 265 ∧ s = 7) ∨ (w = 2 ∧ p = 133 ∧ s = 6) ∨ (w = 4 ∧ p = 67 ∧ s = 4) ∨ (w = 8 ∧ p = 34 ∧ s = 0)
def sumTo (D : List Int) : Nat → Nat
 | 0 => 0
 | i + 1 => sumTo D i + (D.getD i 0).toNat
theorem sumTo_le (D : List Int) (w : Nat) (h : In (2 ^ w) D) : ∀ i, sumTo D i ≤ i * (2 ^ w - 1)
 | 0 => by simp [sumTo]
 | i + 1 => by
  have ih := sumTo_le D w h i
  have hp : ((2 : Int) ^ w) = ((2 ^ w : Nat) : Int) := by simp
  have := h.getD i (by rw [hp]; have := p2 w; omega)
  rw [hp] at this
  rw [Nat.succ_mul]; simp only [sumTo]; omega
theorem ant (b : List Int) (w c : Int) : In (2 ^ w.toNat) (xw b w c) := by
 unfold xw
 split
 ·refine In.map (fun i _ => ⟨Int.natCast_nonneg _, ?_⟩)
  have := Nat.mod_lt (T 8 b.reverse / 2 ^ (8 * b.length - w.toNat * (i + 1))) (p2 w.toNat)
  have hp : ((2 : Int) ^ w.toNat) = ((2 ^ w.toNat : Nat) : Int) := by simp
  rw [hp]; unfold dg; omega
 ·exact In.nil
def left (w s : Nat) (b : List Int) : Nat := ((256 / w) * (2 ^ w - 1) - sumTo (xw b w ((256 / w : Nat) : Int)) (256 / w)) * 2 ^ s
def bjg (w p s : Nat) (b : List Int) : List Int := xw (b ++ (bsw 8 2 (left w s b)).reverse) w p
theorem afo {w p s : Nat} (h : Kind w p s) : 1 ≤ w ∧ w ≤ 8 ∧ (256 / w) * w = 256 ∧ 256 / w ≤ p ∧ w * p = 272 - s ∧ s ≤ 7 ∧ (256 / w) * (2 ^ w - 1) * 2 ^ s < 65536 ∧ p ≤ 265 ∧ 2 ^ w ≤ 256 ∧ 2 ^ s ≤ 128 ∧ (256 / w) * (2 ^ w - 1) < 65536 := by
 rcases h with ⟨rfl, rfl, rfl⟩ | ⟨rfl, rfl, rfl⟩ | ⟨rfl, rfl, rfl⟩ | ⟨rfl, rfl, rfl⟩ <;> decide
theorem bga {w p s : Nat} (h : Kind w p s) (b : List Int) : left w s b < 65536 := by
 have f := afo h
 unfold left
 have : ((256 / w) * (2 ^ w - 1) - sumTo (xw b w ((256 / w : Nat) : Int)) (256 / w)) * 2 ^ s ≤ (256 / w) * (2 ^ w - 1) * 2 ^ s := Nat.mul_le_mul (by omega) (Nat.le_refl _)
 omega
theorem ad1 (b : List Int) (w c : Nat) (h1 : 1 ≤ w) (h2 : w ≤ 24) (h : c * w ≤ b.length * 8) : xw b (w : Int) (c : Int) = (List.range c).map (dg w b.length (T 8 b.reverse)) := by
 unfold xw
 rw [if_pos (by refine ⟨by omega, by omega, by omega, ?_⟩; rw [← Int.natCast_mul]; omega)]
 simp only [toNat_cast]
theorem ayz {w p s : Nat} (hk : Kind w p s) (b e : List Int) (hb : b.length = 32) (he : e.length = 2) :
    xw (b ++ e) w p = xw b w ((256 / w : Nat) : Int) ++ xw e w ((p - 256 / w : Nat) : Int) := by
 obtain ⟨f1, f2, f3, f4, f5, f6, f7, f8, f9, f10, f11⟩ := afo hk
 have hpw : p * w = 272 - s := by rw [Nat.mul_comm]; exact f5
 rw [ad1 _ w p f1 (by omega) (by rw [List.length_append]; omega), ad1 _ w _ f1 (by omega) (by omega), ad1 _ w _ f1 (by omega) (by rw [Nat.sub_mul]; omega)]
 rw [show p = 256 / w + (p - 256 / w) by omega, List.range_add, List.map_append, List.map_map, show 256 / w + (p - 256 / w) - 256 / w = p - 256 / w by omega]
 have hT : T 8 (b ++ e).reverse = T 8 e.reverse + 2 ^ 16 * T 8 b.reverse := by
  rw [List.reverse_append, amy, List.length_reverse, he]
 have hlt := bi5 8 e.reverse
 rw [List.length_reverse, he] at hlt
 congr 1
 ·refine List.map_congr_left (fun i hi => ?_)
  have hi := List.mem_range.1 hi
  have : w * (i + 1) ≤ w * (256 / w) := Nat.mul_le_mul (Nat.le_refl _) hi
  rw [Nat.mul_comm w (256 / w), f3] at this
  unfold dg
  rw [hT, List.length_append, hb, he, show 8 * (32 + 2) - w * (i + 1) = 16 + (8 * 32 - w * (i + 1)) by omega, Nat.pow_add, ← Nat.div_div_eq_div_mul, Nat.add_mul_div_left _ _ (p2 _), Nat.div_eq_of_lt hlt, Nat.zero_add]
 ·refine List.map_congr_left (fun j hj => ?_)
  have hj := List.mem_range.1 hj
  have h3 : w * (256 / w + (j + 1)) ≤ w * p := Nat.mul_le_mul (Nat.le_refl _) (by omega)
  rw [Nat.mul_add, Nat.mul_comm w (256 / w), f3] at h3
  simp only [Function.comp]
  unfold dg
  rw [hT, List.length_append, hb, he, Nat.add_assoc, Nat.mul_add w (256 / w) (j + 1), Nat.mul_comm w (256 / w), f3, show 8 * (32 + 2) - (256 + w * (j + 1)) = 8 * 2 - w * (j + 1) by omega]
  congr 1
  rw [← atr (T 8 e.reverse + 2 ^ 16 * T 8 b.reverse) (8 * 2 - w * (j + 1)) w 16 (by have h4 : w * (j + 1) = w * j + w := Nat.mul_succ w j; omega), Nat.add_mul_mod_self_left, Nat.mod_eq_of_lt hlt]
end Q
end

section
/- SHA-2: blocks one behind the other, words of 32 bits. -/
namespace Q
open Go Go.Abs
set_option linter.unusedVariables false
set_option linter.unusedSimpArgs false
def thr {w : Nat} (p : Par w) (v : List (BitVec w)) (b : List Int) : Nat → List (BitVec w)
 | 0 => v
 | i + 1 => au7 p (thr p v b i) ((b.drop ((2 * w) * i)).take (2 * w))
theorem akr {w : Nat} (p : Par w) (v : List (BitVec w)) (hv : v.length = 8) (b : List Int) : ∀ i, (thr p v b i).length = 8
 | 0 => hv
 | i + 1 => ay3 _ _ _
def toV (w : Nat) (l : List Int) : List (BitVec w) := (List.range 8).map fun i => BitVec.ofInt w (l.getD i 0)
theorem ak3 (w : Nat) (l : List Int) : (toV w l).length = 8 := by simp [toV]
theorem bf2 {w : Nat} (l : List (BitVec w)) : In (2 ^ w) (cv l) := by
 intro x hx
 obtain ⟨y, _, rfl⟩ := List.mem_map.1 hx
 have := y.isLt
 have hp : ((2 : Int) ^ w) = ((2 ^ w : Nat) : Int) := by simp
 rw [hp]
 omega
theorem bi6 {w : Nat} (l : List (BitVec w)) (hl : l.length = 8) : toV w (cv l) = l := by
 unfold toV
 refine List.ext_getElem (by simp [hl]) (fun i h1 h2 => ?_)
 simp only [List.getElem_map, List.getElem_range, alj, ofI, getD_lt h2]
theorem arj (x : Int) : IntKind.u32.wrap x = ((BitVec.ofInt 32 x).toNat : Int) := by
 rw [bir, BitVec.toNat_ofInt]; omega
def rest (n : Nat) (b : List Int) : List Int := b.drop (n * (b.length / n))
theorem bi7 (words b : List Int) (rd : Int) (t0 t1 t2 t3 h1 h2 : List Int) (hi : In 18446744073709551616 words) {ρ : Type} (k0 : List Int → List Int → Int → Int → Int → List Int → List Int → List Int → List Int → List Int → List Int → List Int → Option ρ) :
    P.aah b words 0 32 rd t0 t1 t2 t3 h1 h2 (List.replicate 8 0) k0 = k0 b words 8 32 rd t0 t1 t2 t3 h1 h2 (cv (toV 32 words)) := by
 rw [P.afs]
 unfold P.adh P.bkh P.bip P.bk7
 refine ac9 (fun i => (b, words, (i : Int), 32, rd, t0, t1, t2, t3, h1, h2, cv ((List.range i).map fun i => BitVec.ofInt 32 (words.getD i 0)) ++ List.replicate (8 - i) 0)) 8 (by simp [cv]) (fun i hi' next hn' => ?_) (fun next => ?_) (by omega)
 ·simp only [P.aae, toNat_cast]
  have e4 : IntKind.i64.wrap ((i : Int) + 1) = ((i + 1 : Nat) : Int) := by rw [aag (by omega) (by omega)]; omega
  have e5 : (cv ((List.range i).map fun i => BitVec.ofInt 32 (words.getD i 0)) ++ List.replicate (8 - i) (0 : Int)).set i ((BitVec.ofInt 32 (words.getD i 0)).toNat : Int) = cv ((List.range (i + 1)).map fun i => BitVec.ofInt 32 (words.getD i 0)) ++ List.replicate (8 - (i + 1)) 0 := by
   rw [List.set_append_right _ _ (by simp), aar, List.length_map, List.length_range, Nat.sub_self, show 8 - i = (8 - (i + 1)) + 1 by omega, List.replicate_succ, List.set_cons_zero, List.range_succ, List.map_append, ← ajz, List.append_assoc]
   rfl
  rw [au (by omega), au (by omega), au (by omega), au (by omega), au (by omega), arj, e5, e4]
  exact hn'
 ·simp only [P.aae]
  rw [dx (by omega)]
  simp [toV]
theorem biy (v : List (BitVec 32)) (hv : v.length = 8) (b : List Int) (hb : In 256 b) (hn : b.length ≤ 1000000) (h1 h2 : List Int) {ρ : Type} (k0 : List Int → Int → List Int → List Int → List Int → Int → Int → List Int → List Int → List Int → List Int → Option ρ) :
    P.aad b 64 (cv v) h2 h1 32 64 [7, 18, 3] [17, 19, 10] [2, 13, 22] [6, 11, 25] k0 =
     k0 (rest 64 b) 64 (cv (thr p32 v b (b.length / 64))) h2 h1 32 64 [7, 18, 3] [17, 19, 10] [2, 13, 22] [6, 11, 25] := by
 rw [P.afw]
 unfold P.ac5 P.bkd P.zs12 P.bm5
 refine ac9 (fun i => (b.drop (64 * i), 64, cv (thr p32 v b i), h2, h1, 32, 64, [7, 18, 3], [17, 19, 10], [2, 13, 22], [6, 11, 25])) (b.length / 64) (by simp [thr]) (fun i hi next hn' => ?_) (fun next => ?_) (by omega)
 ·simp only [P.aal]
  have hlen : (b.drop (64 * i)).length = b.length - 64 * i := by simp
  have hge : 64 ≤ b.length - 64 * i := by omega
  simp only [hlen, show (64 : Int).toNat = 64 from rfl, toNat_cast, List.drop_zero]
  have hbl : ((b.drop (64 * i)).take 64).length = 16 * 4 := by rw [List.length_take, hlen]; omega
  rw [au (by omega), au (by omega), au (by omega), bbg _ (akr _ _ hv _ _) _ ((hb.drop _).take _) hbl, au (by omega), au (by omega), au (by omega),
   List.take_of_length_le (by rw [hlen]; omega), List.drop_drop, show 64 * i + 64 = 64 * (i + 1) by omega]
  exact hn'
 ·simp only [P.aal]
  have hlen : (b.drop (64 * (b.length / 64))).length = b.length - 64 * (b.length / 64) := by simp
  rw [dx (by rw [hlen]; omega)]
  rfl
theorem bg0 (v : List (BitVec 32)) (hv : v.length = 8) (b : List Int) (words h2 : List Int) (hl : words.length = 8) {ρ : Type} (k0 : List Int → List Int → Int → List Int → List Int → Option ρ) :
    P.zn b (cv v) 0 words h2 k0 = k0 b (cv v) 8 (cv v) h2 := by
 rw [P.afh]
 unfold P.ace P.bkj P.bjk P.bls
 refine ac9 (fun i => (b, cv v, (i : Int), (cv v).take i ++ words.drop i, h2)) 8 (by simp) (fun i hi next hn' => ?_) (fun next => ?_) (by omega)
 ·simp only [P.zq, toNat_cast]
  have e4 : IntKind.i64.wrap ((i : Int) + 1) = ((i + 1 : Nat) : Int) := by rw [aag (by omega) (by omega)]; omega
  have e5 : ((cv v).take i ++ words.drop i).set i ((cv v).getD i 0) = (cv v).take (i + 1) ++ words.drop (i + 1) := by
   rw [List.set_append_right _ _ (by rw [List.length_take]; omega), List.length_take, aar, hv, Nat.min_eq_left (by omega), Nat.sub_self, List.drop_eq_getElem_cons (by omega), List.set_cons_zero, ← aju (cv v) 0 i (by rw [aar]; omega), List.append_assoc]
   rfl
  have e6 : IntKind.u64.wrap ((cv v).getD i 0) = (cv v).getD i 0 := by
   rw [alj]; exact agr _ (nlt _)
  rw [au (by omega), au (by omega), au (by omega), au (by omega), au (by omega), e6, e5, e4]
  exact hn'
 ·simp only [P.zq]
  rw [dx (by omega), List.drop_eq_nil_of_le (by omega), List.append_nil, List.take_of_length_le (by rw [aar]; omega)]
  rfl
theorem avg (words b : List Int) (hl : words.length = 8) (hi : In 18446744073709551616 words) (hb : In 256 b) (hn : b.length ≤ 1000000) {ρ : Type} (k : List Int → List Int → Option ρ) :
    P.mq 32 64 [7, 18, 3] [17, 19, 10] [2, 13, 22] [6, 11, 25] words b k = k (cv (thr p32 (toV 32 words) b (b.length / 64))) (rest 64 b) := by
 rw [P.adg]
 unfold P.zm
 refine (bi7 words b 64 [7, 18, 3] [17, 19, 10] [2, 13, 22] [6, 11, 25] words (List.replicate 8 0) hi _).trans ?_
 rw [show IntKind.i64.wrap ((32 : Int) * 2) = 64 from rfl, biy _ (ak3 _ _) b hb hn, bg0 _ (akr _ _ (ak3 _ _) _ _) _ _ _ hl]
end Q
end

section
/- SHA-2: blocks one behind the other, words of 64 bits. -/
namespace Q
open Go Go.Abs
set_option linter.unusedVariables false
set_option linter.unusedSimpArgs false
theorem bii (words b : List Int) (rd : Int) (t0 t1 t2 t3 h1 h2 : List Int) (hi : In 18446744073709551616 words) {ρ : Type} (k0 : List Int → List Int → Int → Int → Int → List Int → List Int → List Int → List Int → List Int → List Int → List Int → Option ρ) :
    P.aaw b words 0 64 rd t0 t1 t2 t3 h1 h2 (List.replicate 8 0) k0 = k0 b words 8 64 rd t0 t1 t2 t3 h1 h2 (cv (toV 64 words)) := by
 rw [P.afx]
 unfold P.ade P.bka P.bhw P.bl0
 refine ac9 (fun i => (b, words, (i : Int), 64, rd, t0, t1, t2, t3, h1, h2, cv ((List.range i).map fun i => BitVec.ofInt 64 (words.getD i 0)) ++ List.replicate (8 - i) 0)) 8 (by simp [cv]) (fun i hi' next hn' => ?_) (fun next => ?_) (by omega)
 ·simp only [P.aaj, toNat_cast]
  have e4 : IntKind.i64.wrap ((i : Int) + 1) = ((i + 1 : Nat) : Int) := by rw [aag (by omega) (by omega)]; omega
  have e6 : words.getD i 0 = ((BitVec.ofInt 64 (words.getD i 0)).toNat : Int) := by
   have := hi.getD i (by omega)
   rw [BitVec.toNat_ofInt]
   omega
  have e5 : (cv ((List.range i).map fun i => BitVec.ofInt 64 (words.getD i 0)) ++ List.replicate (8 - i) (0 : Int)).set i ((BitVec.ofInt 64 (words.getD i 0)).toNat : Int) = cv ((List.range (i + 1)).map fun i => BitVec.ofInt 64 (words.getD i 0)) ++ List.replicate (8 - (i + 1)) 0 := by
   rw [List.set_append_right _ _ (by simp), aar, List.length_map, List.length_range, Nat.sub_self, show 8 - i = (8 - (i + 1)) + 1 by omega, List.replicate_succ, List.set_cons_zero, List.range_succ, List.map_append, ← ajz, List.append_assoc]
   rfl
  rw [au (by omega), au (by omega), au (by omega), au (by omega), au (by omega), e6, e5, e4]
  exact hn'
 ·simp only [P.aaj]
  rw [dx (by omega)]
  simp [toV]
theorem bhn (v : List (BitVec 64)) (hv : v.length = 8) (b : List Int) (hb : In 256 b) (hn : b.length ≤ 1000000) (h1 h2 : List Int) {ρ : Type} (k0 : List Int → Int → List Int → List Int → List Int → Int → Int → List Int → List Int → List Int → List Int → Option ρ) :
    P.aak b 128 (cv v) h2 h1 64 80 [1, 8, 7] [19, 61, 6] [28, 34, 39] [14, 18, 41] k0 =
     k0 (rest 128 b) 128 (cv (thr p64 v b (b.length / 128))) h2 h1 64 80 [1, 8, 7] [19, 61, 6] [28, 34, 39] [14, 18, 41] := by
 rw [P.afr]
 unfold P.ac4 P.bkm P.bja P.bk6
 refine ac9 (fun i => (b.drop (128 * i), 128, cv (thr p64 v b i), h2, h1, 64, 80, [1, 8, 7], [19, 61, 6], [28, 34, 39], [14, 18, 41])) (b.length / 128) (by simp [thr]) (fun i hi next hn' => ?_) (fun next => ?_) (by omega)
 ·simp only [P.aao]
  have hlen : (b.drop (128 * i)).length = b.length - 128 * i := by simp
  have hge : 128 ≤ b.length - 128 * i := by omega
  simp only [hlen, show (128 : Int).toNat = 128 from rfl, toNat_cast, List.drop_zero]
  have hbl : ((b.drop (128 * i)).take 128).length = 16 * 8 := by rw [List.length_take, hlen]; omega
  rw [au (by omega), au (by omega), au (by omega), azu _ (akr _ _ hv _ _) _ ((hb.drop _).take _) hbl, au (by omega), au (by omega), au (by omega),
   List.take_of_length_le (by rw [hlen]; omega), List.drop_drop, show 128 * i + 128 = 128 * (i + 1) by omega]
  exact hn'
 ·simp only [P.aao]
  have hlen : (b.drop (128 * (b.length / 128))).length = b.length - 128 * (b.length / 128) := by simp
  rw [dx (by rw [hlen]; omega)]
  rfl
theorem bft (v : List (BitVec 64)) (hv : v.length = 8) (b : List Int) (words h2 : List Int) (hl : words.length = 8) {ρ : Type} (k0 : List Int → List Int → Int → List Int → List Int → Option ρ) :
    P.zk b (cv v) 0 words h2 k0 = k0 b (cv v) 8 (cv v) h2 := by
 rw [P.afc]
 unfold P.ab9 P.bkl P.bhq P.bl7
 refine ac9 (fun i => (b, cv v, (i : Int), (cv v).take i ++ words.drop i, h2)) 8 (by simp) (fun i hi next hn' => ?_) (fun next => ?_) (by omega)
 ·simp only [P.zw, toNat_cast]
  have e4 : IntKind.i64.wrap ((i : Int) + 1) = ((i + 1 : Nat) : Int) := by rw [aag (by omega) (by omega)]; omega
  have e5 : ((cv v).take i ++ words.drop i).set i ((cv v).getD i 0) = (cv v).take (i + 1) ++ words.drop (i + 1) := by
   rw [List.set_append_right _ _ (by rw [List.length_take]; omega), List.length_take, aar, hv, Nat.min_eq_left (by omega), Nat.sub_self, List.drop_eq_getElem_cons (by omega), List.set_cons_zero, ← aju (cv v) 0 i (by rw [aar]; omega), List.append_assoc]
   rfl
  rw [au (by omega), au (by omega), au (by omega), au (by omega), au (by omega), e5, e4]
  exact hn'
 ·simp only [P.zw]
  rw [dx (by omega), List.drop_eq_nil_of_le (by omega), List.append_nil, List.take_of_length_le (by rw [aar]; omega)]
  rfl
theorem avk (words b : List Int) (hl : words.length = 8) (hi : In 18446744073709551616 words) (hb : In 256 b) (hn : b.length ≤ 1000000) {ρ : Type} (k : List Int → List Int → Option ρ) :
    P.mh 64 80 [1, 8, 7] [19, 61, 6] [28, 34, 39] [14, 18, 41] words b k = k (cv (thr p64 (toV 64 words) b (b.length / 128))) (rest 128 b) := by
 rw [P.adf]
 unfold P.zu
 refine (bii words b 80 [1, 8, 7] [19, 61, 6] [28, 34, 39] [14, 18, 41] words (List.replicate 8 0) hi _).trans ?_
 rw [show IntKind.i64.wrap ((64 : Int) * 2) = 128 from rfl, bhn _ (ak3 _ _) b hb hn, bft _ (akr _ _ (ak3 _ _) _ _) _ _ _ hl]
end Q
end

section
/- Are two rows of bytes the same. -/
namespace Q
open Go Go.Abs
set_option linter.unusedVariables false
set_option linter.unusedSimpArgs false
end Q
end

section
/- SHA-2: sums that go on, and their ends. -/
namespace Q
open Go Go.Abs
set_option linter.unusedVariables false
set_option linter.unusedSimpArgs false
def bsz (kind : Int) : Nat := if kind = 1 then 64 else 128
theorem aul (kind : Int) : (kind = 1 ∧ bsz kind = 64) ∨ (kind ≠ 1 ∧ bsz kind = 128) := by
 unfold bsz
 by_cases h : kind = 1
 ·exact .inl ⟨h, if_pos h⟩
 ·exact .inr ⟨h, if_neg h⟩
theorem oq (kind : Int) {ρ : Type} (k : Int → Option ρ) : P.oq kind k = k ((bsz kind : Nat) : Int) := by
 rw [P.agm]; unfold P.acg
 rcases aul kind with ⟨h, e⟩ | ⟨h, e⟩
 ·rw [dw h, e]; rfl
 ·rw [bn h, e]; rfl
def ava (kind : Int) (words all : List Int) : List Int :=
 if kind = 1 then cv (thr p32 (toV 32 words) all (all.length / 64)) else cv (thr p64 (toV 64 words) all (all.length / 128))
theorem ajl (kind : Int) (words all : List Int) : (ava kind words all).length = 8 := by
 unfold ava
 split <;> rw [aar, akr _ _ (ak3 _ _)]
def Wok (kind : Int) (words : List Int) : Prop := words.length = 8 ∧ In 18446744073709551616 words ∧ (kind = 1 → In 4294967296 words)
theorem an6 (kind : Int) (words all : List Int) : Wok kind (ava kind words all) := by
 refine ⟨ajl _ _ _, ?_, fun h => ?_⟩
 ·unfold ava
  split
  ·intro x hx
   have := bf2 _ x hx
   omega
  ·intro x hx
   have := bf2 _ x hx
   omega
 ·unfold ava
  rw [if_pos h]
  intro x hx
  have := bf2 _ x hx
  omega
theorem ahk (n : Nat) (hn : 0 < n) (b : List Int) : (rest n b).length = b.length % n := by
 unfold rest
 rw [List.length_drop]
 have := Nat.div_add_mod b.length n
 omega
theorem alg {n : Nat} {b : List Int} (h : In 256 b) : In 256 (rest n b) := h.drop _
theorem aan {ρ : Type} (k : Int → Int → List Int → List Int → List Int → List Int → Option ρ) : P.aan k = k 32 64 [7, 18, 3] [17, 19, 10] [2, 13, 22] [6, 11, 25] := by rw [P.al9]; rfl
theorem aas {ρ : Type} (k : Int → Int → List Int → List Int → List Int → List Int → Option ρ) : P.aas k = k 64 80 [1, 8, 7] [19, 61, 6] [28, 34, 39] [14, 18, 41] := by rw [P.al6]; rfl
theorem uf (kind : Int) (words tail : List Int) (size : Int) (b : List Int) (hl : words.length = 8) (hi : In 18446744073709551616 words) (ht : In 256 tail) (hb : In 256 b) (hn : tail.length + b.length ≤ 1000000) {ρ : Type} (k : Int → List Int → List Int → Int → Option ρ) :
    P.uf kind words tail size b k = k kind (ava kind words (tail ++ b)) (rest (bsz kind) (tail ++ b)) (IntKind.u64.wrap (size + IntKind.u64.wrap (b.length : Int))) := by
 rw [P.aps]; unfold P.ain
 have hf : [tail, b].flatten = tail ++ b := by simp
 have hall : (tail ++ b).length ≤ 1000000 := by rw [List.length_append]; exact hn
 have hin : In 256 (tail ++ b) := ht.app hb
 have hr : ∀ n, (rest n (tail ++ b)).length ≤ 1000000 := fun n => by unfold rest; rw [List.length_drop]; omega
 rw [gu _ (by simp) (by rw [hf]; omega), hf]
 rcases aul kind with ⟨h, e⟩ | ⟨h, e⟩
 ·rw [dw h, aan, e]
  rw [avg words _ hl hi hin hall]
  unfold P.l9 ava
  have := hr 64
  rw [au (by omega), if_pos h]
 ·rw [bn h, aas, e]
  rw [avk words _ hl hi hin hall]
  unfold P.l9 ava
  have := hr 128
  rw [au (by omega), if_neg h]
def be8 (kind : Int) (tl : Nat) : Nat := if kind = 1 then (119 - tl) % 64 else (239 - tl) % 128 + 8
def pad (kind : Int) (tl : Nat) (size : Nat) : List Int := 128 :: List.replicate (be8 kind tl) 0 ++ (bsw 8 8 (size * 8 % 2 ^ 64)).reverse
def bcj (n : Nat) (words : List Int) (i : Nat) : List Int := ((List.range i).map fun j => (bsw 8 n (words.getD j 0).toNat).reverse).flatten
theorem am7 (n : Nat) (words : List Int) (i : Nat) : bcj n words (i + 1) = bcj n words i ++ (bsw 8 n (words.getD i 0).toNat).reverse := by simp [bcj, List.range_succ]
theorem aho (n : Nat) (words : List Int) : ∀ i, (bcj n words i).length = n * i
 | 0 => by simp [bcj]
 | i + 1 => by rw [am7, List.length_append, aho n words i, List.length_reverse, abr, Nat.mul_succ]
theorem avx (n : Nat) (words : List Int) : ∀ i, In 256 (bcj n words i)
 | 0 => by simp [bcj, In]
 | i + 1 => by rw [am7]; exact (avx n words i).app (axw 8 n _).rev
def bfb (kind : Int) (words tail : List Int) (size : Nat) : List Int :=
 let o := bcj (bsz kind / 16) (ava kind words (tail ++ pad kind tail.length size)) 8
 if kind = 2 then o.take 48 else o
theorem bfp (kind : Int) (words tail : List Int) (size : Nat) : In 256 (bfb kind words tail size) := by
 unfold bfb
 simp only
 split
 ·exact (avx _ _ _).take _
 ·exact avx _ _ _
theorem bct (kind : Int) (words tail : List Int) (size : Nat) : (bfb kind words tail size).length = if kind = 1 then 32 else if kind = 2 then 48 else 64 := by
 unfold bfb
 simp only
 rcases aul kind with ⟨h, e⟩ | ⟨h, e⟩
 ·rw [if_neg (by omega), if_pos h, aho, e]
 ·rw [if_neg h, e]
  split
  ·rw [List.length_take, aho]; decide
  ·rw [aho]
theorem tmN (a b : Nat) : ((a : Nat) : Int).tmod (b : Int) = ((a % b : Nat) : Int) := by
 rw [Int.tmod_eq_emod_of_nonneg (by omega)]; rfl
theorem bi4 (kind : Int) (tl size : Nat) : In 256 (pad kind tl size) := by
 unfold pad
 refine In.app ?_ (axw 8 8 _).rev
 intro x hx
 rcases List.mem_cons.1 hx with rfl | hx
 ·omega
 ·rw [List.mem_replicate] at hx; omega
theorem bfi (kind : Int) (tl size : Nat) : (pad kind tl size).length = be8 kind tl + 9 := by
 unfold pad; simp
theorem bfu (kind : Int) (tl : Nat) : be8 kind tl ≤ 200 := by
 unfold be8; split <;> omega
theorem bdi (n : Nat) (hn : n = 64 ∨ n = 128) (words : List Int) (hw : In 18446744073709551616 words) (a : Int) (b : List Int) (c : Int) (d : List Int) {ρ : Type} (k0 : Int → List Int → Int → List Int → Int → List Int → Int → List Int → Option ρ) :
    P.aiz (n : Int) words 0 [] a b c d k0 = k0 (n : Int) words 8 (bcj (n / 16) words 8) a b c d := by
 rw [P.ao3]
 unfold P.an9 P.bj8 P.bic P.bnu
 have e16 : IntKind.i64.wrap ((n : Int).tdiv 16) = ((n / 16 : Nat) : Int) := by rcases hn with rfl | rfl <;> rfl
 refine ac9 (fun i => ((n : Int), words, (i : Int), bcj (n / 16) words i, a, b, c, d)) 8 rfl (fun i hi next hn' => ?_) (fun next => ?_) (by omega)
 ·simp only [P.aie, toNat_cast]
  have h1 := hw.getD i (by omega)
  have e4 : IntKind.i64.wrap ((i : Int) + 1) = ((i + 1 : Nat) : Int) := by rw [aag (by omega) (by omega)]; omega
  have e5 : words.getD i 0 = (((words.getD i 0).toNat : Nat) : Int) := by omega
  rw [am7] at hn'
  rw [au (by omega), au (by omega), au (by omega), e16, e5, jg _ _ (by omega) (by omega), e4]
  rw [au (by rw [aho, List.length_reverse, abr]; rcases hn with rfl | rfl <;> omega)]
  exact hn'
 ·simp only [P.aie]
  rw [dx (by omega)]
  rfl
theorem shl3 (size : Nat) : IntKind.u64.wrap ((size : Int) * (2 : Int) ^ 3) = ((size * 8 % 2 ^ 64 : Nat) : Int) := by
 rw [bhk]; omega
theorem abo (kind : Int) (words tail : List Int) (size : Nat) (hl : words.length = 8) (hi : In 18446744073709551616 words) (ht : In 256 tail) (hn : tail.length < bsz kind) {ρ : Type} (k : List Int → Option ρ) :
    P.abo kind words tail (size : Int) k = k (bfb kind words tail size) := by
 rw [P.aqt]; unfold P.ai0
 rw [oq]
 have hz : IntKind.i64.wrap (IntKind.i64.wrap ((IntKind.i64.wrap (IntKind.i64.wrap (IntKind.i64.wrap (IntKind.i64.wrap ((2 : Int) * ((bsz kind : Nat) : Int)) - (1 : Int)) - IntKind.i64.wrap (((bsz kind : Nat) : Int).tdiv (8 : Int))) - (tail.length : Int))).tmod ((bsz kind : Nat) : Int) + IntKind.i64.wrap (((bsz kind : Nat) : Int).tdiv (8 : Int))) - (8 : Int)) = ((be8 kind tail.length : Nat) : Int) := by
  unfold be8
  rcases aul kind with ⟨h, e⟩ | ⟨h, e⟩
  ·rw [e] at hn ⊢
   rw [if_pos h, show IntKind.i64.wrap (IntKind.i64.wrap (IntKind.i64.wrap ((2 : Int) * ((64 : Nat) : Int)) - (1 : Int)) - IntKind.i64.wrap (((64 : Nat) : Int).tdiv (8 : Int))) = 119 from rfl, aag (x := (119 : Int) - (tail.length : Int)) (by omega) (by omega),
    show (119 : Int) - (tail.length : Int) = ((119 - tail.length : Nat) : Int) by omega, tmN, show IntKind.i64.wrap (((64 : Nat) : Int).tdiv (8 : Int)) = 8 from rfl, aag (x := ((((119 - tail.length) % 64 : Nat) : Int)) + 8) (by omega) (by omega), aag (by omega) (by omega)]
   omega
  ·rw [e] at hn ⊢
   rw [if_neg h, show IntKind.i64.wrap (IntKind.i64.wrap (IntKind.i64.wrap ((2 : Int) * ((128 : Nat) : Int)) - (1 : Int)) - IntKind.i64.wrap (((128 : Nat) : Int).tdiv (8 : Int))) = 239 from rfl, aag (x := (239 : Int) - (tail.length : Int)) (by omega) (by omega),
    show (239 : Int) - (tail.length : Int) = ((239 - tail.length : Nat) : Int) by omega, tmN, show IntKind.i64.wrap (((128 : Nat) : Int).tdiv (8 : Int)) = 16 from rfl, aag (x := ((((239 - tail.length) % 128 : Nat) : Int)) + 16) (by omega) (by omega), aag (by omega) (by omega)]
   omega
 have hb : bsz kind = 64 ∨ bsz kind = 128 := by rcases aul kind with ⟨h, e⟩ | ⟨h, e⟩ <;> omega
 have hz2 := bfu kind tail.length
 rw [hz]
 simp only [toNat_cast]
 rw [au (by omega), au (by omega), dx (by omega), au (by omega), au (by omega), shl3, show (8 : Int) = ((8 : Nat) : Int) from rfl, jg _ 8 (by omega) (by omega)]
 have hp : (List.replicate 1 (0 : Int)).set 0 (128 : Int) ++ List.replicate (be8 kind tail.length) (0 : Int) ++ (bsw 8 8 (size * 8 % 2 ^ 64)).reverse = pad kind tail.length size := rfl
 rw [au (by
  show ((List.replicate (be8 kind tail.length) (0 : Int)).length + 0 + 1 + _) * 1 ≤ _
  rw [List.length_replicate, List.length_reverse, abr]; omega), hp]
 have hpl := bfi kind tail.length size
 rw [uf kind words tail _ _ hl hi ht (bi4 _ _ _) (by omega), bdi _ hb _ (an6 _ _ _).2.1]
 unfold bfb
 simp only
 by_cases h2 : kind = 2
 ·have e : bsz kind = 128 := by unfold bsz; rw [if_neg (by omega)]
  rw [dw h2, au (by rw [aho, e]; omega), if_pos h2]
  rfl
 ·rw [bn h2, if_neg h2]
def bhh (kind : Int) : List Int :=
 if kind = 1 then [1779033703, 3144134277, 1013904242, 2773480762, 1359893119, 2600822924, 528734635, 1541459225]
 else if kind = 2 then [14680500436340154072, 7105036623409894663, 10473403895298186519, 1526699215303891257, 7436329637833083697, 10282925794625328401, 15784041429090275239, 5167115440072839076]
 else [7640891576956012808, 13503953896175478587, 4354685564936845355, 11912009170470909681, 5840696475078001361, 11170449401992604703, 2270897969802886507, 6620516959819538809]
theorem bao (kind : Int) : Wok kind (bhh kind) := by
 unfold bhh Wok
 by_cases h1 : kind = 1
 ·simp only [if_pos h1]
  refine ⟨rfl, ?_, fun _ => ?_⟩
  ·unfold In; decide
  ·unfold In; decide
 ·by_cases h2 : kind = 2
  ·simp only [if_neg h1, if_pos h2]
   refine ⟨rfl, ?_, fun h => absurd h h1⟩
   unfold In; decide
  ·simp only [if_neg h1, if_neg h2]
   refine ⟨rfl, ?_, fun h => absurd h h1⟩
   unfold In; decide
def K3 (kind : Int) : Prop := kind = 1 ∨ kind = 2 ∨ kind = 3
theorem awe {kind : Int} (h : K3 kind) {ρ : Type} (k : List Int → Bool → Option ρ) : P.ab3 kind k = k (bhh kind) true := by
 rw [P.al5]
 rcases h with rfl | rfl | rfl <;> kernel_rfl
theorem abj {kind : Int} (h : K3 kind) {ρ : Type} (k : Int → List Int → List Int → Int → Int → Option ρ) : P.abj kind k = k kind (bhh kind) [] 0 0 := by
 rw [P.aqf]; unfold P.aip
 rw [awe h, su, abd]
def bkc (kind : Int) (b : List Int) : List Int := bfb kind (ava kind (bhh kind) b) (rest (bsz kind) b) b.length
theorem axt (b : List Int) (hn : b.length ≤ 1000000) : IntKind.u64.wrap ((0 : Int) + IntKind.u64.wrap (b.length : Int)) = ((b.length : Nat) : Int) := by
 rw [agr _ (by omega), Int.zero_add, agr _ (by omega)]
theorem bgy (kind : Int) (b : List Int) : In 256 (bkc kind b) := bfp _ _ _ _
theorem bcq (kind : Int) (b : List Int) : (bkc kind b).length = if kind = 1 then 32 else if kind = 2 then 48 else 64 := bct _ _ _ _
end Q
end

section
/- SHA-2: bytes that are added one behind the other. -/
namespace Q
open Go Go.Abs
set_option linter.unusedVariables false
set_option linter.unusedSimpArgs false
theorem apm {w : Nat} (p : Par w) (v : List (BitVec w)) (a b : List Int) (m : Nat) (hm : (2 * w) * m = a.length) : ∀ i, thr p v (a ++ b) (m + i) = thr p (thr p v a m) b i ∧ thr p v (a ++ b) m = thr p v a m := by
 have key : ∀ i, i ≤ m → thr p v (a ++ b) i = thr p v a i := by
  intro i
  induction i with
  | zero => intro _; rfl
  | succ i ih =>
   intro hi
   have h1 : (2 * w) * i + 2 * w ≤ a.length := by
    rw [← hm, ← Nat.mul_succ]
    exact Nat.mul_le_mul (Nat.le_refl _) hi
   simp only [thr]
   rw [ih (by omega), List.drop_append_of_le_length (by omega), List.take_append_of_le_length (by rw [List.length_drop]; omega)]
 intro i
 refine ⟨?_, key m (Nat.le_refl _)⟩
 induction i with
 | zero => exact key m (Nat.le_refl _)
 | succ i ih =>
  rw [← Nat.add_assoc]
  simp only [thr]
  rw [ih, Nat.mul_add, hm, List.drop_append, List.drop_eq_nil_of_le (by omega), List.nil_append, Nat.add_sub_cancel_left]
theorem bf8 (words all : List Int) : ava 1 words all = cv (thr p32 (toV 32 words) all (all.length / 64)) := if_pos rfl
theorem beg (words a b : List Int) : ava 1 (ava 1 words a) (rest 64 a ++ b) = ava 1 words (a ++ b) := by
 have hlen := akr p32 (toV 32 words) (ak3 _ _) a (a.length / 64)
 rw [bf8, bf8, bf8, bi6 _ hlen]
 have h0 : a = a.take (64 * (a.length / 64)) ++ rest 64 a := by unfold rest; rw [List.take_append_drop]
 have h1 : (a.take (64 * (a.length / 64))).length = 64 * (a.length / 64) := by rw [List.length_take]; omega
 have h2 := ahk 64 (by omega) a
 have e1 := apm p32 (toV 32 words) (a.take (64 * (a.length / 64))) (rest 64 a ++ b) (a.length / 64) h1.symm ((rest 64 a ++ b).length / 64)
 have e2 := apm p32 (toV 32 words) (a.take (64 * (a.length / 64))) (rest 64 a) (a.length / 64) h1.symm 0
 rw [← List.append_assoc, ← h0] at e1
 rw [← h0] at e2
 rw [e2.2, ← e1.1]
 congr 2
 rw [List.length_append, List.length_append, h2]
 omega
theorem bcs (a b : List Int) : rest 64 (rest 64 a ++ b) = rest 64 (a ++ b) := by
 have h2 := ahk 64 (by omega) a
 have h3 : (a ++ b).drop (64 * (a.length / 64)) = rest 64 a ++ b := by unfold rest; rw [List.drop_append_of_le_length (by omega)]
 have hl : (rest 64 a ++ b).length = a.length % 64 + b.length := by rw [List.length_append, h2]
 have hq : (a ++ b).length / 64 = a.length / 64 + (rest 64 a ++ b).length / 64 := by
  rw [hl, List.length_append]; omega
 show (rest 64 a ++ b).drop (64 * ((rest 64 a ++ b).length / 64)) = (a ++ b).drop (64 * ((a ++ b).length / 64))
 rw [hq, Nat.mul_add, ← List.drop_drop, h3]
theorem bbz (a b : List Int) (n : Nat) (hn : n = (a ++ b).length) : bfb 1 (ava 1 (ava 1 (bhh 1) a) (rest 64 a ++ b)) (rest 64 (rest 64 a ++ b)) n = bkc 1 (a ++ b) := by
 rw [beg, bcs, hn]
 rfl
end Q
end

section
/- lmots: the digits as the program and as the document count them. -/
namespace Q
open Go Go.Abs
set_option linter.unusedVariables false
set_option linter.unusedSimpArgs false
theorem lu {w p s : Nat} (h : Kind w p s) : ∃ t : Int, ∀ {ρ : Type} (k : Int → Int → Int → Bool → Option ρ), P.lu (w : Int) k = k (p : Int) (s : Int) t true := by
 rcases h with ⟨rfl, rfl, rfl⟩ | ⟨rfl, rfl, rfl⟩ | ⟨rfl, rfl, rfl⟩ | ⟨rfl, rfl, rfl⟩ 
 ·exact ⟨1, fun k => by rw [P.zi]; kernel_rfl⟩
 ·exact ⟨2, fun k => by rw [P.zi]; kernel_rfl⟩
 ·exact ⟨3, fun k => by rw [P.zi]; kernel_rfl⟩
 ·exact ⟨4, fun k => by rw [P.zi]; kernel_rfl⟩
theorem bbr (w : Int) : (∃ n p s : Nat, w = (n : Int) ∧ Kind n p s) ∨ (w ≠ 1 ∧ w ≠ 2 ∧ w ≠ 4 ∧ w ≠ 8) := by
 by_cases h1 : w = 1
 ·exact .inl ⟨1, 265, 7, h1, by simp [Kind]⟩
 ·by_cases h2 : w = 2
  ·exact .inl ⟨2, 133, 6, h2, by simp [Kind]⟩
  ·by_cases h4 : w = 4
   ·exact .inl ⟨4, 67, 4, h4, by simp [Kind]⟩
   ·by_cases h8 : w = 8
    ·exact .inl ⟨8, 34, 0, h8, by simp [Kind]⟩
    ·exact .inr ⟨h1, h2, h4, h8⟩
theorem bj0 {w p s : Nat} (h : Kind w p s) : IntKind.i64.wrap (Int.tdiv (256 : Int) (w : Int)) = ((256 / w : Nat) : Int) := by
 rcases h with ⟨rfl, rfl, rfl⟩ | ⟨rfl, rfl, rfl⟩ | ⟨rfl, rfl, rfl⟩ | ⟨rfl, rfl, rfl⟩ <;> rfl
theorem azk {w : Nat} {b : List Int} (hb : In (2 ^ w) b) (t : Nat) : ∃ x : Nat, b.getD t 0 = (x : Int) ∧ x < 2 ^ w := by
 have hp : ((2 : Int) ^ w) = ((2 ^ w : Nat) : Int) := by simp
 have := hb.getD t (by rw [hp]; have := p2 w; omega)
 rw [hp] at this
 exact ⟨(b.getD t 0).toNat, by omega, by omega⟩
theorem bhv {w p s : Nat} (hk : Kind w p s) (x : List Int) (i : Nat) : sumTo (xw x w ((256 / w : Nat) : Int)) i ≤ i * (2 ^ w - 1) := sumTo_le _ w (ant x w _) i
theorem akx {w p s : Nat} (hk : Kind w p s) (x : List Int) (hx : In 256 x) (hl : x.length = 32) {ρ : Type} (k : List Int → Int → Option ρ) : P.vk (w : Int) x k = k (bjg w p s x) 0 := by
 obtain ⟨t, ht⟩ := lu hk
 obtain ⟨f1, f2, f3, f4, f5, f6, f7, f8, f9, f10, f11⟩ := afo hk
 rw [P.ag9]
 unfold P.adn
 have hn : (xw x w ((256 / w : Nat) : Int)).length = 256 / w := by
  rw [ad1 x w _ f1 (by omega) (by omega)]; simp
 rw [ht, su, abd, dh (by omega), dx (by omega), bj0 hk, qd _ _ _ hx (by omega), dx (by omega), hn]
 have hm : IntKind.u64.wrap (((256 / w : Nat) : Int)) = ((256 / w : Nat) : Int) := agr _ (by omega)
 simp only [toNat_cast]
 rw [hm, bfc w (by omega), ← Int.natCast_mul, agr _ (by omega), P.akg]
 unfold P.ag5 P.bku P.bi2 P.blo
 refine ac9 (fun i => ((w : Int), ((256 / w * (2 ^ w - 1) - sumTo (xw x w ((256 / w : Nat) : Int)) i : Nat) : Int), ((256 / w : Nat) : Int), (i : Int), (p : Int), (s : Int), t, xw x w ((256 / w : Nat) : Int))) (256 / w) (by simp [sumTo]) (fun i hi next hn' => ?_) (fun next => ?_) (by omega)
 ·obtain ⟨d, hd, hd2⟩ := azk (w := w) (ant x w ((256 / w : Nat) : Int)) i
  have hle := bhv hk x (i + 1)
  have hle2 : (i + 1) * (2 ^ w - 1) ≤ 256 / w * (2 ^ w - 1) := Nat.mul_le_mul hi (Nat.le_refl _)
  simp only [sumTo, hd, Int.toNat_natCast] at hn' hle
  simp only [P.ad6, toNat_cast]
  rw [hd, agr d (by omega), show ((256 / w * (2 ^ w - 1) - sumTo (xw x w ((256 / w : Nat) : Int)) i : Nat) : Int) - (d : Int) = ((256 / w * (2 ^ w - 1) - (sumTo (xw x w ((256 / w : Nat) : Int)) i + d) : Nat) : Int) by omega, agr _ (by omega)]
  simp (disch := omega) only [au, dx, jr, dh, dw, bn, su, abd, adu, aag, hn]
  exact hn'
 ·simp only [P.ad6]
  have hleft : (256 / w * (2 ^ w - 1) - sumTo (xw x w ((256 / w : Nat) : Int)) (256 / w)) * 2 ^ s = left w s x := rfl
  have hlt := bga hk x
  have hn2 : (xw (bsw 8 2 (left w s x)).reverse w ((p - 256 / w : Nat) : Int)).length = p - 256 / w := by
   rw [ad1 _ w _ f1 (by omega) (by rw [Nat.sub_mul, Nat.mul_comm p w, f5]; simp; omega)]; simp
  rw [dx (by omega), dx (by omega)]
  simp only [toNat_cast]
  rw [mul_pow _ s 64 (by omega), hleft, agr _ (by omega), show (2 : Int) = ((2 : Nat) : Int) from rfl, jg _ 2 (by omega) (by omega), hn, aag (by omega) (by omega), show (p : Int) - ((256 / w : Nat) : Int) = ((p - 256 / w : Nat) : Int) by omega,
   qd _ _ _ (axw 8 2 _).rev (by simp), hn2, au (by omega)]
  unfold bjg
  rw [ayz hk x _ hl (by simp)]
theorem jf {w p s : Nat} (hk : Kind w p s) {ρ : Type} (k : Int → Option ρ) : P.jf (w : Int) k = k ((36 + 32 * p : Nat) : Int) := by
 obtain ⟨t, ht⟩ := lu hk
 obtain ⟨f1, f2, f3, f4, f5, f6, f7, f8, f9, f10, f11⟩ := afo hk
 rw [P.aj2]; unfold P.afm
 rw [ht, su, abd, aag (x := (32 : Int) * (p : Int)) (by omega) (by omega), aag (by omega) (by omega)]; rfl
theorem beh {w p s : Nat} (hk : Kind w p s) (x : List Int) (hl : x.length = 32) : (bjg w p s x).length = p := by
 obtain ⟨f1, f2, f3, f4, f5, f6, f7, f8, f9, f10, f11⟩ := afo hk
 unfold bjg
 rw [ad1 _ w p f1 (by omega) (by rw [Nat.mul_comm, f5]; simp; omega)]; simp
end Q
end

section
/- lmots: sums of a leaf. -/
namespace Q
open Go Go.Abs
set_option linter.unusedVariables false
set_option linter.unusedSimpArgs false
def beN (n s : Nat) : List Int := (bsw 8 s n).reverse
theorem nu (n s : Nat) : (beN n s).length = s := by simp [beN]
theorem aeb (n s : Nat) : In 256 (beN n s) := (axw 8 s n).rev
def atz (id : List Int) (q n : Nat) (l : List (List Int)) : List Int := bkc 1 ((id ++ (beN q 4 ++ beN n 2)) ++ l.flatten)
theorem yt (id : List Int) (q n : Nat) (l : List (List Int)) : (atz id q n l).length = 32 := by
 unfold atz; rw [bcq, if_pos rfl]
theorem ad2 (id : List Int) (q n : Nat) (l : List (List Int)) : In 256 (atz id q n l) := bgy _ _
theorem ayc (a b : Nat) (h : a + b ≤ 1000000) : IntKind.u64.wrap (((a : Nat) : Int) + IntKind.u64.wrap ((b : Nat) : Int)) = ((a + b : Nat) : Int) := by
 rw [agr _ (by omega), ← Int.natCast_add, agr _ (by omega)]
theorem ajw (w : Int) (id : List Int) (q n : Nat) (d s c : Int) (l : List (List Int)) (hid : In 256 id) (h16 : id.length ≤ 300) (hq : q < 4294967296) (hn : n < 18446744073709551616) (hl : In 256 l.flatten) (hc : l.length ≤ 1000000) (hb : l.flatten.length ≤ 900000) {ρ : Type} (k : List Int → Option ρ) :
    P.gq w id (q : Int) d s c (n : Int) l k = k (atz id q n l) := by
 rw [P.afq]; unfold P.ab0
 have hw := bao 1
 have hf : [id, (bsw 8 4 q).reverse, (bsw 8 2 n).reverse].flatten = id ++ (beN q 4 ++ beN n 2) := by simp [beN]
 have hlen : (id ++ (beN q 4 ++ beN n 2)).length = id.length + 6 := by simp [nu]
 have hin : In 256 (id ++ (beN q 4 ++ beN n 2)) := hid.app ((aeb _ _).app (aeb _ _))
 have hr := ahk 64 (by omega) (id ++ (beN q 4 ++ beN n 2))
 have hr2 := ahk 64 (by omega) (rest 64 (id ++ (beN q 4 ++ beN n 2)) ++ l.flatten)
 have hlt := Nat.mod_lt (rest 64 (id ++ (beN q 4 ++ beN n 2)) ++ l.flatten).length (show 0 < 64 by omega)
 rw [abj (.inl rfl), agr _ (by omega), show (4 : Int) = ((4 : Nat) : Int) from rfl, jg q 4 (by omega) (by omega), show (2 : Int) = ((2 : Nat) : Int) from rfl, jg n 2 hn (by omega), d9 _ (by simp) (by rw [hf]; omega), hf,
  uf 1 _ [] _ _ hw.1 hw.2.1 In.nil hin (by rw [hlen, List.length_nil]; omega), List.nil_append, axt _ (by omega), show bsz 1 = 64 from rfl, d9 l (by omega) (by omega),
  uf 1 _ _ _ _ (ajl _ _ _) (an6 _ _ _).2.1 (alg hin) hl (by omega), show bsz 1 = 64 from rfl, ayc _ _ (by omega), abo 1 _ _ _ (ajl _ _ _) (an6 _ _ _).2.1 (alg ((alg hin).app hl)) (by rw [hr2]; exact hlt),
  bbz _ _ _ (by simp only [List.length_append])]
 rfl
def chS (id : List Int) (q i f : Nat) (y : List Int) : Nat → List Int
 | 0 => y
 | j + 1 => atz id q i [[((f + j : Nat) : Int)], chS id q i f y j]
theorem aqw (id : List Int) (q i f : Nat) (y : List Int) (hy : y.length = 32) : ∀ j, (chS id q i f y j).length = 32
 | 0 => hy
 | j + 1 => yt _ _ _ _
theorem axd (id : List Int) (q i f : Nat) (y : List Int) (hy : In 256 y) : ∀ j, In 256 (chS id q i f y j)
 | 0 => hy
 | j + 1 => ad2 _ _ _ _
theorem bas (id : List Int) (q i f : Nat) (y : List Int) (m : Nat) : ∀ n, chS id q i f y (m + n) = chS id q i (f + m) (chS id q i f y m) n
 | 0 => rfl
 | n + 1 => by
  rw [← Nat.add_assoc]
  simp only [chS]
  rw [bas id q i f y m n, Nat.add_assoc]
def uz (id : List Int) (q i : Nat) (seed : List Int) : List Int := atz id q i [[255], seed]
theorem akw (id : List Int) (q i : Nat) (seed : List Int) : In 256 (uz id q i seed) := ad2 _ _ _ _
theorem avr (id : List Int) (q i : Nat) (seed : List Int) : (uz id q i seed).length = 32 := yt _ _ _ _
theorem bev {b : Int} {y : List Int} (hb : 0 ≤ b ∧ b < 256) (hy : In 256 y) : In 256 [[b], y].flatten := by
 have e : [[b], y].flatten = [b] ++ y := by simp
 rw [e]
 refine In.app ?_ hy
 intro x hx
 simp only [List.mem_singleton] at hx
 subst hx; exact hb
theorem ba7 (b : Int) (y : List Int) : [[b], y].flatten.length = y.length + 1 := by simp
theorem aoc (w : Int) (id : List Int) (q i : Nat) (d s c : Int) (seed : List Int) (hid : In 256 id) (h16 : id.length ≤ 300) (hq : q < 4294967296) (hi : i < 18446744073709551616) (hs : In 256 seed) (hsl : seed.length ≤ 300) {ρ : Type} (k : List Int → Option ρ) :
    P.kr w id (q : Int) d s c (i : Int) seed k = k (uz id q i seed) := by
 rw [P.ae8]; unfold P.abk
 rw [ajw w id q i d s c _ hid h16 hq hi (bev (by omega) hs) (by simp) (by rw [ba7]; omega)]
 rfl
theorem akz (w : Int) (id : List Int) (q i f n : Nat) (d s c : Int) (y : List Int) (hid : In 256 id) (h16 : id.length ≤ 300) (hq : q < 4294967296) (hi : i < 100000) (hf : f + n ≤ 256) (hy : In 256 y) (hyl : y.length = 32) {ρ : Type} (k : List Int → Option ρ) :
    P.ji w id (q : Int) d s c (i : Int) (f : Int) (n : Int) y k = k (chS id q i f y n) := by
 rw [P.aek]; unfold P.aa8
 rw [P.agq]
 unfold P.aee P.bj3 P.bjc P.bmt
 refine ac9 (fun j => ((i : Int), (f : Int), chS id q i f y j, (n : Int), (j : Int), w, id, (q : Int), d, s, c)) n rfl (fun j hj next hn' => ?_) (fun next => ?_) (by omega)
 ·simp only [P.abn]
  have e1 : IntKind.u8.wrap (IntKind.u32.wrap ((f : Int) + (j : Int))) = ((f + j : Nat) : Int) := by
   rw [← Int.natCast_add, bcn _ (by omega), u8n _ (by omega)]
  have e2 : IntKind.u32.wrap ((j : Int) + 1) = ((j + 1 : Nat) : Int) := by rw [show ((j : Int) + 1) = ((j + 1 : Nat) : Int) by omega, bcn _ (by omega)]
  have hl := aqw id q i f y hyl j
  rw [au (by omega), agr _ (by omega), e1, e2, ajw w id q i d s c _ hid h16 hq (by omega) (bev (by omega) (axd _ _ _ _ _ hy _)) (by simp) (by rw [ba7]; omega)]
  exact hn'
 ·simp only [P.abn]
  rw [dx (by omega)]
end Q
end
