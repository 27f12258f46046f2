import Derived.Test.YtmaoicbiekgmhaaFBits6
import Derived.Laws.Bits64
open Go Go.Abs Go.Proofs
set_option linter.unusedVariables false
set_option linter.unusedSimpArgs false
namespace BitsLaw

/-- the number of some bytes, the lowest first -/
def val : List Int → Int
  | [] => 0
  | x :: l => x + 256 * val l
def Bytes (l : List Int) : Prop := ∀ x, x ∈ l → 0 ≤ x ∧ x ≤ 255

theorem val_nonneg : ∀ (l : List Int), Bytes l → 0 ≤ val l
  | [], _ => Int.le_refl 0
  | x :: l, h => by
    have := val_nonneg l (fun y hy => h y (List.mem_cons_of_mem _ hy))
    have := h x (List.mem_cons_self ..)
    simp only [val]; omega

theorem or_u64 (x y : Nat) (hx : x < 18446744073709551616) (hy : y < 18446744073709551616) : bits BinOp.or IntKind.u64 (x : Int) (y : Int) = ((x ||| y : Nat) : Int) := by
  have h1 : x ||| y < 18446744073709551616 := by
    have := Nat.or_lt_two_pow (n := 64) (x := x) (y := y) (by simpa using hx) (by simpa using hy)
    simpa using this
  have e : bits BinOp.or IntKind.u64 (x : Int) (y : Int) = IntKind.u64.wrap ((BitVec.ofInt 64 (x : Int) ||| BitVec.ofInt 64 (y : Int)).toNat : Int) := rfl
  rw [e]
  have e2 : (BitVec.ofInt 64 (x : Int) ||| BitVec.ofInt 64 (y : Int)).toNat = x ||| y := by
    rw [BitVec.toNat_or, BitVec.toNat_ofInt, BitVec.toNat_ofInt]
    congr 1 <;> omega
  rw [e2]
  exact IntWalk.u64_in _ ⟨by omega, by omega⟩

theorem or_shift (a x i : Nat) (hx : x < 2 ^ i) : (a * 2 ^ i) ||| x = a * 2 ^ i + x := by
  rw [← Nat.shiftLeft_eq, Nat.shiftLeft_add_eq_or_of_lt hx]

theorem u64w (x : Int) : IntKind.u64.wrap x = x % 18446744073709551616 := by
  rw [IntKind.wrap_u64]

/-- P1.1: a byte more of a number, either way -/
theorem num_step (a x : Int) (ha : 0 ≤ a) (hx : 0 ≤ x ∧ x ≤ 255) :
    bits BinOp.or IntKind.u64 (IntKind.u64.wrap (a * 2 ^ 8)) (IntKind.u64.wrap x) = IntKind.u64.wrap (IntKind.u64.wrap (a * 256) + IntKind.u64.wrap x) := by
  obtain ⟨a, rfl⟩ := Int.eq_ofNat_of_zero_le ha
  obtain ⟨x, rfl⟩ := Int.eq_ofNat_of_zero_le hx.1
  have e1 : IntKind.u64.wrap ((a : Int) * 2 ^ 8) = ((a % 72057594037927936 * 2 ^ 8 : Nat) : Int) := by rw [u64w]; omega
  have e2 : IntKind.u64.wrap ((x : Int)) = ((x : Nat) : Int) := by rw [u64w]; omega
  have e3 : IntKind.u64.wrap ((a : Int) * 256) = ((a % 72057594037927936 * 2 ^ 8 : Nat) : Int) := by rw [u64w]; omega
  rw [e1, e2, e3, or_u64 _ _ (by omega) (by omega), or_shift _ _ _ (by omega), u64w]
  omega

theorem num_eq : ∀ (l : List Int), Bytes l → ∀ a, 0 ≤ a → F34.num a l = F35.num a l
  | [], _, a, _ => rfl
  | x :: l, h, a, ha => by
    have e := num_step a x ha (h x (List.mem_cons_self ..))
    have h2 : F34.num a (x :: l) = F34.num (bits BinOp.or IntKind.u64 (IntKind.u64.wrap (a * 2 ^ 8)) (IntKind.u64.wrap x)) l := rfl
    have h3 : F35.num a (x :: l) = F35.num (IntKind.u64.wrap (IntKind.u64.wrap (a * 256) + IntKind.u64.wrap x)) l := rfl
    rw [h2, h3, e]
    exact num_eq l (fun y hy => h y (List.mem_cons_of_mem _ hy)) _ (by rw [u64w]; omega)

theorem num_append (a x : Int) (l : List Int) : F35.num a (l ++ [x]) = IntKind.u64.wrap (IntKind.u64.wrap (F35.num a l * 256) + IntKind.u64.wrap x) := by
  unfold F35.num
  rw [List.foldl_append]
  rfl
theorem num_val : ∀ (l : List Int), Bytes l → F35.num 0 l.reverse = val l % 18446744073709551616
  | [], _ => rfl
  | x :: l, h => by
    have ih := num_val l (fun y hy => h y (List.mem_cons_of_mem _ hy))
    have := h x (List.mem_cons_self ..)
    rw [List.reverse_cons, num_append, ih, u64w, u64w, u64w]
    simp only [val]
    omega

theorem numLe_val : ∀ (l : List Int), Bytes l → ∀ (a : Int) (i : Nat), 0 ≤ a → a < 2 ^ (8 * i) → i + l.length ≤ 8 → F36.num a l (i : Int) = a + 2 ^ (8 * i) * val l
  | [], _, a, i, _, _, _ => by simp [F36.num, val]
  | x :: l, h, a, i, ha, hlt, hi => by
    have hx := h x (List.mem_cons_self ..)
    obtain ⟨a, rfl⟩ := Int.eq_ofNat_of_zero_le ha
    obtain ⟨x, rfl⟩ := Int.eq_ofNat_of_zero_le hx.1
    simp only [List.length_cons] at hi
    have hlt' : a < 2 ^ (8 * i) := by exact_mod_cast hlt
    have hp : 2 ^ (8 * i) ≤ 2 ^ 56 := Nat.pow_le_pow_right (by omega) (by omega)
    have hxp : x * 2 ^ (8 * i) ≤ 255 * 2 ^ 56 := Nat.mul_le_mul (by omega) hp
    have e1 : IntKind.u64.wrap ((x : Int)) = ((x : Nat) : Int) := by rw [u64w]; omega
    have e2 : min (8 * (i : Int)).toNat 64 = 8 * i := by omega
    have e3 : IntKind.u64.wrap ((x : Int) * 2 ^ (8 * i)) = ((x * 2 ^ (8 * i) : Nat) : Int) := by
      rw [u64w]
      have : ((x : Int) * 2 ^ (8 * i)) = ((x * 2 ^ (8 * i) : Nat) : Int) := by rw [Int.natCast_mul, Int.natCast_pow]; rfl
      rw [this]
      omega
    have e4 : bits BinOp.or IntKind.u64 (a : Int) ((x * 2 ^ (8 * i) : Nat) : Int) = ((a + x * 2 ^ (8 * i) : Nat) : Int) := by
      rw [or_u64 _ _ (by omega) (by omega), Nat.or_comm, or_shift _ _ _ hlt', Nat.add_comm]
    have hp1 : (2 : Nat) ^ (8 * (i + 1)) = 256 * 2 ^ (8 * i) := by rw [show 8 * (i + 1) = 8 + 8 * i by omega, Nat.pow_add]
    simp only [F36.num]
    rw [e1, e2, e3, e4]
    have ih := numLe_val l (fun y hy => h y (List.mem_cons_of_mem _ hy)) ((a + x * 2 ^ (8 * i) : Nat) : Int) (i + 1) (by omega) (by
      have : a + x * 2 ^ (8 * i) < 2 ^ (8 * (i + 1)) := by
        rw [hp1]
        have : x * 2 ^ (8 * i) ≤ 255 * 2 ^ (8 * i) := Nat.mul_le_mul (by omega) (Nat.le_refl _)
        omega
      exact_mod_cast this) (by omega)
    rw [show ((i : Int) + 1) = ((i + 1 : Nat) : Int) by omega, ih]
    simp only [val]
    have hp2 : (2 : Int) ^ (8 * (i + 1)) = 256 * 2 ^ (8 * i) := by
      rw [show 8 * (i + 1) = 8 * i + 8 by omega, Int.pow_add, Int.mul_comm]; rfl
    have hc : ((a + x * 2 ^ (8 * i) : Nat) : Int) = (a : Int) + (x : Int) * 2 ^ (8 * i) := by rw [Int.natCast_add, Int.natCast_mul, Int.natCast_pow]; rfl
    rw [hp2, hc]
    generalize (2 : Int) ^ (8 * i) = t
    rw [Int.mul_add, Int.mul_left_comm t 256, Int.mul_assoc 256 t, Int.mul_comm (x : Int) t]
    omega
theorem val_lt : ∀ (l : List Int), Bytes l → val l < 256 ^ l.length
  | [], _ => by simp [val]
  | x :: l, h => by
    have ih := val_lt l (fun y hy => h y (List.mem_cons_of_mem _ hy))
    have := h x (List.mem_cons_self ..)
    simp only [val, List.length_cons]
    rw [Int.pow_succ]
    omega
theorem val_append : ∀ (l r : List Int), val (l ++ r) = val l + 256 ^ l.length * val r
  | [], r => by simp [val]
  | x :: l, r => by
    simp only [List.cons_append, val, val_append l r, List.length_cons]
    rw [Int.pow_succ, Int.mul_comm (256 ^ l.length) 256, Int.mul_assoc]
    omega
/-- P1.1: NumLe, either way -/
theorem numLe_eq (b : List Int) (h : Bytes b) : F36.num 0 (b.take 8) 0 = F35.num 0 b.reverse := by
  have h8 : Bytes (b.take 8) := fun x hx => h x (List.mem_of_mem_take hx)
  have hd : Bytes (b.drop 8) := fun x hx => h x (List.mem_of_mem_drop hx)
  have e := numLe_val (b.take 8) h8 0 0 (Int.le_refl 0) (by simp) (by simp; omega)
  simp only [Int.natCast_zero, Nat.mul_zero, Int.pow_zero, Int.one_mul, Int.zero_add] at e
  rw [e, num_val b h]
  have ha := val_append (b.take 8) (b.drop 8)
  rw [List.take_append_drop] at ha
  have h0 := val_nonneg _ h8
  have hlt := val_lt _ h8
  by_cases hb : 8 ≤ b.length
  · rw [show (b.take 8).length = 8 by simp; omega] at ha hlt
    rw [ha, show (256 : Int) ^ 8 = 18446744073709551616 by rfl] at *
    omega
  · rw [List.take_of_length_le (by omega)] at *
    have hl : (256 : Int) ^ b.length ≤ 256 ^ 8 := by
      have : (256 : Nat) ^ b.length ≤ 256 ^ 8 := Nat.pow_le_pow_right (by omega) (by omega)
      have h2 : ((256 ^ b.length : Nat) : Int) ≤ ((256 ^ 8 : Nat) : Int) := by omega
      rw [Int.natCast_pow, Int.natCast_pow] at h2
      exact h2
    rw [show (256 : Int) ^ 8 = 18446744073709551616 by rfl] at hl
    omega

/-- a number without its i lowest bytes -/
theorem byte_sh (n : Int) (h0 : 0 ≤ n) (h1 : n ≤ 18446744073709551615) (i : Nat) : n.fdiv (2 ^ min (8 * (i : Int)).toNat 64) = n / 256 ^ i := by
  have e : (8 * (i : Int)).toNat = 8 * i := by omega
  have hp : (2 : Int) ^ (8 * i) = 256 ^ i := by rw [Int.pow_mul]; rfl
  rw [e]
  by_cases hi : i ≤ 8
  · rw [Nat.min_eq_left (by omega), hp, Int.fdiv_eq_ediv_of_nonneg _ (by rw [← hp]; exact Int.le_of_lt (Int.pow_pos (by omega)))]
  · rw [Nat.min_eq_right (by omega), Int.fdiv_eq_ediv_of_nonneg _ (by decide)]
    have h2 : n / 2 ^ 64 = 0 := Int.ediv_eq_zero_of_lt h0 (by omega)
    rw [h2]
    have h3 : (256 : Int) ^ 8 ≤ 256 ^ i := by
      have : (256 : Nat) ^ 8 ≤ 256 ^ i := Nat.pow_le_pow_right (by omega) (by omega)
      have h4 : ((256 ^ 8 : Nat) : Int) ≤ ((256 ^ i : Nat) : Int) := by omega
      rw [Int.natCast_pow, Int.natCast_pow] at h4
      exact h4
    rw [show (256 : Int) ^ 8 = 18446744073709551616 by rfl] at h3
    exact (Int.ediv_eq_zero_of_lt h0 (by omega)).symm

theorem u8w (x : Int) : IntKind.u8.wrap x = x % 256 := IntKind.wrap_u8 x
theorem and_255 (v : Int) (h0 : 0 ≤ v) (h1 : v ≤ 18446744073709551615) : IntKind.u8.wrap (bits BinOp.and IntKind.u64 v 255) = v % 256 := by
  obtain ⟨v, rfl⟩ := Int.eq_ofNat_of_zero_le h0
  have e : bits BinOp.and IntKind.u64 (v : Int) 255 = IntKind.u64.wrap ((BitVec.ofInt 64 (v : Int) &&& BitVec.ofInt 64 255).toNat : Int) := rfl
  have e2 : (BitVec.ofInt 64 (v : Int) &&& BitVec.ofInt 64 255).toNat = v % 256 := by
    rw [BitVec.toNat_and, BitVec.toNat_ofInt, BitVec.toNat_ofInt]
    have h3 : ((v : Int) % ((2 ^ 64 : Nat) : Int)).toNat = v := by omega
    have h4 : ((255 : Int) % ((2 ^ 64 : Nat) : Int)).toNat = 2 ^ 8 - 1 := by rfl
    rw [h3, h4, Nat.and_two_pow_sub_one_eq_mod]
  rw [e, e2, u64w, u8w]
  omega

theorem sh_div (v : Int) (h0 : 0 ≤ v) : F31.sh v = v / 256 := by
  unfold F31.sh
  rw [Int.fdiv_eq_ediv_of_nonneg _ (by decide)]
  rfl

theorem le_be (n : Int) (h0 : 0 ≤ n) (h1 : n ≤ 18446744073709551615) : ∀ (k i : Nat), F32.le n i k = (F31.be (n / 256 ^ i) k).reverse
  | 0, i => rfl
  | k + 1, i => by
    have hd0 : 0 ≤ n / 256 ^ i := Int.ediv_nonneg h0 (Int.le_of_lt (Int.pow_pos (by omega)))
    have hd1 : n / 256 ^ i ≤ 18446744073709551615 := Int.le_trans (Int.ediv_le_self _ h0) h1
    simp only [F32.le, F31.be, List.reverse_append, List.reverse_cons, List.reverse_nil, List.nil_append, List.cons_append]
    rw [le_be n h0 h1 k (i + 1), and_255 _ hd0 hd1, sh_div _ hd0, Int.pow_succ, ← Int.ediv_ediv_of_nonneg (Int.le_of_lt (Int.pow_pos (by omega)))]
    congr 1
    unfold F32.byte
    rw [byte_sh n h0 h1, u8w]

theorem le_zero (n : Int) (h0 : 0 ≤ n) (h1 : n ≤ 18446744073709551615) : ∀ (k i : Nat), 8 ≤ i → F32.le n i k = List.replicate k 0
  | 0, i, _ => rfl
  | k + 1, i, hi => by
    simp only [F32.le, List.replicate_succ]
    rw [le_zero n h0 h1 k (i + 1) (by omega)]
    congr 1
    unfold F32.byte
    have e : (8 * (i : Int)).toNat = 8 * i := by omega
    rw [e, Nat.min_eq_right (by omega), Int.fdiv_eq_ediv_of_nonneg _ (by decide), Int.ediv_eq_zero_of_lt h0 (by omega)]
    rfl
theorem le_split (n : Int) : ∀ (a b i : Nat), F32.le n i (a + b) = F32.le n i a ++ F32.le n (i + a) b
  | 0, b, i => by simp [F32.le]
  | a + 1, b, i => by
    rw [show a + 1 + b = (a + b) + 1 by omega]
    simp only [F32.le, List.cons_append]
    rw [le_split n a b (i + 1), show i + 1 + a = i + (a + 1) by omega]
/-- P1.1: bytes of a number, either way -/
theorem text_eq (n w : Int) (h0 : 0 ≤ n) (h1 : n ≤ 18446744073709551615) : F32.text n w = (F31.text n w).reverse := by
  unfold F32.text F31.text
  by_cases hw : 0 ≤ w ∧ w ≤ 65536
  · rw [if_pos hw, if_pos hw]
    have e := le_be n h0 h1 w.toNat 0
    rw [show (256 : Int) ^ 0 = 1 by rfl, Int.ediv_one] at e
    rw [← e]
    by_cases h8 : w.toNat ≤ 8
    · rw [Nat.min_eq_right h8, show w.toNat - 8 = 0 by omega]
      simp
    · rw [Nat.min_eq_left (by omega)]
      have := le_split n 8 (w.toNat - 8) 0
      rw [show 8 + (w.toNat - 8) = w.toNat by omega, le_zero n h0 h1 _ (0 + 8) (by omega)] at this
      exact this.symm
  · rw [if_neg hw, if_neg hw]; rfl
end BitsLaw
