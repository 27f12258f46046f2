/-
  BitsBack, part L: an interpreter of my own over abstract values, the pure functions, the walks and the plain law.
-/

import Derived.Test.YtmaoicbiekgmhaaBitsBackK
import Derived.Test.YtmaoicbiekgmhaaBitsBackG

/- The plain law of BitsBack. -/
namespace Q
open Go Go.Abs
set_option linter.unusedVariables false
set_option linter.unusedSimpArgs false

theorem In.mono {m n : Int} {l : List Int} (h : In m l) (hmn : m ≤ n) : In n l := fun x hx => ⟨(h x hx).1, by have := (h x hx).2; omega⟩
theorem bsw8_in (n X : Nat) : In 256 (bsw 8 n X) := bsw_in 8 n X

theorem unpack_pack (l : List Int) (w : Nat) (h1 : 1 ≤ w) (h2 : w ≤ 24) (h : In 4294967296 l) : unpackS (packS l (w : Int)) (w : Int) (l.length : Int) = bsw w l.length (T w l) := by
  have hc := ceil8_le (w * l.length)
  have hp : packS l (w : Int) = bsw 8 (ceil8 (w * l.length)) (T w l) := by unfold packS; rw [if_pos (by omega)]; rfl
  have hs : Such (ceil8 (w * l.length)) (w : Int) (l.length : Int) := by
    refine ⟨by omega, by omega, by omega, ?_⟩
    rw [← Int.natCast_mul, Nat.mul_comm l.length w]; omega
  rw [hp]
  unfold unpackS
  rw [bsw_length, if_pos hs, T_bsw, toNat_cast, toNat_cast, bsw_mod _ _ _ _ hc]

theorem pack_unpack (c : List Int) (n : Nat) (hl : c.length = 3 * n) (h : In 256 c) : packS (unpackS c 12 ((2 * n : Nat) : Int)) 12 = c := by
  unfold packS unpackS
  rw [if_pos (by omega), if_pos (by refine ⟨by omega, by omega, by omega, by omega⟩)]
  simp only [toNat_cast, bsw_length, show ((12 : Int)).toNat = 12 from rfl]
  have hlt := T_lt 8 c
  rw [T_bsw, Nat.mod_eq_of_lt (by rw [show 12 * (2 * n) = 8 * c.length by omega]; exact hlt), show ceil8 (12 * (2 * n)) = c.length by unfold ceil8; omega]
  exact bsw_T 8 c h

theorem xor_xor (a b : List Int) (ha : In 256 a) (hb : In 256 b) : xorS (xorS a b) b = a.take (min a.length b.length) := by
  refine List.ext_getElem (by simp [xorS]) (fun i h1 h2 => ?_)
  have hi : i < min a.length b.length := by simpa [xorS] using h1
  obtain ⟨x, hx, hx2, _⟩ := byte_at ha i
  obtain ⟨y, hy, hy2, _⟩ := byte_at hb i
  rw [List.getElem_take, ← getD_lt (l := a) (d := 0), hx]
  simp only [xorS, List.getElem_map, List.getElem_range]
  rw [map_getD _ _ hi, hx, hy, xor_u8 x y hx2 hy2, xor_u8 _ _ (Nat.xor_lt_two_pow (n := 8) hx2 hy2) hy2, Nat.xor_assoc, Nat.xor_self, Nat.xor_zero]

theorem digits8 (a : List Int) (h : In 256 a) (hn : a.length ≤ 1000000) : digitsS a 8 (a.length : Int) = a := by
  unfold digitsS
  rw [if_pos (by refine ⟨by omega, by omega, by omega, by omega⟩)]
  refine List.ext_getElem (by simp) (fun i h1 h2 => ?_)
  simp only [List.getElem_map, List.getElem_range]
  have e := rev_getD a i h2
  obtain ⟨x, hx, hx2, hx3⟩ := byte_at h i
  rw [← getD_lt (d := 0) h2, hx]
  unfold dg
  simp only [show ((8 : Int)).toNat = 8 from rfl]
  rw [show 8 * a.length - 8 * (i + 1) = 8 * (a.length - 1 - i) by omega, ← e, ← hx3]

theorem BitsBack (x0 : Int) (x1 : List Int) (x2 : Int) (x3 : List Int) (x4 : List Int) (wx0 : wfI .u64 x0) (nx1 : x1.length ≤ 140737488355328) (wx1 : ∀ x, x ∈ x1 → wfI .u32 x) (wx2 : wfI .u8 x2) (nx3 : x3.length ≤ 140737488355328) (wx3 : ∀ x, x ∈ x3 → wfI .u8 x) (nx4 : x4.length ≤ 140737488355328) (wx4 : ∀ x, x ∈ x4 → wfI .u8 x) {ρ : Type} (k : Bool → Option ρ) : P.L01_BitsBack x0 x1 x2 x3 x4 k = k true := by
  rw [P.L01_BitsBack_eq]
  unfold P.L01_BitsBack_raw
  by_cases g1 : (x1.length : Int) > 400
  · rw [br_pos g1, L01_awake]
  rw [br_neg g1, i64w (by omega) (by omega)]
  by_cases g2 : (x3.length : Int) + x4.length > 1000
  · rw [br_pos g2, L01_awake]
  have h1 := in_u32 wx1
  have h3 := in_u8 wx3
  have h4 := in_u8 wx4
  have h0 := wf_u64 wx0
  have h2 := wf_u8 wx2
  obtain ⟨n, rfl⟩ := Int.eq_ofNat_of_zero_le h0.1
  obtain ⟨a, rfl⟩ := Int.eq_ofNat_of_zero_le h2.1
  have ew : IntKind.i64.wrap ((1 : Int) + IntKind.i64.wrap (((a : Nat) : Int).tmod (24 : Int))) = ((1 + a % 24 : Nat) : Int) := by
    rw [Int.tmod_eq_emod_of_nonneg (by omega), i64w (x := (a : Int) % 24) (by omega) (by omega), i64w (by omega) (by omega)]; omega
  have hw1 : 1 ≤ 1 + a % 24 := by omega
  have hw2 : 1 + a % 24 ≤ 24 := by omega
  simp only [ew]
  generalize 1 + a % 24 = w at hw1 hw2
  have hwl : w * x1.length ≤ 24 * x1.length := Nat.mul_le_mul hw2 (Nat.le_refl _)
  have hc := ceil8_lt (w * x1.length)
  have hpl : (packS x1 (w : Int)).length ≤ 1000000 := by
    unfold packS
    rw [if_pos (by omega)]; simp; omega
  have hpi : In 256 (packS x1 (w : Int)) := by
    unfold packS
    rw [if_pos (by omega)]; exact bsw8_in _ _
  rw [br_neg g2, show (8 : Int) = ((8 : Nat) : Int) from rfl, bits_Be n 8 (by omega) (by omega), bits_Num _ (bsw8_in _ _).rev (by simp), List.reverse_reverse, T_bsw, br_bne_neg (by omega),
    bits_Le n 8 (by omega) (by omega), bits_NumLe _ (bsw8_in _ _) (by simp), List.take_of_length_le (by simp), T_bsw, br_bne_neg (by omega),
    show (3 : Int) = ((3 : Nat) : Int) from rfl, bits_Be n 3 (by omega) (by omega), bits_Num _ (bsw8_in _ _).rev (by simp), List.reverse_reverse, T_bsw, Int.tmod_eq_emod_of_nonneg (by omega), br_bne_neg (by omega),
    bits_Pack _ _ h1 (by omega), bits_Unpack _ _ _ hpi hpl, unpack_pack x1 w hw1 hw2 h1, bsw_length, br_bne_neg rfl, P.L01_BitsBack_l10_eq]
  unfold P.L01_BitsBack_L10
  generalize packS x1 (w : Int) = q8 at hpl hpi
  generalize (bsw 8 8 n).reverse = q2
  generalize bsw 8 8 n = q4
  generalize (bsw 8 3 n).reverse = q6
  refine lp_go (fun i => (x3, x4, (w : Int), x1, (x1.length : Int), (i : Int), q2, q4, q6, q8, bsw w x1.length (T w x1))) x1.length rfl (fun i hi next hn' => ?_) (fun next => ?_) (by omega)
  · obtain ⟨x, hx, hx2⟩ := num_at h1 (by omega) i
    have hw3 : 2 ^ w ≤ 2 ^ 24 := p2_le (by omega)
    have hw4 := p2 w
    have em : IntKind.u32.wrap ((1 : Int) * (2 : Int) ^ min w 32) = ((2 ^ w : Nat) : Int) := by
      rw [show (1 : Int) = ((1 : Nat) : Int) from rfl, mul_pow 1 w 32 (by omega), u32n _ (by omega)]; omega
    have et : (x : Int).tmod ((2 ^ w : Nat) : Int) = ((x % 2 ^ w : Nat) : Int) := by
      rw [Int.tmod_eq_emod_of_nonneg (by omega)]; exact (Int.natCast_emod x (2 ^ w)).symm
    simp only [P.L01_BitsBack_r10, toNat_cast, bsw_length, Sum.elim_inl, Sum.elim_inr, em]
    rw [bsw_getD _ _ _ _ hi, T_getD, hx, Int.toNat_natCast, et]
    simp (disch := omega) only [br_pos, br_neg, br_bne_pos, br_bne_neg, br_beq_pos, br_beq_neg, br_not, br_tt, br_ff, i64w]
    exact hn'
  · simp only [P.L01_BitsBack_r10, Sum.elim_inl, Sum.elim_inr]
    have e3 : IntKind.i64.wrap (IntKind.i64.wrap ((x3.length : Int).tdiv (3 : Int)) * (3 : Int)) = ((x3.length / 3 * 3 : Nat) : Int) := by
      rw [Int.tdiv_eq_ediv_of_nonneg (by omega), i64w (x := (x3.length : Int) / 3) (by omega) (by omega), i64w (by omega) (by omega)]; omega
    have hlen : (List.drop 0 (List.take (x3.length / 3 * 3) x3)).length = 3 * (x3.length / 3) := by simp; omega
    have e4 : IntKind.i64.wrap ((IntKind.i64.wrap (((3 * (x3.length / 3) : Nat) : Int) * (2 : Int))).tdiv (3 : Int)) = ((2 * (x3.length / 3) : Nat) : Int) := by
      rw [i64w (x := ((3 * (x3.length / 3) : Nat) : Int) * (2 : Int)) (by omega) (by omega), Int.tdiv_eq_ediv_of_nonneg (by omega), i64w (by omega) (by omega)]; omega
    have hci : In 256 (List.drop 0 (List.take (x3.length / 3 * 3) x3)) := (h3.take _).drop _
    have hup : In 4294967296 (unpackS (List.drop 0 (List.take (x3.length / 3 * 3) x3)) 12 ((2 * (x3.length / 3) : Nat) : Int)) := by
      unfold unpackS
      split
      · exact (bsw_in 12 _ _).mono (by decide)
      · exact In.nil
    have hul : (unpackS (List.drop 0 (List.take (x3.length / 3 * 3) x3)) 12 ((2 * (x3.length / 3) : Nat) : Int)).length ≤ 1000000 := by
      unfold unpackS
      split
      · simp; omega
      · simp
    simp only [show ((3 : Nat) : Int) = (3 : Int) from rfl, show ((8 : Nat) : Int) = (8 : Int) from rfl, e3, toNat_cast, hlen, e4]
    rw [br_neg (by omega), br_pos (by omega), br_pos (by omega), bits_Unpack _ _ _ hci (by omega), bits_Pack _ _ hup hul, pack_unpack _ _ hlen hci, R01_Same _ _ (by omega), decide_eq_true rfl, br_not, br_tt,
      bits_Digits _ _ _ h3 (by omega), digits8 _ h3 (by omega), P.L01_BitsBack_l20_eq]
    unfold P.L01_BitsBack_L20
    generalize unpackS (List.drop 0 (List.take (x3.length / 3 * 3) x3)) 12 ((2 * (x3.length / 3) : Nat) : Int) = u1
    refine lp_go (fun i => (x3, x4, (x3.length : Int), (i : Int), _, _, _, _, _, _, _, x3)) x3.length rfl (fun i hi next hn' => ?_) (fun next => ?_) (by omega)
    · obtain ⟨x, hx, hx2, hx3⟩ := byte_at h3 i
      simp only [P.L01_BitsBack_r20, toNat_cast, Sum.elim_inl, Sum.elim_inr]
      rw [hx, u32n _ (by omega)]
      simp (disch := omega) only [br_pos, br_neg, br_bne_pos, br_bne_neg, br_beq_pos, br_beq_neg, br_not, br_tt, br_ff, i64w]
      exact hn'
    · simp only [P.L01_BitsBack_r20, Sum.elim_inl, Sum.elim_inr]
      have em : (bif decide ((x4.length : Int) < (x3.length : Int)) then (x4.length : Int) else (x3.length : Int)) = ((min x3.length x4.length : Nat) : Int) := by
        by_cases h : (x4.length : Int) < (x3.length : Int)
        · rw [decide_eq_true h]; simp only [cond_true]; omega
        · rw [decide_eq_false h]; simp only [cond_false]; omega
      simp only [em, toNat_cast]
      have hxl : (xorS x3 x4).length = min x3.length x4.length := by simp [xorS]
      rw [br_neg (by omega), br_beq_pos rfl, bits_Xor _ _ (by omega) (by omega), bits_Xor _ _ (by omega) (by omega), xor_xor _ _ h3 h4, List.drop_zero, br_pos (by omega), br_pos (by omega), R01_Same _ _ (by simp; omega), decide_eq_true rfl, br_tt, L01_awake]
end Q
