/-
  LmotsRight, part P: an interpreter of my own over abstract values, the pure functions, the walks and the plain law.
-/

import Derived.Test.YtknjpkgnideplaaDoorLmotsRightF
import Derived.Test.YtknjpkgnideplaaDoorLmotsRightO
import Derived.Test.YtknjpkgnideplaaDoorLmotsRightN
import Derived.Test.YtknjpkgnideplaaDoorLmotsRightM
import Derived.Test.YtknjpkgnideplaaDoorLmotsRightH

section
open Go Go.Abs
set_option linter.unusedVariables false
namespace P
noncomputable def R14_Public_r7 {ρ : Type} (v0 : Int) (v1 : List Int) (v2 : Int) (v3 : List Int) (v11 : Int) (v15 : Int) (h0 : List (List Int)) (nx : Int → (List Int) → Int → (List Int) → Int → Int → (List (List Int)) → Option ρ) (k0 : Int → (List Int) → Int → (List Int) → Int → Int → (List (List Int)) → Option ρ) : Option ρ :=
  br (decide (v15 < v11))
    (br (decide (v0 < (0 : Int))) none
      (R14_part v1 v2 v15 v3 fun (q0 : List Int) =>
        R14_chain v1 v2 v15 (0 : Int)
          (IntKind.i64.wrap (IntKind.i64.wrap ((1 : Int) * (2 : Int) ^ min v0.toNat 64) - (1 : Int))) q0
          fun (q1 : List Int) =>
          br
            (decide
              ((h0.length + 1) * 24 ≤
                140737488355328))
            (nx v0 v1 v2 v3 v11 (IntKind.i64.wrap (v15 + (1 : Int))) (h0 ++ [q1])) none))
    (k0 v0 v1 v2 v3 v11 v15 h0)
noncomputable def R14_Public_L7 {ρ : Type} (v0 : Int) (v1 : List Int) (v2 : Int) (v3 : List Int) (v11 : Int) (v15 : Int) (h0 : List (List Int)) (k0 : Int → (List Int) → Int → (List Int) → Int → Int → (List (List Int)) → Option ρ) : Option ρ :=
  lp (fun (x : Int × (List Int) × Int × (List Int) × Int × Int × (List (List Int))) (next : (Int × (List Int) × Int × (List Int) × Int × Int × (List (List Int))) → Option ρ) (ex : ((Int × (List Int) × Int × (List Int) × Int × Int × (List (List Int)))) → Option ρ) => R14_Public_r7 x.1 x.2.1 x.2.2.1 x.2.2.2.1 x.2.2.2.2.1 x.2.2.2.2.2.1 x.2.2.2.2.2.2 (fun v0 v1 v2 v3 v11 v15 h0 => next (v0, v1, v2, v3, v11, v15, h0)) (fun v0 v1 v2 v3 v11 v15 h0 => ex ((v0, v1, v2, v3, v11, v15, h0)))) (v0, v1, v2, v3, v11, v15, h0) (fun x => k0 x.1 x.2.1 x.2.2.1 x.2.2.2.1 x.2.2.2.2.1 x.2.2.2.2.2.1 x.2.2.2.2.2.2)
noncomputable def R14_Public_l7 {ρ : Type} (v0 : Int) (v1 : List Int) (v2 : Int) (v3 : List Int) (v11 : Int) (v15 : Int) (h0 : List (List Int)) (k0 : Int → (List Int) → Int → (List Int) → Int → Int → (List (List Int)) → Option ρ) : Option ρ := shut (R14_Public_L7 (ρ := ρ)) v0 v1 v2 v3 v11 v15 h0 k0
theorem R14_Public_l7_eq {ρ : Type} (v0 : Int) (v1 : List Int) (v2 : Int) (v3 : List Int) (v11 : Int) (v15 : Int) (h0 : List (List Int)) (k0 : Int → (List Int) → Int → (List Int) → Int → Int → (List (List Int)) → Option ρ) : R14_Public_l7 v0 v1 v2 v3 v11 v15 h0 k0 = R14_Public_L7 v0 v1 v2 v3 v11 v15 h0 k0 := by unfold R14_Public_l7; rw [shut_eq]
noncomputable def R14_Public_raw {ρ : Type} (a0 : Int) (a1 : List Int) (a2 : Int) (a3 : List Int) (k : (List Int) → Int → Option ρ) : Option ρ :=
  R14_wrong a0 a1 a3 fun (q0 : Int) =>
    br (q0 != (0 : Int)) (k [] q0)
      (R14_Kind a0 fun (q1 q2 q3 : Int) =>
        R14_Public_l7 a0 a1 a2 a3 q1 (0 : Int) []
          fun (q4 : Int) (q5 : List Int) (q6 : Int) (q7 : List Int) (q8 q9 : Int) (q10 : List (List Int)) =>
          R14_key q5 q6 q10 fun (q11 : List Int) => k q11 (0 : Int))
noncomputable def R14_Public {ρ : Type} (a0 : Int) (a1 : List Int) (a2 : Int) (a3 : List Int) (k : (List Int) → Int → Option ρ) : Option ρ := shut (R14_Public_raw (ρ := ρ)) a0 a1 a2 a3 k
theorem R14_Public_eq {ρ : Type} (a0 : Int) (a1 : List Int) (a2 : Int) (a3 : List Int) (k : (List Int) → Int → Option ρ) : R14_Public a0 a1 a2 a3 k = R14_Public_raw a0 a1 a2 a3 k := by unfold R14_Public; rw [shut_eq]

end P
end

section
open Go Go.Abs
set_option linter.unusedVariables false
namespace P
noncomputable def R14_digest_raw {ρ : Type} (a0 : List Int) (a1 : Int) (a2 : List Int) (a3 : List Int) (k : (List Int) → Option ρ) : Option ρ :=
  R01_Be (IntKind.u64.wrap a1) (4 : Int) fun (q0 : List Int) =>
    R01_Be (33153 : Int) (2 : Int) fun (q1 : List Int) => R14_H [a0, q0, q1, a2, a3] fun (q2 : List Int) => k q2
noncomputable def R14_digest {ρ : Type} (a0 : List Int) (a1 : Int) (a2 : List Int) (a3 : List Int) (k : (List Int) → Option ρ) : Option ρ := shut (R14_digest_raw (ρ := ρ)) a0 a1 a2 a3 k
theorem R14_digest_eq {ρ : Type} (a0 : List Int) (a1 : Int) (a2 : List Int) (a3 : List Int) (k : (List Int) → Option ρ) : R14_digest a0 a1 a2 a3 k = R14_digest_raw a0 a1 a2 a3 k := by unfold R14_digest; rw [shut_eq]

end P
end

section
open Go Go.Abs
set_option linter.unusedVariables false
namespace P
noncomputable def R14_Sign_r9 {ρ : Type} (v1 : List Int) (v2 : Int) (v3 : List Int) (v20 : Int) (h40 : List (List Int)) (h2 : List Int) (nx : (List Int) → Int → (List Int) → Int → (List (List Int)) → (List Int) → Option ρ) (k0 : (List Int) → Int → (List Int) → Int → (List (List Int)) → (List Int) → Option ρ) : Option ρ :=
  br (decide (v20 < (↑h2.length : Int)))
    (br (decide ((0 : Int) ≤ v20))
      (br (decide (v20 < (↑h2.length : Int)))
        (R14_part v1 v2 v20 v3 fun (q0 : List Int) =>
          R14_chain v1 v2 v20 (0 : Int) (IntKind.i64.wrap (h2.getD v20.toNat (0 : Int))) q0 fun (q1 : List Int) =>
            br
              (decide
                ((h40.length + 1) * 24 ≤
                  140737488355328))
              (nx v1 v2 v3 (IntKind.i64.wrap (v20 + (1 : Int))) (h40 ++ [q1]) h2) none)
        none)
      none)
    (k0 v1 v2 v3 v20 h40 h2)
noncomputable def R14_Sign_L9 {ρ : Type} (v1 : List Int) (v2 : Int) (v3 : List Int) (v20 : Int) (h40 : List (List Int)) (h2 : List Int) (k0 : (List Int) → Int → (List Int) → Int → (List (List Int)) → (List Int) → Option ρ) : Option ρ :=
  lp (fun (x : (List Int) × Int × (List Int) × Int × (List (List Int)) × (List Int)) (next : ((List Int) × Int × (List Int) × Int × (List (List Int)) × (List Int)) → Option ρ) (ex : (((List Int) × Int × (List Int) × Int × (List (List Int)) × (List Int))) → Option ρ) => R14_Sign_r9 x.1 x.2.1 x.2.2.1 x.2.2.2.1 x.2.2.2.2.1 x.2.2.2.2.2 (fun v1 v2 v3 v20 h40 h2 => next (v1, v2, v3, v20, h40, h2)) (fun v1 v2 v3 v20 h40 h2 => ex ((v1, v2, v3, v20, h40, h2)))) (v1, v2, v3, v20, h40, h2) (fun x => k0 x.1 x.2.1 x.2.2.1 x.2.2.2.1 x.2.2.2.2.1 x.2.2.2.2.2)
noncomputable def R14_Sign_l9 {ρ : Type} (v1 : List Int) (v2 : Int) (v3 : List Int) (v20 : Int) (h40 : List (List Int)) (h2 : List Int) (k0 : (List Int) → Int → (List Int) → Int → (List (List Int)) → (List Int) → Option ρ) : Option ρ := shut (R14_Sign_L9 (ρ := ρ)) v1 v2 v3 v20 h40 h2 k0
theorem R14_Sign_l9_eq {ρ : Type} (v1 : List Int) (v2 : Int) (v3 : List Int) (v20 : Int) (h40 : List (List Int)) (h2 : List Int) (k0 : (List Int) → Int → (List Int) → Int → (List (List Int)) → (List Int) → Option ρ) : R14_Sign_l9 v1 v2 v3 v20 h40 h2 k0 = R14_Sign_L9 v1 v2 v3 v20 h40 h2 k0 := by unfold R14_Sign_l9; rw [shut_eq]
noncomputable def R14_Sign_raw {ρ : Type} (a0 : Int) (a1 : List Int) (a2 : Int) (a3 : List Int) (a4 : List Int) (k : (List Int) → Int → Option ρ) : Option ρ :=
  R14_wrong a0 a1 a3 fun (q0 : Int) =>
    br (q0 != (0 : Int)) (k [] q0)
      (R14_Kind a0 fun (q1 q2 q3 : Int) =>
        R14_part a1 a2 (65533 : Int) a3 fun (q4 : List Int) =>
          R14_digest a1 a2 q4 a4 fun (q5 : List Int) =>
            R14_Digits a0 q5 fun (q6 : List Int) (q7 : Int) =>
              R01_Be q3 (4 : Int) fun (q8 : List Int) =>
                R14_Sign_l9 a1 a2 a3 (0 : Int) [q8, q4] q6
                  fun (q9 : List Int) (q10 : Int) (q11 : List Int) (q12 : Int) (q13 : List (List Int)) (q14 : List Int) =>
                  R01_Join q13 fun (q15 : List Int) => k q15 (0 : Int))
noncomputable def R14_Sign {ρ : Type} (a0 : Int) (a1 : List Int) (a2 : Int) (a3 : List Int) (a4 : List Int) (k : (List Int) → Int → Option ρ) : Option ρ := shut (R14_Sign_raw (ρ := ρ)) a0 a1 a2 a3 a4 k
theorem R14_Sign_eq {ρ : Type} (a0 : Int) (a1 : List Int) (a2 : Int) (a3 : List Int) (a4 : List Int) (k : (List Int) → Int → Option ρ) : R14_Sign a0 a1 a2 a3 a4 k = R14_Sign_raw a0 a1 a2 a3 a4 k := by unfold R14_Sign; rw [shut_eq]

end P
end

section
open Go Go.Abs
set_option linter.unusedVariables false
namespace P
noncomputable def R14_Candidate_r11 {ρ : Type} (v0 : Int) (v1 : List Int) (v2 : Int) (v4 : List Int) (v12 : Int) (v18 : Int) (h40 : List (List Int)) (h1 : List Int) (nx : Int → (List Int) → Int → (List Int) → Int → Int → (List (List Int)) → (List Int) → Option ρ) (k0 : Int → (List Int) → Int → (List Int) → Int → Int → (List (List Int)) → (List Int) → Option ρ) : Option ρ :=
  br (decide (v18 < v12))
    (br (decide ((0 : Int) ≤ v18))
      (br (decide (v18 < (↑h1.length : Int)))
        (br (decide (v0 < (0 : Int))) none
          (br (decide ((0 : Int) ≤ IntKind.i64.wrap ((36 : Int) + IntKind.i64.wrap ((32 : Int) * v18))))
            (br
              (decide
                (IntKind.i64.wrap ((36 : Int) + IntKind.i64.wrap ((32 : Int) * v18)) ≤
                  IntKind.i64.wrap ((68 : Int) + IntKind.i64.wrap ((32 : Int) * v18))))
              (br (decide (IntKind.i64.wrap ((68 : Int) + IntKind.i64.wrap ((32 : Int) * v18)) ≤ (↑v4.length : Int)))
                (R14_chain v1 v2 v18 (IntKind.i64.wrap (h1.getD v18.toNat (0 : Int)))
                  (IntKind.i64.wrap (IntKind.i64.wrap ((1 : Int) * (2 : Int) ^ min v0.toNat 64) - (1 : Int)))
                  (List.drop (IntKind.i64.wrap ((36 : Int) + IntKind.i64.wrap ((32 : Int) * v18))).toNat
                    (List.take (IntKind.i64.wrap ((68 : Int) + IntKind.i64.wrap ((32 : Int) * v18))).toNat v4))
                  fun (q0 : List Int) =>
                  br
                    (decide
                      ((h40.length + 1) *
                          24 ≤
                        140737488355328))
                    (nx v0 v1 v2 v4 v12 (IntKind.i64.wrap (v18 + (1 : Int))) (h40 ++ [q0]) h1) none)
                none)
              none)
            none))
        none)
      none)
    (k0 v0 v1 v2 v4 v12 v18 h40 h1)
noncomputable def R14_Candidate_L11 {ρ : Type} (v0 : Int) (v1 : List Int) (v2 : Int) (v4 : List Int) (v12 : Int) (v18 : Int) (h40 : List (List Int)) (h1 : List Int) (k0 : Int → (List Int) → Int → (List Int) → Int → Int → (List (List Int)) → (List Int) → Option ρ) : Option ρ :=
  lp (fun (x : Int × (List Int) × Int × (List Int) × Int × Int × (List (List Int)) × (List Int)) (next : (Int × (List Int) × Int × (List Int) × Int × Int × (List (List Int)) × (List Int)) → Option ρ) (ex : ((Int × (List Int) × Int × (List Int) × Int × Int × (List (List Int)) × (List Int))) → Option ρ) => R14_Candidate_r11 x.1 x.2.1 x.2.2.1 x.2.2.2.1 x.2.2.2.2.1 x.2.2.2.2.2.1 x.2.2.2.2.2.2.1 x.2.2.2.2.2.2.2 (fun v0 v1 v2 v4 v12 v18 h40 h1 => next (v0, v1, v2, v4, v12, v18, h40, h1)) (fun v0 v1 v2 v4 v12 v18 h40 h1 => ex ((v0, v1, v2, v4, v12, v18, h40, h1)))) (v0, v1, v2, v4, v12, v18, h40, h1) (fun x => k0 x.1 x.2.1 x.2.2.1 x.2.2.2.1 x.2.2.2.2.1 x.2.2.2.2.2.1 x.2.2.2.2.2.2.1 x.2.2.2.2.2.2.2)
noncomputable def R14_Candidate_l11 {ρ : Type} (v0 : Int) (v1 : List Int) (v2 : Int) (v4 : List Int) (v12 : Int) (v18 : Int) (h40 : List (List Int)) (h1 : List Int) (k0 : Int → (List Int) → Int → (List Int) → Int → Int → (List (List Int)) → (List Int) → Option ρ) : Option ρ := shut (R14_Candidate_L11 (ρ := ρ)) v0 v1 v2 v4 v12 v18 h40 h1 k0
theorem R14_Candidate_l11_eq {ρ : Type} (v0 : Int) (v1 : List Int) (v2 : Int) (v4 : List Int) (v12 : Int) (v18 : Int) (h40 : List (List Int)) (h1 : List Int) (k0 : Int → (List Int) → Int → (List Int) → Int → Int → (List (List Int)) → (List Int) → Option ρ) : R14_Candidate_l11 v0 v1 v2 v4 v12 v18 h40 h1 k0 = R14_Candidate_L11 v0 v1 v2 v4 v12 v18 h40 h1 k0 := by unfold R14_Candidate_l11; rw [shut_eq]
noncomputable def R14_Candidate_raw {ρ : Type} (a0 : Int) (a1 : List Int) (a2 : Int) (a3 : List Int) (a4 : List Int) (k : (List Int) → Int → Option ρ) : Option ρ :=
  R14_Kind a0 fun (q0 q1 q2 : Int) =>
    br (q0 == (0 : Int)) (k [] (9 : Int))
      (br ((↑a1.length : Int) != (16 : Int)) (k [] (14 : Int))
        (R14_Size a0 fun (q3 : Int) =>
          br ((↑a4.length : Int) != q3) (k [] (1 : Int))
            (br (decide ((4 : Int) ≤ (↑a4.length : Int)))
              (R01_Num (List.drop 0 (List.take (Int.toNat (4 : Int)) a4)) fun (q4 : Int) =>
                br (q4 != q2) (k [] (1 : Int))
                  (br (decide ((36 : Int) ≤ (↑a4.length : Int)))
                    (R14_digest a1 a2 (List.drop 4 (List.take (Int.toNat (36 : Int)) a4)) a3
                      fun (q5 : List Int) =>
                      R14_Digits a0 q5 fun (q6 : List Int) (q7 : Int) =>
                        R14_Candidate_l11 a0 a1 a2 a4 q0 (0 : Int) [] q6
                          fun (q8 : Int) (q9 : List Int) (q10 : Int) (q11 : List Int) (q12 q13 : Int)
                            (q14 : List (List Int)) (q15 : List Int) =>
                          R14_key q9 q10 q14 fun (q16 : List Int) => k q16 (0 : Int))
                    none))
              none)))
noncomputable def R14_Candidate {ρ : Type} (a0 : Int) (a1 : List Int) (a2 : Int) (a3 : List Int) (a4 : List Int) (k : (List Int) → Int → Option ρ) : Option ρ := shut (R14_Candidate_raw (ρ := ρ)) a0 a1 a2 a3 a4 k
theorem R14_Candidate_eq {ρ : Type} (a0 : Int) (a1 : List Int) (a2 : Int) (a3 : List Int) (a4 : List Int) (k : (List Int) → Int → Option ρ) : R14_Candidate a0 a1 a2 a3 a4 k = R14_Candidate_raw a0 a1 a2 a3 a4 k := by unfold R14_Candidate; rw [shut_eq]

end P
end

section
/- lmots: sums of a leaf. -/
namespace Q
open Go Go.Abs
set_option linter.unusedVariables false
set_option linter.unusedSimpArgs false

def beN (n s : Nat) : List Int := (bsw 8 s n).reverse
theorem beN_len (n s : Nat) : (beN n s).length = s := by simp [beN]
theorem beN_in (n s : Nat) : In 256 (beN n s) := (bsw_in 8 s n).rev
/-- a leaf's sum -/
def lsum (id : List Int) (q n : Nat) (l : List (List Int)) : List Int := sumS 1 ((id ++ (beN q 4 ++ beN n 2)) ++ l.flatten)
theorem lsum_len (id : List Int) (q n : Nat) (l : List (List Int)) : (lsum id q n l).length = 32 := by
  unfold lsum; rw [sumS_len, if_pos rfl]
theorem lsum_in (id : List Int) (q n : Nat) (l : List (List Int)) : In 256 (lsum id q n l) := sumS_in _ _

theorem add_size (a b : Nat) (h : a + b ≤ 1000000) : IntKind.u64.wrap (((a : Nat) : Int) + IntKind.u64.wrap ((b : Nat) : Int)) = ((a + b : Nat) : Int) := by
  rw [u64n _ (by omega), ← Int.natCast_add, u64n _ (by omega)]

theorem leaf_sum (w : Int) (id : List Int) (q n : Nat) (d s c : Int) (l : List (List Int)) (hid : In 256 id) (h16 : id.length ≤ 300) (hq : q < 4294967296) (hn : n < 18446744073709551616) (hl : In 256 l.flatten) (hc : l.length ≤ 1000000) (hb : l.flatten.length ≤ 900000) {ρ : Type} (k : List Int → Option ρ) :
    P.lmots_leaf_sum w id (q : Int) d s c (n : Int) l k = k (lsum id q n l) := by
  rw [P.lmots_leaf_sum_eq]; unfold P.lmots_leaf_sum_raw
  have hw := newW_ok 1
  have hf : [id, (bsw 8 4 q).reverse, (bsw 8 2 n).reverse].flatten = id ++ (beN q 4 ++ beN n 2) := by simp [beN]
  have hlen : (id ++ (beN q 4 ++ beN n 2)).length = id.length + 6 := by simp [beN_len]
  have hin : In 256 (id ++ (beN q 4 ++ beN n 2)) := hid.app ((beN_in _ _).app (beN_in _ _))
  have hr := rest_len 64 (by omega) (id ++ (beN q 4 ++ beN n 2))
  have hr2 := rest_len 64 (by omega) (rest 64 (id ++ (beN q 4 ++ beN n 2)) ++ l.flatten)
  have hlt := Nat.mod_lt (rest 64 (id ++ (beN q 4 ++ beN n 2)) ++ l.flatten).length (show 0 < 64 by omega)
  rw [sha_New (.inl rfl), u64n _ (by omega), show (4 : Int) = ((4 : Nat) : Int) from rfl, bits_Be q 4 (by omega) (by omega), show (2 : Int) = ((2 : Nat) : Int) from rfl, bits_Be n 2 hn (by omega), bits_Join _ (by simp) (by rw [hf]; omega), hf,
    sha_Add 1 _ [] _ _ hw.1 hw.2.1 In.nil hin (by rw [hlen, List.length_nil]; omega), List.nil_append, size_add _ (by omega), show bsz 1 = 64 from rfl, bits_Join l (by omega) (by omega),
    sha_Add 1 _ _ _ _ (addW_len _ _ _) (addW_ok _ _ _).2.1 (rest_in hin) hl (by omega), show bsz 1 = 64 from rfl, add_size _ _ (by omega), sha_End 1 _ _ _ (addW_len _ _ _) (addW_ok _ _ _).2.1 (rest_in ((rest_in hin).app hl)) (by rw [hr2]; exact hlt),
    sum_two _ _ _ (by simp only [List.length_append])]
  rfl

theorem H14 (l : List (List Int)) (hl : In 256 l.flatten) (hc : l.length ≤ 1000000) (hb : l.flatten.length ≤ 1000000) {ρ : Type} (k : List Int → Option ρ) : P.R14_H l k = k (sumS 1 l.flatten) := by
  rw [P.R14_H_eq]; unfold P.R14_H_raw
  rw [R01_Join l (by omega) (by omega), R07_Sum (.inl rfl) _ hl hb]

/-- a leaf's id, and the rest, as the document has them -/
theorem H14_leaf (id : List Int) (q n : Nat) (l : List (List Int)) (hid : In 256 id) (h16 : id.length ≤ 300) (hl : In 256 l.flatten) (hc : l.length ≤ 900000) (hb : l.flatten.length ≤ 900000) {ρ : Type} (k : List Int → Option ρ) :
    P.R14_H (id :: (bsw 8 4 q).reverse :: (bsw 8 2 n).reverse :: l) k = k (lsum id q n l) := by
  have hf : (id :: (bsw 8 4 q).reverse :: (bsw 8 2 n).reverse :: l).flatten = (id ++ (beN q 4 ++ beN n 2)) ++ l.flatten := by simp [beN]
  have hlen : (id ++ (beN q 4 ++ beN n 2)).length = id.length + 6 := by simp [beN_len]
  rw [H14 _ (by rw [hf]; exact (hid.app ((beN_in _ _).app (beN_in _ _))).app hl) (by simp only [List.length_cons]; omega) (by rw [hf, List.length_append, hlen]; omega), hf]
  rfl

/-- along a chain -/
def chS (id : List Int) (q i f : Nat) (y : List Int) : Nat → List Int
  | 0 => y
  | j + 1 => lsum id q i [[((f + j : Nat) : Int)], chS id q i f y j]
theorem chS_len (id : List Int) (q i f : Nat) (y : List Int) (hy : y.length = 32) : ∀ j, (chS id q i f y j).length = 32
  | 0 => hy
  | j + 1 => lsum_len _ _ _ _
theorem chS_in (id : List Int) (q i f : Nat) (y : List Int) (hy : In 256 y) : ∀ j, In 256 (chS id q i f y j)
  | 0 => hy
  | j + 1 => lsum_in _ _ _ _
theorem chS_two (id : List Int) (q i f : Nat) (y : List Int) (m : Nat) : ∀ n, chS id q i f y (m + n) = chS id q i (f + m) (chS id q i f y m) n
  | 0 => rfl
  | n + 1 => by
    rw [← Nat.add_assoc]
    simp only [chS]
    rw [chS_two id q i f y m n, Nat.add_assoc]
/-- a chain's first text -/
def partS14 (id : List Int) (q i : Nat) (seed : List Int) : List Int := lsum id q i [[255], seed]
theorem partS14_in (id : List Int) (q i : Nat) (seed : List Int) : In 256 (partS14 id q i seed) := lsum_in _ _ _ _
theorem partS14_len (id : List Int) (q i : Nat) (seed : List Int) : (partS14 id q i seed).length = 32 := lsum_len _ _ _ _
theorem two_in {b : Int} {y : List Int} (hb : 0 ≤ b ∧ b < 256) (hy : In 256 y) : In 256 [[b], y].flatten := by
  have e : [[b], y].flatten = [b] ++ y := by simp
  rw [e]
  refine In.app ?_ hy
  intro x hx
  simp only [List.mem_singleton] at hx
  subst hx; exact hb
theorem two_len (b : Int) (y : List Int) : [[b], y].flatten.length = y.length + 1 := by simp

theorem leaf_part (w : Int) (id : List Int) (q i : Nat) (d s c : Int) (seed : List Int) (hid : In 256 id) (h16 : id.length ≤ 300) (hq : q < 4294967296) (hi : i < 18446744073709551616) (hs : In 256 seed) (hsl : seed.length ≤ 300) {ρ : Type} (k : List Int → Option ρ) :
    P.lmots_leaf_part w id (q : Int) d s c (i : Int) seed k = k (partS14 id q i seed) := by
  rw [P.lmots_leaf_part_eq]; unfold P.lmots_leaf_part_raw
  rw [leaf_sum w id q i d s c _ hid h16 hq hi (two_in (by omega) hs) (by simp) (by rw [two_len]; omega)]
  rfl

theorem leaf_along (w : Int) (id : List Int) (q i f n : Nat) (d s c : Int) (y : List Int) (hid : In 256 id) (h16 : id.length ≤ 300) (hq : q < 4294967296) (hi : i < 100000) (hf : f + n ≤ 256) (hy : In 256 y) (hyl : y.length = 32) {ρ : Type} (k : List Int → Option ρ) :
    P.lmots_leaf_along w id (q : Int) d s c (i : Int) (f : Int) (n : Int) y k = k (chS id q i f y n) := by
  rw [P.lmots_leaf_along_eq]; unfold P.lmots_leaf_along_raw
  rw [P.lmots_leaf_along_l2_eq]
  unfold P.lmots_leaf_along_L2
  refine lp_go (fun j => ((i : Int), (f : Int), chS id q i f y j, (n : Int), (j : Int), w, id, (q : Int), d, s, c)) n rfl (fun j hj next hn' => ?_) (fun next => ?_) (by omega)
  · simp only [P.lmots_leaf_along_r2]
    have e1 : IntKind.u8.wrap (IntKind.u32.wrap ((f : Int) + (j : Int))) = ((f + j : Nat) : Int) := by
      rw [← Int.natCast_add, u32n _ (by omega), u8n _ (by omega)]
    have e2 : IntKind.u32.wrap ((j : Int) + 1) = ((j + 1 : Nat) : Int) := by rw [show ((j : Int) + 1) = ((j + 1 : Nat) : Int) by omega, u32n _ (by omega)]
    have hl := chS_len id q i f y hyl j
    rw [br_pos (by omega), u64n _ (by omega), e1, e2, leaf_sum w id q i d s c _ hid h16 hq (by omega) (two_in (by omega) (chS_in _ _ _ _ _ hy _)) (by simp) (by rw [two_len]; omega)]
    exact hn'
  · simp only [P.lmots_leaf_along_r2]
    rw [br_neg (by omega)]

theorem part14 (id : List Int) (q i : Nat) (seed : List Int) (hid : In 256 id) (h16 : id.length ≤ 300) (hq : q < 4294967296) (hi : i < 18446744073709551616) (hs : In 256 seed) (hsl : seed.length ≤ 300) {ρ : Type} (k : List Int → Option ρ) :
    P.R14_part id (q : Int) (i : Int) seed k = k (partS14 id q i seed) := by
  rw [P.R14_part_eq]; unfold P.R14_part_raw
  rw [u64n _ (by omega), u64n _ (by omega), show (4 : Int) = ((4 : Nat) : Int) from rfl, R01_Be q 4 (by omega) (by omega), show (2 : Int) = ((2 : Nat) : Int) from rfl, R01_Be i 2 hi (by omega), H14_leaf id q i [[255], seed] hid h16 (two_in (by omega) hs) (by simp) (by rw [two_len]; omega)]
  rfl

theorem chain14 (id : List Int) (q i f t : Nat) (y : List Int) (hid : In 256 id) (h16 : id.length ≤ 300) (hq : q < 4294967296) (hi : i < 100000) (hft : f ≤ t) (ht : t ≤ 256) (hy : In 256 y) (hyl : y.length = 32) {ρ : Type} (k : List Int → Option ρ) :
    P.R14_chain id (q : Int) (i : Int) (f : Int) (t : Int) y k = k (chS id q i f y (t - f)) := by
  rw [P.R14_chain_eq]; unfold P.R14_chain_raw
  rw [P.R14_chain_l2_eq]
  unfold P.R14_chain_L2
  refine lp_go (fun j => (id, (q : Int), (i : Int), (t : Int), chS id q i f y j, ((f + j : Nat) : Int))) (t - f) rfl (fun j hj next hn' => ?_) (fun next => ?_) (by omega)
  · simp only [P.R14_chain_r2]
    have e1 : IntKind.u8.wrap ((f + j : Nat) : Int) = ((f + j : Nat) : Int) := u8n _ (by omega)
    have e2 : IntKind.i64.wrap (((f + j : Nat) : Int) + 1) = ((f + (j + 1) : Nat) : Int) := by rw [i64w (by omega) (by omega)]; omega
    have hl := chS_len id q i f y hyl j
    rw [br_pos (by omega), u64n _ (by omega), u64n _ (by omega), e1, e2, show (4 : Int) = ((4 : Nat) : Int) from rfl, R01_Be q 4 (by omega) (by omega), show (2 : Int) = ((2 : Nat) : Int) from rfl, R01_Be i 2 (by omega) (by omega), H14_leaf id q i [[((f + j : Nat) : Int)], chS id q i f y j] hid h16 (two_in (by omega) (chS_in _ _ _ _ _ hy _)) (by simp) (by rw [two_len]; omega)]
    exact hn'
  · simp only [P.R14_chain_r2]
    rw [br_neg (by omega)]
end Q
end

section
/- lmots: keys, signatures, and what these lead to. -/
namespace Q
open Go Go.Abs
set_option linter.unusedVariables false
set_option linter.unusedSimpArgs false

def codeW (w : Nat) : Nat := if w = 1 then 1 else if w = 2 then 2 else if w = 4 then 3 else 4
theorem known_c {w p s : Nat} (h : Kind w p s) {ρ : Type} (k : Int → Int → Int → Bool → Option ρ) : P.lmots_known (w : Int) k = k (p : Int) (s : Int) ((codeW w : Nat) : Int) true := by
  rw [P.lmots_known_eq]
  rcases h with ⟨rfl, rfl, rfl⟩ | ⟨rfl, rfl, rfl⟩ | ⟨rfl, rfl, rfl⟩ | ⟨rfl, rfl, rfl⟩ <;> kernel_rfl
theorem Kind_c {w p s : Nat} (h : Kind w p s) {ρ : Type} (k : Int → Int → Int → Option ρ) : P.R14_Kind (w : Int) k = k (p : Int) (s : Int) ((codeW w : Nat) : Int) := by
  rw [P.R14_Kind_eq]
  rcases h with ⟨rfl, rfl, rfl⟩ | ⟨rfl, rfl, rfl⟩ | ⟨rfl, rfl, rfl⟩ | ⟨rfl, rfl, rfl⟩ <;> kernel_rfl
theorem codeW_lt (w : Nat) : codeW w < 5 := by unfold codeW; split <;> (try split) <;> (try split) <;> omega

/-! what can be -/
theorem began_ok {w p s : Nat} (h : Kind w p s) (id : List Int) (q : Int) (hl : id.length = 16) {ρ : Type} (k : Int → List Int → Int → Int → Int → Int → Int → Option ρ) : P.lmots_began (w : Int) id q k = k (w : Int) id q (p : Int) (s : Int) ((codeW w : Nat) : Int) 0 := by
  rw [P.lmots_began_eq]; unfold P.lmots_began_raw
  rw [known_c h, br_not, br_tt, br_bne_neg (by rw [hl]; rfl)]
theorem began_len {w p s : Nat} (h : Kind w p s) (id : List Int) (q : Int) (hl : id.length ≠ 16) {ρ : Type} (k : Int → List Int → Int → Int → Int → Int → Int → Option ρ) : P.lmots_began (w : Int) id q k = k 0 [] 0 0 0 0 14 := by
  rw [P.lmots_began_eq]; unfold P.lmots_began_raw
  rw [known_c h, br_not, br_tt, br_bne_pos (by omega)]
theorem began_no {w : Int} (h : w ≠ 1 ∧ w ≠ 2 ∧ w ≠ 4 ∧ w ≠ 8) (id : List Int) (q : Int) {ρ : Type} (k : Int → List Int → Int → Int → Int → Int → Int → Option ρ) : P.lmots_began w id q k = k 0 [] 0 0 0 0 9 := by
  rw [P.lmots_began_eq]; unfold P.lmots_began_raw
  rw [lmots_known_no h, br_not, br_ff]
theorem seeded_ok {w p s : Nat} (h : Kind w p s) (id : List Int) (q : Int) (seed : List Int) (hl : id.length = 16) (hs : seed.length = 32) {ρ : Type} (k : Int → List Int → Int → Int → Int → Int → Int → Option ρ) : P.lmots_seeded (w : Int) id q seed k = k (w : Int) id q (p : Int) (s : Int) ((codeW w : Nat) : Int) 0 := by
  rw [P.lmots_seeded_eq]; unfold P.lmots_seeded_raw
  rw [began_ok h id q hl, br_beq_pos (by rfl), br_bne_neg (by rw [hs]; rfl)]
theorem seeded_len {w p s : Nat} (h : Kind w p s) (id : List Int) (q : Int) (seed : List Int) (hl : ¬ (id.length = 16 ∧ seed.length = 32)) {ρ : Type} (k : Int → List Int → Int → Int → Int → Int → Int → Option ρ) : P.lmots_seeded (w : Int) id q seed k = k 0 [] 0 0 0 0 14 := by
  rw [P.lmots_seeded_eq]; unfold P.lmots_seeded_raw
  by_cases h1 : id.length = 16
  · rw [began_ok h id q h1, br_beq_pos (by rfl), br_bne_pos (by omega)]
  · rw [began_len h id q h1, br_beq_neg (by decide)]
theorem seeded_no {w : Int} (h : w ≠ 1 ∧ w ≠ 2 ∧ w ≠ 4 ∧ w ≠ 8) (id : List Int) (q : Int) (seed : List Int) {ρ : Type} (k : Int → List Int → Int → Int → Int → Int → Int → Option ρ) : P.lmots_seeded w id q seed k = k 0 [] 0 0 0 0 9 := by
  rw [P.lmots_seeded_eq]; unfold P.lmots_seeded_raw
  rw [began_no h id q, br_beq_neg (by decide)]
theorem wrong_ok {w p s : Nat} (h : Kind w p s) (id seed : List Int) (hl : id.length = 16) (hs : seed.length = 32) {ρ : Type} (k : Int → Option ρ) : P.R14_wrong (w : Int) id seed k = k 0 := by
  rw [P.R14_wrong_eq]; unfold P.R14_wrong_raw
  rw [Kind_c h, kind_pos h, br_ff, br_bne_neg (by rw [hl]; rfl), br_bne_neg (by rw [hs]; rfl)]
theorem wrong_len {w p s : Nat} (h : Kind w p s) (id seed : List Int) (hl : ¬ (id.length = 16 ∧ seed.length = 32)) {ρ : Type} (k : Int → Option ρ) : P.R14_wrong (w : Int) id seed k = k 14 := by
  rw [P.R14_wrong_eq]; unfold P.R14_wrong_raw
  rw [Kind_c h, kind_pos h, br_ff]
  by_cases h1 : id.length = 16
  · rw [br_bne_neg (by rw [h1]; rfl), br_bne_pos (by omega)]
  · rw [br_bne_pos (by omega)]
theorem wrong_no {w : Int} (h : w ≠ 1 ∧ w ≠ 2 ∧ w ≠ 4 ∧ w ≠ 8) (id seed : List Int) {ρ : Type} (k : Int → Option ρ) : P.R14_wrong w id seed k = k 9 := by
  rw [P.R14_wrong_eq]; unfold P.R14_wrong_raw
  rw [R14_Kind_no h, br_beq_pos (by rfl)]

theorem steps_ok {w p s : Nat} (h : Kind w p s) (id : List Int) (q a b c : Int) {ρ : Type} (k : Int → Option ρ) : P.lmots_leaf_steps (w : Int) id q a b c k = k ((2 ^ w - 1 : Nat) : Int) := by
  rw [P.lmots_leaf_steps_eq]
  rcases h with ⟨rfl, rfl, rfl⟩ | ⟨rfl, rfl, rfl⟩ | ⟨rfl, rfl, rfl⟩ | ⟨rfl, rfl, rfl⟩ <;> kernel_rfl
theorem mask_i64 {w p s : Nat} (h : Kind w p s) : IntKind.i64.wrap (IntKind.i64.wrap ((1 : Int) * (2 : Int) ^ min ((w : Int)).toNat 64) - (1 : Int)) = ((2 ^ w - 1 : Nat) : Int) := by
  rcases h with ⟨rfl, rfl, rfl⟩ | ⟨rfl, rfl, rfl⟩ | ⟨rfl, rfl, rfl⟩ | ⟨rfl, rfl, rfl⟩ <;> rfl
theorem pw {w p s : Nat} (h : Kind w p s) : 2 ^ w ≤ 256 ∧ 1 ≤ 2 ^ w ∧ p ≤ 265 ∧ 1 ≤ p := by
  rcases h with ⟨rfl, rfl, rfl⟩ | ⟨rfl, rfl, rfl⟩ | ⟨rfl, rfl, rfl⟩ | ⟨rfl, rfl, rfl⟩ <;> decide

/-! texts of 32 bytes, one behind the other -/
def endsP (f : Nat → List Int) (n : Nat) : List Int := ((List.range n).map f).flatten
theorem endsP_succ (f : Nat → List Int) (n : Nat) : endsP f (n + 1) = endsP f n ++ f n := by simp [endsP, List.range_succ]
theorem endsP_len (f : Nat → List Int) (h : ∀ i, (f i).length = 32) : ∀ n, (endsP f n).length = 32 * n
  | 0 => by simp [endsP]
  | n + 1 => by rw [endsP_succ, List.length_append, endsP_len f h n, h]; omega
theorem endsP_in (f : Nat → List Int) (h : ∀ i, In 256 (f i)) : ∀ n, In 256 (endsP f n)
  | 0 => by simp [endsP, In]
  | n + 1 => by rw [endsP_succ]; exact (endsP_in f h n).app (h n)
theorem endsP_congr (f g : Nat → List Int) : ∀ n, (∀ i, i < n → f i = g i) → endsP f n = endsP g n
  | 0, _ => rfl
  | n + 1, h => by rw [endsP_succ, endsP_succ, endsP_congr f g n (fun i hi => h i (by omega)), h n (by omega)]
theorem endsP_piece (f : Nat → List Int) (h : ∀ i, (f i).length = 32) : ∀ n i, i < n → ((endsP f n).drop (32 * i)).take 32 = f i
  | 0, i, hi => by omega
  | n + 1, i, hi => by
    rw [endsP_succ]
    have hl := endsP_len f h n
    by_cases e : i = n
    · subst e
      rw [List.drop_append, List.drop_eq_nil_of_le (by omega), List.nil_append, hl, Nat.sub_self, List.drop_zero, List.take_of_length_le (by rw [h]; omega)]
    · rw [List.drop_append_of_le_length (by omega), List.take_append_of_le_length (by rw [List.length_drop]; omega), endsP_piece f h n i (by omega)]

theorem key14 (id : List Int) (q : Nat) (l : List (List Int)) (hid : In 256 id) (h16 : id.length ≤ 300) (hq : q < 4294967296) (hl : In 256 l.flatten) (hc : l.length ≤ 1000) (hb : l.flatten.length ≤ 100000) {ρ : Type} (k : List Int → Option ρ) :
    P.R14_key id (q : Int) l k = k (lsum id q 32896 [l.flatten]) := by
  rw [P.R14_key_eq]; unfold P.R14_key_raw
  have hf : [l.flatten].flatten = l.flatten := by simp
  rw [u64n _ (by omega), show (4 : Int) = ((4 : Nat) : Int) from rfl, R01_Be q 4 (by omega) (by omega), show (2 : Int) = ((2 : Nat) : Int) from rfl, show (32896 : Int) = ((32896 : Nat) : Int) from rfl, R01_Be 32896 2 (by omega) (by omega), R01_Join l (by omega) (by omega), H14_leaf id q 32896 [l.flatten] hid h16 (by rw [hf]; exact hl) (by simp) (by rw [hf]; omega)]

/-- one's own chain's end -/
def ownEnd (w : Nat) (id : List Int) (q : Nat) (seed : List Int) (i : Nat) : List Int := chS id q i 0 (partS14 id q i seed) (2 ^ w - 1)
theorem ownEnd_len (w : Nat) (id : List Int) (q : Nat) (seed : List Int) (i : Nat) : (ownEnd w id q seed i).length = 32 := chS_len _ _ _ _ _ (lsum_len _ _ _ _) _
theorem ownEnd_in (w : Nat) (id : List Int) (q : Nat) (seed : List Int) (i : Nat) : In 256 (ownEnd w id q seed i) := chS_in _ _ _ _ _ (lsum_in _ _ _ _) _
def pubS (w p : Nat) (id : List Int) (q : Nat) (seed : List Int) : List Int := lsum id q 32896 [endsP (ownEnd w id q seed) p]

theorem one_flat (x : List Int) : [x].flatten = x := by simp

theorem Public_ok {w p s : Nat} (h : Kind w p s) (id : List Int) (q : Nat) (seed : List Int) (hid : In 256 id) (hq : q < 4294967296) (hsd : In 256 seed) (hl : id.length = 16) (hs : seed.length = 32) {ρ : Type} (k : List Int → Int → Option ρ) :
    P.lmots_Public (w : Int) id (q : Int) seed k = k (pubS w p id q seed) 0 := by
  rw [P.lmots_Public_eq]; unfold P.lmots_Public_raw
  obtain ⟨f1, f2, f3, f4⟩ := pw h
  have hel := endsP_len _ (ownEnd_len w id q seed)
  rw [seeded_ok h id q seed hl hs, br_bne_neg (by rfl), P.lmots_Public_l6_eq]
  unfold P.lmots_Public_L6
  refine lp_go (fun i => (seed, (p : Int), (i : Int), endsP (ownEnd w id q seed) i, (w : Int), id, (q : Int), (p : Int), (s : Int), ((codeW w : Nat) : Int))) p rfl (fun i hi next hn' => ?_) (fun next => ?_) (by omega)
  · simp only [P.lmots_Public_r6]
    rw [endsP_succ] at hn'
    have e3 : IntKind.i64.wrap ((i : Int) + 1) = ((i + 1 : Nat) : Int) := by rw [i64w (by omega) (by omega)]; omega
    have hpl : (partS14 id q i seed).length = 32 := lsum_len _ _ _ _
    have := ownEnd_len w id q seed i
    rw [br_pos (by omega), steps_ok h, u64n _ (by omega), leaf_part _ id q i _ _ _ seed hid (by omega) hq (by omega) hsd (by omega), show (0 : Int) = ((0 : Nat) : Int) from rfl, leaf_along _ id q i 0 (2 ^ w - 1) _ _ _ _ hid (by omega) hq (by omega) (by omega) (partS14_in id q i seed) hpl, e3]
    rw [br_pos (by rw [hel]; show (_ + (ownEnd w id q seed i).length) * 1 ≤ _; rw [this]; omega)]
    exact hn'
  · simp only [P.lmots_Public_r6]
    have he := hel p
    rw [br_neg (by omega), show (32896 : Int) = ((32896 : Nat) : Int) from rfl, leaf_sum _ id q 32896 _ _ _ _ hid (by omega) hq (by omega) (by rw [one_flat]; exact endsP_in _ (ownEnd_in w id q seed) p) (by simp) (by rw [one_flat]; omega)]
    rfl

theorem R14_Public_ok {w p s : Nat} (h : Kind w p s) (id : List Int) (q : Nat) (seed : List Int) (hid : In 256 id) (hq : q < 4294967296) (hsd : In 256 seed) (hl : id.length = 16) (hs : seed.length = 32) {ρ : Type} (k : List Int → Int → Option ρ) :
    P.R14_Public (w : Int) id (q : Int) seed k = k (pubS w p id q seed) 0 := by
  rw [P.R14_Public_eq]; unfold P.R14_Public_raw
  obtain ⟨f1, f2, f3, f4⟩ := pw h
  have hel := endsP_len _ (ownEnd_len w id q seed)
  rw [wrong_ok h id seed hl hs, br_bne_neg (by rfl), Kind_c h, P.R14_Public_l7_eq]
  unfold P.R14_Public_L7
  refine lp_go (fun i => ((w : Int), id, (q : Int), seed, (p : Int), (i : Int), (List.range i).map (ownEnd w id q seed))) p rfl (fun i hi next hn' => ?_) (fun next => ?_) (by omega)
  · simp only [P.R14_Public_r7]
    rw [List.range_succ, List.map_append, List.map_singleton] at hn'
    have e3 : IntKind.i64.wrap ((i : Int) + 1) = ((i + 1 : Nat) : Int) := by rw [i64w (by omega) (by omega)]; omega
    have hpl : (partS14 id q i seed).length = 32 := lsum_len _ _ _ _
    rw [br_pos (by omega), br_neg (by omega), part14 id q i seed hid (by omega) hq (by omega) hsd (by omega), mask_i64 h, show (0 : Int) = ((0 : Nat) : Int) from rfl, chain14 id q i 0 (2 ^ w - 1) _ hid (by omega) hq (by omega) (by omega) (by omega) (partS14_in id q i seed) hpl, e3,
      br_pos (by rw [List.length_map, List.length_range]; omega)]
    exact hn'
  · simp only [P.R14_Public_r7]
    have he := hel p
    unfold endsP at he
    rw [br_neg (by omega), key14 id q _ hid (by omega) hq (endsP_in _ (ownEnd_in w id q seed) p) (by rw [List.length_map, List.length_range]; omega) (by omega)]
    rfl

/-! signatures -/
def digD (w p s : Nat) (id : List Int) (q : Nat) (c text : List Int) : List Int := allD w p s (lsum id q 33153 [c, text])
theorem digD_len {w p s : Nat} (h : Kind w p s) (id : List Int) (q : Nat) (c text : List Int) : (digD w p s id q c text).length = p := allD_len h _ (lsum_len _ _ _ _)
theorem digD_at {w p s : Nat} (h : Kind w p s) (id : List Int) (q : Nat) (c text : List Int) (i : Nat) : ∃ d : Nat, (digD w p s id q c text).getD i 0 = (d : Int) ∧ d ≤ 2 ^ w - 1 ∧ ((digD w p s id q c text).getD i 0).toNat = d := by
  have hin : In (2 ^ w) (digD w p s id q c text) := digits_in _ _ _
  obtain ⟨d, h1, h2⟩ := num_at' (w := w) hin i
  exact ⟨d, h1, by omega, by omega⟩
def sigEnd (w p s : Nat) (id : List Int) (q : Nat) (seed text : List Int) (i : Nat) : List Int :=
  chS id q i 0 (partS14 id q i seed) ((digD w p s id q (partS14 id q 65533 seed) text).getD i 0).toNat
theorem sigEnd_len (w p s : Nat) (id : List Int) (q : Nat) (seed text : List Int) (i : Nat) : (sigEnd w p s id q seed text i).length = 32 := chS_len _ _ _ _ _ (lsum_len _ _ _ _) _
theorem sigEnd_in (w p s : Nat) (id : List Int) (q : Nat) (seed text : List Int) (i : Nat) : In 256 (sigEnd w p s id q seed text i) := chS_in _ _ _ _ _ (lsum_in _ _ _ _) _
def sigS (w p s : Nat) (id : List Int) (q : Nat) (seed text : List Int) : List Int := (beN (codeW w) 4 ++ partS14 id q 65533 seed) ++ endsP (sigEnd w p s id q seed text) p
theorem sigS_len (w p s : Nat) (id : List Int) (q : Nat) (seed text : List Int) : (sigS w p s id q seed text).length = 36 + 32 * p := by
  have hc : (partS14 id q 65533 seed).length = 32 := lsum_len _ _ _ _
  unfold sigS
  rw [List.length_append, List.length_append, beN_len, hc, endsP_len _ (sigEnd_len w p s id q seed text)]
theorem sigS_in (w p s : Nat) (id : List Int) (q : Nat) (seed text : List Int) : In 256 (sigS w p s id q seed text) :=
  ((beN_in _ _).app (lsum_in _ _ _ _)).app (endsP_in _ (sigEnd_in w p s id q seed text) p)

theorem ct_in {c text : List Int} (hc : In 256 c) (ht : In 256 text) : In 256 [c, text].flatten := by
  have e : [c, text].flatten = c ++ text := by simp
  rw [e]; exact hc.app ht
theorem ct_len (c text : List Int) : [c, text].flatten.length = c.length + text.length := by simp

theorem digitsOf_ok {w p s : Nat} (h : Kind w p s) (id : List Int) (q : Nat) (a b : Int) (cc : Int) (c text : List Int) (hid : In 256 id) (h16 : id.length = 16) (hq : q < 4294967296) (hc : In 256 c) (hcl : c.length = 32) (ht : In 256 text) (htl : text.length ≤ 300) {ρ : Type} (k : List Int → Option ρ) :
    P.lmots_leaf_digitsOf (w : Int) id (q : Int) a b cc c text k = k (digD w p s id q c text) := by
  rw [P.lmots_leaf_digitsOf_eq]; unfold P.lmots_leaf_digitsOf_raw
  rw [show (33153 : Int) = ((33153 : Nat) : Int) from rfl, leaf_sum _ id q 33153 _ _ _ _ hid (by omega) hq (by omega) (ct_in hc ht) (by simp) (by rw [ct_len]; omega), lmots_Digits_kind h _ (lsum_in _ _ _ _) (lsum_len _ _ _ _)]
  rfl
theorem digest14 (id : List Int) (q : Nat) (c text : List Int) (hid : In 256 id) (h16 : id.length = 16) (hq : q < 4294967296) (hc : In 256 c) (hcl : c.length = 32) (ht : In 256 text) (htl : text.length ≤ 300) {ρ : Type} (k : List Int → Option ρ) :
    P.R14_digest id (q : Int) c text k = k (lsum id q 33153 [c, text]) := by
  rw [P.R14_digest_eq]; unfold P.R14_digest_raw
  rw [u64n _ (by omega), show (4 : Int) = ((4 : Nat) : Int) from rfl, R01_Be q 4 (by omega) (by omega), show (2 : Int) = ((2 : Nat) : Int) from rfl, show (33153 : Int) = ((33153 : Nat) : Int) from rfl, R01_Be 33153 2 (by omega) (by omega), H14_leaf id q 33153 [c, text] hid (by omega) (ct_in hc ht) (by simp) (by rw [ct_len]; omega)]

theorem Sign_ok {w p s : Nat} (h : Kind w p s) (id : List Int) (q : Nat) (seed text : List Int) (hid : In 256 id) (hq : q < 4294967296) (hsd : In 256 seed) (hl : id.length = 16) (hs : seed.length = 32) (ht : In 256 text) (htl : text.length ≤ 300) {ρ : Type} (k : List Int → Int → Option ρ) :
    P.lmots_Sign (w : Int) id (q : Int) seed text k = k (sigS w p s id q seed text) 0 := by
  rw [P.lmots_Sign_eq]; unfold P.lmots_Sign_raw
  obtain ⟨f1, f2, f3, f4⟩ := pw h
  have hel := endsP_len _ (sigEnd_len w p s id q seed text)
  have hcl : (partS14 id q 65533 seed).length = 32 := lsum_len _ _ _ _
  have hcd := codeW_lt w
  have hf : [(bsw 8 4 (codeW w)).reverse, partS14 id q 65533 seed].flatten = beN (codeW w) 4 ++ partS14 id q 65533 seed := by simp [beN]
  have hfl : (beN (codeW w) 4 ++ partS14 id q 65533 seed).length = 36 := by rw [List.length_append, beN_len, hcl]
  have hdl := digD_len h id q (partS14 id q 65533 seed) text
  rw [seeded_ok h id q seed hl hs, br_bne_neg (by rfl), show (65533 : Int) = ((65533 : Nat) : Int) from rfl, leaf_part _ id q 65533 _ _ _ seed hid (by omega) hq (by omega) hsd (by omega), u64n _ (by omega), show (4 : Int) = ((4 : Nat) : Int) from rfl, bits_Be (codeW w) 4 (by omega) (by omega),
    bits_Join _ (by simp) (by rw [hf, hfl]; omega), hf, digitsOf_ok h id q _ _ _ _ text hid hl hq (partS14_in id q 65533 seed) hcl ht htl, hdl, P.lmots_Sign_l7_eq]
  unfold P.lmots_Sign_L7
  refine lp_go (fun i => (seed, (p : Int), (i : Int), (beN (codeW w) 4 ++ partS14 id q 65533 seed) ++ endsP (sigEnd w p s id q seed text) i, (w : Int), id, (q : Int), (p : Int), (s : Int), ((codeW w : Nat) : Int), digD w p s id q (partS14 id q 65533 seed) text)) p (by simp [endsP]) (fun i hi next hn' => ?_) (fun next => ?_) (by omega)
  · simp only [P.lmots_Sign_r7, toNat_cast]
    rw [endsP_succ, ← List.append_assoc] at hn'
    have e3 : IntKind.i64.wrap ((i : Int) + 1) = ((i + 1 : Nat) : Int) := by rw [i64w (by omega) (by omega)]; omega
    have hpl : (partS14 id q i seed).length = 32 := lsum_len _ _ _ _
    obtain ⟨d, d1, d2, d3⟩ := digD_at h id q (partS14 id q 65533 seed) text i
    have hse : sigEnd w p s id q seed text i = chS id q i 0 (partS14 id q i seed) d := by unfold sigEnd; rw [d3]
    have := sigEnd_len w p s id q seed text i
    rw [hse] at hn' this
    rw [br_pos (by omega), br_pos (by omega), br_pos (by rw [hdl]; omega), u64n _ (by omega), leaf_part _ id q i _ _ _ seed hid (by omega) hq (by omega) hsd (by omega), d1, show (0 : Int) = ((0 : Nat) : Int) from rfl, leaf_along _ id q i 0 d _ _ _ _ hid (by omega) hq (by omega) (by omega) (partS14_in id q i seed) hpl, e3]
    rw [br_pos (by rw [List.length_append, hfl, hel, this]; omega)]
    exact hn'
  · simp only [P.lmots_Sign_r7]
    rw [br_neg (by omega)]
    rfl

theorem R14_Sign_ok {w p s : Nat} (h : Kind w p s) (id : List Int) (q : Nat) (seed text : List Int) (hid : In 256 id) (hq : q < 4294967296) (hsd : In 256 seed) (hl : id.length = 16) (hs : seed.length = 32) (ht : In 256 text) (htl : text.length ≤ 300) {ρ : Type} (k : List Int → Int → Option ρ) :
    P.R14_Sign (w : Int) id (q : Int) seed text k = k (sigS w p s id q seed text) 0 := by
  rw [P.R14_Sign_eq]; unfold P.R14_Sign_raw
  obtain ⟨f1, f2, f3, f4⟩ := pw h
  have hel := endsP_len _ (sigEnd_len w p s id q seed text)
  have hcl : (partS14 id q 65533 seed).length = 32 := lsum_len _ _ _ _
  have hcd := codeW_lt w
  have hdl := digD_len h id q (partS14 id q 65533 seed) text
  rw [wrong_ok h id seed hl hs, br_bne_neg (by rfl), Kind_c h, show (65533 : Int) = ((65533 : Nat) : Int) from rfl, part14 id q 65533 seed hid (by omega) hq (by omega) hsd (by omega), digest14 id q _ text hid hl hq (partS14_in id q 65533 seed) hcl ht htl,
    R14_Digits_kind h _ (lsum_in _ _ _ _) (lsum_len _ _ _ _), show (4 : Int) = ((4 : Nat) : Int) from rfl, R01_Be (codeW w) 4 (by omega) (by omega), P.R14_Sign_l9_eq]
  unfold P.R14_Sign_L9
  refine lp_go (fun i => (id, (q : Int), seed, (i : Int), [beN (codeW w) 4, partS14 id q 65533 seed] ++ (List.range i).map (sigEnd w p s id q seed text), digD w p s id q (partS14 id q 65533 seed) text)) p rfl (fun i hi next hn' => ?_) (fun next => ?_) (by omega)
  · simp only [P.R14_Sign_r9, toNat_cast]
    rw [List.range_succ, List.map_append, List.map_singleton, ← List.append_assoc] at hn'
    have e3 : IntKind.i64.wrap ((i : Int) + 1) = ((i + 1 : Nat) : Int) := by rw [i64w (by omega) (by omega)]; omega
    have hpl : (partS14 id q i seed).length = 32 := lsum_len _ _ _ _
    obtain ⟨d, d1, d2, d3⟩ := digD_at h id q (partS14 id q 65533 seed) text i
    have hse : sigEnd w p s id q seed text i = chS id q i 0 (partS14 id q i seed) d := by unfold sigEnd; rw [d3]
    rw [hse] at hn'
    rw [hdl, br_pos (by omega), br_pos (by omega), br_pos (by omega), part14 id q i seed hid (by omega) hq (by omega) hsd (by omega), d1, i64w (x := (d : Int)) (by omega) (by omega), show (0 : Int) = ((0 : Nat) : Int) from rfl, chain14 id q i 0 d _ hid (by omega) hq (by omega) (by omega) (by omega) (partS14_in id q i seed) hpl, e3,
      br_pos (by rw [List.length_append, List.length_map, List.length_range]; simp; omega)]
    exact hn'
  · simp only [P.R14_Sign_r9]
    have he := hel p
    have hf : ([beN (codeW w) 4, partS14 id q 65533 seed] ++ (List.range p).map (sigEnd w p s id q seed text)).flatten = sigS w p s id q seed text := by
      unfold sigS endsP; simp
    rw [hdl, br_neg (by omega), R01_Join _ (by rw [List.length_append, List.length_map, List.length_range]; simp; omega) (by rw [hf, sigS_len]; omega), hf]
end Q
end

section
/- lmots: what a signature leads to. -/
namespace Q
open Go Go.Abs
set_option linter.unusedVariables false
set_option linter.unusedSimpArgs false

/-- where a signature's text leads to -/
def candEnd (w p s : Nat) (id : List Int) (q : Nat) (text sig : List Int) (i : Nat) : List Int :=
  chS id q i ((digD w p s id q ((sig.take 36).drop 4) text).getD i 0).toNat ((sig.drop (36 + 32 * i)).take 32) (2 ^ w - 1 - ((digD w p s id q ((sig.take 36).drop 4) text).getD i 0).toNat)
def candS (w p s : Nat) (id : List Int) (q : Nat) (text sig : List Int) : List Int := lsum id q 32896 [endsP (candEnd w p s id q text sig) p]

theorem endsP_len' (f : Nat → List Int) : ∀ n, (∀ i, i < n → (f i).length = 32) → (endsP f n).length = 32 * n
  | 0, _ => by simp [endsP]
  | n + 1, h => by rw [endsP_succ, List.length_append, endsP_len' f n (fun i hi => h i (by omega)), h n (by omega)]; omega
theorem endsP_in' (f : Nat → List Int) : ∀ n, (∀ i, i < n → In 256 (f i)) → In 256 (endsP f n)
  | 0, _ => by simp [endsP, In]
  | n + 1, h => by rw [endsP_succ]; exact (endsP_in' f n (fun i hi => h i (by omega))).app (h n (by omega))
theorem candEnd_len {w p s : Nat} (id : List Int) (q : Nat) (text sig : List Int) (hsl : sig.length = 36 + 32 * p) (i : Nat) (hi : i < p) : (candEnd w p s id q text sig i).length = 32 := by
  unfold candEnd
  refine chS_len _ _ _ _ _ ?_ _
  rw [List.length_take, List.length_drop]; omega
theorem candEnd_in {w p s : Nat} (id : List Int) (q : Nat) (text sig : List Int) (hs : In 256 sig) (i : Nat) : In 256 (candEnd w p s id q text sig i) := chS_in _ _ _ _ _ ((hs.drop _).take _) _

theorem Candidate_ok {w p s : Nat} (h : Kind w p s) (id : List Int) (q : Nat) (text sig : List Int) (hid : In 256 id) (hq : q < 4294967296) (hl : id.length = 16) (ht : In 256 text) (htl : text.length ≤ 300) (hs : In 256 sig) (hsl : sig.length = 36 + 32 * p) (hcode : T 8 (sig.take 4).reverse = codeW w) {ρ : Type} (k : List Int → Int → Option ρ) :
    P.lmots_Candidate (w : Int) id (q : Int) text sig k = k (candS w p s id q text sig) 0 := by
  rw [P.lmots_Candidate_eq]; unfold P.lmots_Candidate_raw
  obtain ⟨f1, f2, f3, f4⟩ := pw h
  have hcd := codeW_lt w
  have hcl : ((sig.take 36).drop 4).length = 32 := by rw [List.length_drop, List.length_take]; omega
  have hdl := digD_len h id q ((sig.take 36).drop 4) text
  have hce := fun i (hi : i ≤ p) => endsP_len' (candEnd w p s id q text sig) i (fun j hj => candEnd_len id q text sig hsl j (by omega))
  simp only [show (4 : Int).toNat = 4 from rfl, show (36 : Int).toNat = 36 from rfl, show (32 : Int).toNat = 32 from rfl, List.drop_zero, toNat_cast]
  have hnum : ((T 8 (sig.take 4).reverse % 2 ^ 64 : Nat) : Int) = ((codeW w : Nat) : Int) := by rw [hcode]; omega
  rw [began_ok h id q hl, br_bne_neg (by rfl), lmots_Size h, br_bne_neg (by rw [hsl]), br_pos (by omega), bits_Num _ (hs.take 4) (by rw [List.length_take]; omega), hnum, u64n _ (by omega), br_bne_neg (by rfl), br_pos (by omega), br_pos (by omega), br_pos (by omega),
    digitsOf_ok h id q _ _ _ _ text hid hl hq ((hs.take 36).drop 4) hcl ht htl, hdl, List.take_of_length_le (show sig.length ≤ sig.length by omega), P.lmots_Candidate_l9_eq]
  unfold P.lmots_Candidate_L9
  refine lp_go (fun i => (sig.drop (36 + 32 * i), (p : Int), (i : Int), endsP (candEnd w p s id q text sig) i, (w : Int), id, (q : Int), (p : Int), (s : Int), ((codeW w : Nat) : Int), digD w p s id q ((sig.take 36).drop 4) text)) p rfl (fun i hi next hn' => ?_) (fun next => ?_) (by omega)
  · simp only [P.lmots_Candidate_r9, toNat_cast, show (32 : Int).toNat = 32 from rfl, List.drop_zero]
    rw [endsP_succ] at hn'
    have e3 : IntKind.i64.wrap ((i : Int) + 1) = ((i + 1 : Nat) : Int) := by rw [i64w (by omega) (by omega)]; omega
    obtain ⟨d, d1, d2, d3⟩ := digD_at h id q ((sig.take 36).drop 4) text i
    have hse : candEnd w p s id q text sig i = chS id q i d ((sig.drop (36 + 32 * i)).take 32) (2 ^ w - 1 - d) := by unfold candEnd; rw [d3]
    have hrl : (sig.drop (36 + 32 * i)).length = 32 * (p - i) := by rw [List.length_drop]; omega
    have htk : ((sig.drop (36 + 32 * i)).take 32).length = 32 := by rw [List.length_take]; omega
    have hcl2 := candEnd_len (w := w) (s := s) id q text sig hsl i hi
    rw [hse] at hn' hcl2
    rw [br_pos (by omega), br_pos (by omega), br_pos (by rw [hdl]; omega), steps_ok h, br_pos (by omega), d1, show ((2 ^ w - 1 : Nat) : Int) - (d : Int) = ((2 ^ w - 1 - d : Nat) : Int) by omega, u32n _ (by omega),
      leaf_along _ id q i d (2 ^ w - 1 - d) _ _ _ _ hid (by omega) hq (by omega) (by omega) ((hs.drop _).take _) htk, e3]
    rw [br_pos (by rw [hce i (by omega), hcl2]; omega), br_pos (by omega), br_pos (by omega), List.take_of_length_le (Nat.le_refl _), List.drop_drop, show 36 + 32 * i + 32 = 36 + 32 * (i + 1) by omega]
    exact hn'
  · simp only [P.lmots_Candidate_r9]
    have he := hce p (Nat.le_refl _)
    rw [br_neg (by omega), show (32896 : Int) = ((32896 : Nat) : Int) from rfl, leaf_sum _ id q 32896 _ _ _ _ hid (by omega) hq (by omega) (by rw [one_flat]; exact endsP_in' _ p (fun i _ => candEnd_in id q text sig hs i)) (by simp) (by rw [one_flat]; omega)]
    rfl

theorem R14_Candidate_ok {w p s : Nat} (h : Kind w p s) (id : List Int) (q : Nat) (text sig : List Int) (hid : In 256 id) (hq : q < 4294967296) (hl : id.length = 16) (ht : In 256 text) (htl : text.length ≤ 300) (hs : In 256 sig) (hsl : sig.length = 36 + 32 * p) (hcode : T 8 (sig.take 4).reverse = codeW w) {ρ : Type} (k : List Int → Int → Option ρ) :
    P.R14_Candidate (w : Int) id (q : Int) text sig k = k (candS w p s id q text sig) 0 := by
  rw [P.R14_Candidate_eq]; unfold P.R14_Candidate_raw
  obtain ⟨f1, f2, f3, f4⟩ := pw h
  have hcd := codeW_lt w
  have hcl : ((sig.take 36).drop 4).length = 32 := by rw [List.length_drop, List.length_take]; omega
  have hdl := digD_len h id q ((sig.take 36).drop 4) text
  simp only [show (4 : Int).toNat = 4 from rfl, show (36 : Int).toNat = 36 from rfl, List.drop_zero]
  have hnum : ((T 8 (sig.take 4).reverse % 2 ^ 64 : Nat) : Int) = ((codeW w : Nat) : Int) := by rw [hcode]; omega
  rw [Kind_c h, kind_pos h, br_ff, br_bne_neg (by rw [hl]; rfl), R14_Size h, br_bne_neg (by rw [hsl]), br_pos (by omega), R01_Num _ (hs.take 4) (by rw [List.length_take]; omega), hnum, br_bne_neg (by rfl), br_pos (by omega),
    digest14 id q _ text hid hl hq ((hs.take 36).drop 4) hcl ht htl, R14_Digits_kind h _ (lsum_in _ _ _ _) (lsum_len _ _ _ _), P.R14_Candidate_l11_eq]
  unfold P.R14_Candidate_L11
  refine lp_go (fun i => ((w : Int), id, (q : Int), sig, (p : Int), (i : Int), (List.range i).map (candEnd w p s id q text sig), digD w p s id q ((sig.take 36).drop 4) text)) p rfl (fun i hi next hn' => ?_) (fun next => ?_) (by omega)
  · simp only [P.R14_Candidate_r11]
    rw [List.range_succ, List.map_append, List.map_singleton] at hn'
    have e3 : IntKind.i64.wrap ((i : Int) + 1) = ((i + 1 : Nat) : Int) := by rw [i64w (by omega) (by omega)]; omega
    have e36 : IntKind.i64.wrap ((36 : Int) + IntKind.i64.wrap ((32 : Int) * (i : Int))) = ((36 + 32 * i : Nat) : Int) := by rw [i64w (x := (32 : Int) * (i : Int)) (by omega) (by omega), i64w (by omega) (by omega)]; omega
    have e68 : IntKind.i64.wrap ((68 : Int) + IntKind.i64.wrap ((32 : Int) * (i : Int))) = ((68 + 32 * i : Nat) : Int) := by rw [i64w (x := (32 : Int) * (i : Int)) (by omega) (by omega), i64w (by omega) (by omega)]; omega
    obtain ⟨d, d1, d2, d3⟩ := digD_at h id q ((sig.take 36).drop 4) text i
    have hse : candEnd w p s id q text sig i = chS id q i d ((sig.drop (36 + 32 * i)).take 32) (2 ^ w - 1 - d) := by unfold candEnd; rw [d3]
    have htk : ((sig.drop (36 + 32 * i)).take 32).length = 32 := by rw [List.length_take, List.length_drop]; omega
    have hdt : (sig.take (68 + 32 * i)).drop (36 + 32 * i) = (sig.drop (36 + 32 * i)).take 32 := by
      rw [List.drop_take, show 68 + 32 * i - (36 + 32 * i) = 32 by omega]
    rw [hse] at hn'
    rw [e36, e68, e3, mask_i64 h]
    simp only [toNat_cast]
    rw [hdt, br_pos (by omega), br_pos (by omega), br_pos (by rw [hdl]; omega), br_neg (by omega), br_pos (by omega), br_pos (by omega), br_pos (by omega), d1, i64w (x := (d : Int)) (by omega) (by omega), chain14 id q i d (2 ^ w - 1) _ hid (by omega) hq (by omega) (by omega) (by omega) ((hs.drop _).take _) htk,
      br_pos (by rw [List.length_map, List.length_range]; omega)]
    exact hn'
  · simp only [P.R14_Candidate_r11]
    have he := endsP_len' (candEnd w p s id q text sig) p (fun j hj => candEnd_len id q text sig hsl j (by omega))
    have hin := endsP_in' (candEnd w p s id q text sig) p (fun i _ => candEnd_in id q text sig hs i)
    unfold endsP at he hin
    rw [br_neg (by omega), key14 id q _ hid (by omega) hq hin (by rw [List.length_map, List.length_range]; omega) (by omega)]
    rfl

/-- a signature leads to the key -/
theorem cand_sig {w p s : Nat} (h : Kind w p s) (id : List Int) (q : Nat) (seed text : List Int) : candS w p s id q text (sigS w p s id q seed text) = pubS w p id q seed := by
  have hcl := partS14_len id q 65533 seed
  have hc : ((sigS w p s id q seed text).take 36).drop 4 = partS14 id q 65533 seed := by
    unfold sigS
    rw [List.take_append_of_le_length (by rw [List.length_append, beN_len, hcl]; omega), List.take_of_length_le (by rw [List.length_append, beN_len, hcl]; omega), List.drop_append, List.drop_eq_nil_of_le (by rw [beN_len]; omega), List.nil_append, beN_len, Nat.sub_self, List.drop_zero]
  unfold candS pubS
  congr 2
  refine endsP_congr _ _ p (fun i hi => ?_)
  have hp : ((sigS w p s id q seed text).drop (36 + 32 * i)).take 32 = sigEnd w p s id q seed text i := by
    unfold sigS
    rw [List.drop_append, List.drop_eq_nil_of_le (by rw [List.length_append, beN_len, hcl]; omega), List.nil_append, List.length_append, beN_len, hcl, show 36 + 32 * i - (4 + 32) = 32 * i by omega]
    exact endsP_piece _ (sigEnd_len w p s id q seed text) p i hi
  obtain ⟨d, d1, d2, d3⟩ := digD_at h id q (partS14 id q 65533 seed) text i
  unfold candEnd ownEnd
  rw [hc, hp, d3]
  unfold sigEnd
  rw [d3]
  have := chS_two id q i 0 (partS14 id q i seed) d (2 ^ w - 1 - d)
  rw [Nat.zero_add] at this
  rw [← this, show d + (2 ^ w - 1 - d) = 2 ^ w - 1 by omega]
theorem sig_code {w p s : Nat} (id : List Int) (q : Nat) (seed text : List Int) : T 8 ((sigS w p s id q seed text).take 4).reverse = codeW w := by
  have hcd := codeW_lt w
  unfold sigS
  rw [List.append_assoc, List.take_append_of_le_length (by rw [beN_len]; omega), List.take_of_length_le (by rw [beN_len]; omega)]
  unfold beN
  rw [List.reverse_reverse, T_bsw]
  omega
end Q
end

section
/- The plain law of LmotsRight. -/
namespace Q
open Go Go.Abs
set_option linter.unusedVariables false
set_option linter.unusedSimpArgs false

theorem kind3_of (x0 : Int) (h : 0 ≤ x0) : ∃ w p s : Nat, [(1 : Int), (2 : Int), (4 : Int)].getD (x0.tmod (3 : Int)).toNat (0 : Int) = (w : Int) ∧ Kind w p s := by
  rw [Int.tmod_eq_emod_of_nonneg h]
  have : x0 % 3 = 0 ∨ x0 % 3 = 1 ∨ x0 % 3 = 2 := by omega
  rcases this with e | e | e <;> rw [e]
  · exact ⟨1, 265, 7, rfl, by simp [Kind]⟩
  · exact ⟨2, 133, 6, rfl, by simp [Kind]⟩
  · exact ⟨4, 67, 4, rfl, by simp [Kind]⟩

theorem LmotsRight (x0 : Int) (x1 : List Int) (x2 : Int) (x3 : List Int) (x4 : List Int) (wx0 : wfI .u8 x0) (nx1 : x1.length = 16) (wx1 : ∀ x, x ∈ x1 → wfI .u8 x) (wx2 : wfI .u32 x2) (nx3 : x3.length = 32) (wx3 : ∀ x, x ∈ x3 → wfI .u8 x) (nx4 : x4.length ≤ 140737488355328) (wx4 : ∀ x, x ∈ x4 → wfI .u8 x) {ρ : Type} (k : Bool → Option ρ) : P.L14_LmotsRight x0 x1 x2 x3 x4 k = k true := by
  rw [P.L14_LmotsRight_eq]; unfold P.L14_LmotsRight_raw
  have h0 := wf_u8 wx0
  have hq := wf_u32 wx2
  obtain ⟨q, rfl⟩ : ∃ q : Nat, x2 = (q : Int) := ⟨x2.toNat, by omega⟩
  obtain ⟨w, p, s, e0, hk⟩ := kind3_of x0 h0.1
  obtain ⟨f1, f2, f3, f4⟩ := pw hk
  have hm : 0 ≤ x0.tmod 3 ∧ x0.tmod 3 < 3 := by rw [Int.tmod_eq_emod_of_nonneg h0.1]; omega
  rw [e0]
  simp only [List.drop_zero]
  rw [List.take_of_length_le (show x1.length ≤ 16 by omega), List.take_of_length_le (show x3.length ≤ 32 by omega)]
  rcases L14_few [x4] (by simp) (fun (q0 : Bool) =>
    br (!q0) (P.L14_awake fun (q1 : Bool) => k q1)
      (br (decide ((0 : Int) ≤ x0.tmod (3 : Int)))
        (br (decide (x0.tmod (3 : Int) < (3 : Int)))
          (P.lmots_Public (w : Int) x1 (q : Int) x3
            fun (q2 : List Int) (q3 : Int) =>
            P.lmots_Sign (w : Int) x1 (q : Int) x3 x4 fun (q4 : List Int) (q5 : Int) =>
              P.lmots_Candidate (w : Int) x1 (q : Int) x4 q4 fun (q6 : List Int) (q7 : Int) =>
                br (q3 == (0 : Int))
                  (br (q5 == (0 : Int))
                    (br (q7 == (0 : Int))
                      (P.R01_Same q6 q2 fun (q8 : Bool) =>
                        br q8
                          (br (((q2.length : Nat) : Int) == (32 : Int))
                            (P.lmots_Size (w : Int)
                              fun (q9 : Int) =>
                              br (((q4.length : Nat) : Int) == q9) (P.L14_awake fun (q10 : Bool) => k q10) (k false))
                            (k false))
                          (k false))
                      (k false))
                    (k false))
                  (k false))
          none)
        none)) with ⟨e, hlen⟩ | e
  · have l4 := hlen 0 (by simp)
    simp only [List.getD_cons_zero] at l4
    have hpl : (pubS w p x1 q x3).length = 32 := lsum_len _ _ _ _
    refine Eq.trans e ?_
    rw [br_not, br_tt, br_pos hm.1, br_pos hm.2, Public_ok hk x1 q x3 (in_u8 wx1) (by omega) (in_u8 wx3) nx1 nx3, Sign_ok hk x1 q x3 x4 (in_u8 wx1) (by omega) (in_u8 wx3) nx1 nx3 (in_u8 wx4) l4,
      Candidate_ok hk x1 q x4 _ (in_u8 wx1) (by omega) nx1 (in_u8 wx4) l4 (sigS_in _ _ _ _ _ _ _) (sigS_len _ _ _ _ _ _ _) (sig_code _ _ _ _), cand_sig hk, br_beq_pos (by rfl), br_beq_pos (by rfl), br_beq_pos (by rfl), R01_Same _ _ (by omega), decide_eq_true rfl, br_tt, br_beq_pos (by rw [hpl]; rfl), lmots_Size hk, br_beq_pos (by rw [sigS_len]), L14_awake]
  · refine Eq.trans e ?_
    rw [br_not, br_ff, L14_awake]
end Q
end
