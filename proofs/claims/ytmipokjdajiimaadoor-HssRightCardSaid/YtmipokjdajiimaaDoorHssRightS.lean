/-
  HssRight, part 19: an interpreter of my own over abstract values, the pure functions, the walks and the plain law.
-/

import Derived.Test.YtmipokjdajiimaaDoorHssRightR
import Derived.Test.YtmipokjdajiimaaDoorHssRightK
import Derived.Test.YtmipokjdajiimaaDoorHssRightL

section
/- SHA-2: blocks one behind the other, words of 32 bits. -/
namespace Q
open Go Go.Abs
set_option linter.unusedVariables false
set_option linter.unusedSimpArgs false
def thr {w : Nat} (p : Par w) (v : List (BitVec w)) (b : List Int) : Nat → List (BitVec w)
 | 0 => v
 | i + 1 => ava p (thr p v b i) ((b.drop ((2 * w) * i)).take (2 * w))
theorem aki {w : Nat} (p : Par w) (v : List (BitVec w)) (hv : v.length = 8) (b : List Int) : ∀ i, (thr p v b i).length = 8
 | 0 => hv
 | i + 1 => bk6 _ _ _
def toV (w : Nat) (l : List Int) : List (BitVec w) := (List.range 8).map fun i => BitVec.ofInt w (l.getD i 0)
theorem ali (w : Nat) (l : List Int) : (toV w l).length = 8 := by simp [toV]
theorem bro (w : Nat) (l : List Int) (hl : l.length = 8) (hi : In (2 ^ w) l) : cv (toV w l) = l := by
 unfold cv toV
 rw [List.map_map]
 refine List.ext_getElem (by simp [hl]) (fun i h1 h2 => ?_)
 have hp : ((2 : Int) ^ w) = ((2 ^ w : Nat) : Int) := by simp
 have := hi.getD i (by rw [hp]; have := p2 w; omega)
 rw [getD_lt h2] at this
 simp only [List.getElem_map, List.getElem_range, Function.comp, getD_lt h2, BitVec.toNat_ofInt]
 rw [hp] at this
 rw [Int.emod_eq_of_lt this.1 this.2]
 omega
theorem bt2 {w : Nat} (l : List (BitVec w)) : In (2 ^ w) (cv l) := by
 intro x hx
 obtain ⟨y, _, rfl⟩ := List.mem_map.1 hx
 have := y.isLt
 have hp : ((2 : Int) ^ w) = ((2 ^ w : Nat) : Int) := by simp
 rw [hp]
 omega
theorem bw3 {w : Nat} (l : List (BitVec w)) (hl : l.length = 8) : toV w (cv l) = l := by
 unfold toV
 refine List.ext_getElem (by simp [hl]) (fun i h1 h2 => ?_)
 simp only [List.getElem_map, List.getElem_range, afm, ofI, getD_lt h2]
theorem bas (x : Int) : IntKind.u32.wrap x = ((BitVec.ofInt 32 x).toNat : Int) := by
 rw [bua, BitVec.toNat_ofInt]; omega
def rest (n : Nat) (b : List Int) : List Int := b.drop (n * (b.length / n))
theorem bvn (words b : List Int) (rd : Int) (t0 t1 t2 t3 h1 h2 : List Int) (hi : In 18446744073709551616 words) {ρ : Type} (k0 : List Int → List Int → Int → Int → Int → List Int → List Int → List Int → List Int → List Int → List Int → List Int → Option ρ) :
    P.abe b words 0 32 rd t0 t1 t2 t3 h1 h2 (List.replicate 8 0) k0 = k0 b words 8 32 rd t0 t1 t2 t3 h1 h2 (cv (toV 32 words)) := by
 rw [P.aio]
 unfold P.aey P.bxe P.bui P.b3q
 refine qo (fun i => (b, words, (i : Int), 32, rd, t0, t1, t2, t3, h1, h2, cv ((List.range i).map fun i => BitVec.ofInt 32 (words.getD i 0)) ++ List.replicate (8 - i) 0)) 8 (by simp [cv]) (fun i hi' next hn' => ?_) (fun next => ?_) (by omega)
 ·simp only [P.abt, toNat_cast]
  have e4 : IntKind.i64.wrap ((i : Int) + 1) = ((i + 1 : Nat) : Int) := by rw [nu (by omega) (by omega)]; omega
  have e5 : (cv ((List.range i).map fun i => BitVec.ofInt 32 (words.getD i 0)) ++ List.replicate (8 - i) (0 : Int)).set i ((BitVec.ofInt 32 (words.getD i 0)).toNat : Int) = cv ((List.range (i + 1)).map fun i => BitVec.ofInt 32 (words.getD i 0)) ++ List.replicate (8 - (i + 1)) 0 := by
   rw [List.set_append_right _ _ (by simp), vk, List.length_map, List.length_range, Nat.sub_self, show 8 - i = (8 - (i + 1)) + 1 by omega, List.replicate_succ, List.set_cons_zero, List.range_succ, List.map_append, ← ae7, List.append_assoc]
   rfl
  rw [ah (by omega), ah (by omega), ah (by omega), ah (by omega), ah (by omega), bas, e5, e4]
  exact hn'
 ·simp only [P.abt]
  rw [bg (by omega)]
  simp [toV]
theorem buu (v : List (BitVec 32)) (hv : v.length = 8) (b : List Int) (hb : In 256 b) (hn : b.length ≤ 1000000) (h1 h2 : List Int) {ρ : Type} (k0 : List Int → Int → List Int → List Int → List Int → Int → Int → List Int → List Int → List Int → List Int → Option ρ) :
    P.abr b 64 (cv v) h2 h1 32 64 [7, 18, 3] [17, 19, 10] [2, 13, 22] [6, 11, 25] k0 =
     k0 (rest 64 b) 64 (cv (thr p32 v b (b.length / 64))) h2 h1 32 64 [7, 18, 3] [17, 19, 10] [2, 13, 22] [6, 11, 25] := by
 rw [P.aik]
 unfold P.ae9 P.bxx P.bw8 P.b3p
 refine qo (fun i => (b.drop (64 * i), 64, cv (thr p32 v b i), h2, h1, 32, 64, [7, 18, 3], [17, 19, 10], [2, 13, 22], [6, 11, 25])) (b.length / 64) (by simp [thr]) (fun i hi next hn' => ?_) (fun next => ?_) (by omega)
 ·simp only [P.abv]
  have hlen : (b.drop (64 * i)).length = b.length - 64 * i := by simp
  have hge : 64 ≤ b.length - 64 * i := by omega
  simp only [hlen, show (64 : Int).toNat = 64 from rfl, toNat_cast, List.drop_zero]
  have hbl : ((b.drop (64 * i)).take 64).length = 16 * 4 := by rw [List.length_take, hlen]; omega
  rw [ah (by omega), ah (by omega), ah (by omega), bm2 _ (aki _ _ hv _ _) _ ((hb.drop _).take _) hbl, ah (by omega), ah (by omega), ah (by omega),
   List.take_of_length_le (by rw [hlen]; omega), List.drop_drop, show 64 * i + 64 = 64 * (i + 1) by omega]
  exact hn'
 ·simp only [P.abv]
  have hlen : (b.drop (64 * (b.length / 64))).length = b.length - 64 * (b.length / 64) := by simp
  rw [bg (by rw [hlen]; omega)]
  rfl
theorem bry (v : List (BitVec 32)) (hv : v.length = 8) (b : List Int) (words h2 : List Int) (hl : words.length = 8) {ρ : Type} (k0 : List Int → List Int → Int → List Int → List Int → Option ρ) :
    P.aa2 b (cv v) 0 words h2 k0 = k0 b (cv v) 8 (cv v) h2 := by
 rw [P.aht]
 unfold P.adz P.bxm P.bxa P.b1i
 refine qo (fun i => (b, cv v, (i : Int), (cv v).take i ++ words.drop i, h2)) 8 (by simp) (fun i hi next hn' => ?_) (fun next => ?_) (by omega)
 ·simp only [P.aa5, toNat_cast]
  have e4 : IntKind.i64.wrap ((i : Int) + 1) = ((i + 1 : Nat) : Int) := by rw [nu (by omega) (by omega)]; omega
  have e5 : ((cv v).take i ++ words.drop i).set i ((cv v).getD i 0) = (cv v).take (i + 1) ++ words.drop (i + 1) := by
   rw [List.set_append_right _ _ (by rw [List.length_take]; omega), List.length_take, vk, hv, Nat.min_eq_left (by omega), Nat.sub_self, List.drop_eq_getElem_cons (by omega), List.set_cons_zero, ← ais (cv v) 0 i (by rw [vk]; omega), List.append_assoc]
   rfl
  have e6 : IntKind.u64.wrap ((cv v).getD i 0) = (cv v).getD i 0 := by
   rw [afm]; exact aag _ (nlt _)
  rw [ah (by omega), ah (by omega), ah (by omega), ah (by omega), ah (by omega), e6, e5, e4]
  exact hn'
 ·simp only [P.aa5]
  rw [bg (by omega), List.drop_eq_nil_of_le (by omega), List.append_nil, List.take_of_length_le (by rw [vk]; omega)]
  rfl
theorem bhj (words b : List Int) (hl : words.length = 8) (hi : In 18446744073709551616 words) (hb : In 256 b) (hn : b.length ≤ 1000000) {ρ : Type} (k : List Int → List Int → Option ρ) :
    P.oh 32 64 [7, 18, 3] [17, 19, 10] [2, 13, 22] [6, 11, 25] words b k = k (cv (thr p32 (toV 32 words) b (b.length / 64))) (rest 64 b) := by
 rw [P.ae5]
 unfold P.aaz
 refine (bvn words b 64 [7, 18, 3] [17, 19, 10] [2, 13, 22] [6, 11, 25] words (List.replicate 8 0) hi _).trans ?_
 rw [show IntKind.i64.wrap ((32 : Int) * 2) = 64 from rfl, buu _ (ali _ _) b hb hn, bry _ (aki _ _ (ali _ _) _ _) _ _ _ hl]
theorem bwl (v : List (BitVec 32)) (hv : v.length = 8) (b : List Int) (hb : In 256 b) (hn : b.length ≤ 1000000) (kd : Int) (tl : List Int) (sz : Int) (a1 : Int) (a2 : List Int) (a3 : Int) {ρ : Type} (k0 : Int → List Int → Int → List Int → List Int → Int → Int → List Int → Int → Option ρ) :
    P.amn 64 b kd (cv v) tl sz a1 a2 a3 k0 = k0 64 (rest 64 b) kd (cv (thr p32 v b (b.length / 64))) tl sz a1 a2 a3 := by
 rw [P.aqe]
 unfold P.aro P.bwx P.bu5 P.bzr
 refine qo (fun i => (64, b.drop (64 * i), kd, cv (thr p32 v b i), tl, sz, a1, a2, a3)) (b.length / 64) (by simp [thr]) (fun i hi next hn' => ?_) (fun next => ?_) (by omega)
 ·simp only [P.aiy]
  have hlen : (b.drop (64 * i)).length = b.length - 64 * i := by simp
  have hge : 64 ≤ b.length - 64 * i := by omega
  simp only [hlen, show (64 : Int).toNat = 64 from rfl, toNat_cast, List.drop_zero]
  have hbl : ((b.drop (64 * i)).take 64).length = 16 * 4 := by rw [List.length_take, hlen]; omega
  rw [ah (by omega), ah (by omega), ah (by omega), show ((64 : Int) == 128) = false from rfl, bm0 _ (aki _ _ hv _ _) _ ((hb.drop _).take _) hbl, ah (by omega), ah (by omega), ah (by omega),
   List.take_of_length_le (by rw [hlen]; omega), List.drop_drop, show 64 * i + 64 = 64 * (i + 1) by omega]
  exact hn'
 ·simp only [P.aiy]
  have hlen : (b.drop (64 * (b.length / 64))).length = b.length - 64 * (b.length / 64) := by simp
  rw [bg (by rw [hlen]; omega)]
  rfl
end Q
end

section
/- SHA-2: blocks one behind the other, words of 64 bits. -/
namespace Q
open Go Go.Abs
set_option linter.unusedVariables false
set_option linter.unusedSimpArgs false
theorem bv8 (words b : List Int) (rd : Int) (t0 t1 t2 t3 h1 h2 : List Int) (hi : In 18446744073709551616 words) {ρ : Type} (k0 : List Int → List Int → Int → Int → Int → List Int → List Int → List Int → List Int → List Int → List Int → List Int → Option ρ) :
    P.abh b words 0 64 rd t0 t1 t2 t3 h1 h2 (List.replicate 8 0) k0 = k0 b words 8 64 rd t0 t1 t2 t3 h1 h2 (cv (toV 64 words)) := by
 rw [P.ait]
 unfold P.ae8 P.bzl P.bvl P.b1v
 refine qo (fun i => (b, words, (i : Int), 64, rd, t0, t1, t2, t3, h1, h2, cv ((List.range i).map fun i => BitVec.ofInt 64 (words.getD i 0)) ++ List.replicate (8 - i) 0)) 8 (by simp [cv]) (fun i hi' next hn' => ?_) (fun next => ?_) (by omega)
 ·simp only [P.abx, toNat_cast]
  have e4 : IntKind.i64.wrap ((i : Int) + 1) = ((i + 1 : Nat) : Int) := by rw [nu (by omega) (by omega)]; omega
  have e6 : words.getD i 0 = ((BitVec.ofInt 64 (words.getD i 0)).toNat : Int) := by
   have := hi.getD i (by omega)
   rw [BitVec.toNat_ofInt]
   omega
  have e5 : (cv ((List.range i).map fun i => BitVec.ofInt 64 (words.getD i 0)) ++ List.replicate (8 - i) (0 : Int)).set i ((BitVec.ofInt 64 (words.getD i 0)).toNat : Int) = cv ((List.range (i + 1)).map fun i => BitVec.ofInt 64 (words.getD i 0)) ++ List.replicate (8 - (i + 1)) 0 := by
   rw [List.set_append_right _ _ (by simp), vk, List.length_map, List.length_range, Nat.sub_self, show 8 - i = (8 - (i + 1)) + 1 by omega, List.replicate_succ, List.set_cons_zero, List.range_succ, List.map_append, ← ae7, List.append_assoc]
   rfl
  rw [ah (by omega), ah (by omega), ah (by omega), ah (by omega), ah (by omega), e6, e5, e4]
  exact hn'
 ·simp only [P.abx]
  rw [bg (by omega)]
  simp [toV]
theorem bu4 (v : List (BitVec 64)) (hv : v.length = 8) (b : List Int) (hb : In 256 b) (hn : b.length ≤ 1000000) (h1 h2 : List Int) {ρ : Type} (k0 : List Int → Int → List Int → List Int → List Int → Int → Int → List Int → List Int → List Int → List Int → Option ρ) :
    P.abo b 128 (cv v) h2 h1 64 80 [1, 8, 7] [19, 61, 6] [28, 34, 39] [14, 18, 41] k0 =
     k0 (rest 128 b) 128 (cv (thr p64 v b (b.length / 128))) h2 h1 64 80 [1, 8, 7] [19, 61, 6] [28, 34, 39] [14, 18, 41] := by
 rw [P.aiu]
 unfold P.ae6 P.byz P.bux P.b3d
 refine qo (fun i => (b.drop (128 * i), 128, cv (thr p64 v b i), h2, h1, 64, 80, [1, 8, 7], [19, 61, 6], [28, 34, 39], [14, 18, 41])) (b.length / 128) (by simp [thr]) (fun i hi next hn' => ?_) (fun next => ?_) (by omega)
 ·simp only [P.abn]
  have hlen : (b.drop (128 * i)).length = b.length - 128 * i := by simp
  have hge : 128 ≤ b.length - 128 * i := by omega
  simp only [hlen, show (128 : Int).toNat = 128 from rfl, toNat_cast, List.drop_zero]
  have hbl : ((b.drop (128 * i)).take 128).length = 16 * 8 := by rw [List.length_take, hlen]; omega
  rw [ah (by omega), ah (by omega), ah (by omega), bnt _ (aki _ _ hv _ _) _ ((hb.drop _).take _) hbl, ah (by omega), ah (by omega), ah (by omega),
   List.take_of_length_le (by rw [hlen]; omega), List.drop_drop, show 128 * i + 128 = 128 * (i + 1) by omega]
  exact hn'
 ·simp only [P.abn]
  have hlen : (b.drop (128 * (b.length / 128))).length = b.length - 128 * (b.length / 128) := by simp
  rw [bg (by rw [hlen]; omega)]
  rfl
theorem btu (v : List (BitVec 64)) (hv : v.length = 8) (b : List Int) (words h2 : List Int) (hl : words.length = 8) {ρ : Type} (k0 : List Int → List Int → Int → List Int → List Int → Option ρ) :
    P.aa4 b (cv v) 0 words h2 k0 = k0 b (cv v) 8 (cv v) h2 := by
 rw [P.ahq]
 unfold P.ad1 P.bzb P.buh P.b2t
 refine qo (fun i => (b, cv v, (i : Int), (cv v).take i ++ words.drop i, h2)) 8 (by simp) (fun i hi next hn' => ?_) (fun next => ?_) (by omega)
 ·simp only [P.aa0, toNat_cast]
  have e4 : IntKind.i64.wrap ((i : Int) + 1) = ((i + 1 : Nat) : Int) := by rw [nu (by omega) (by omega)]; omega
  have e5 : ((cv v).take i ++ words.drop i).set i ((cv v).getD i 0) = (cv v).take (i + 1) ++ words.drop (i + 1) := by
   rw [List.set_append_right _ _ (by rw [List.length_take]; omega), List.length_take, vk, hv, Nat.min_eq_left (by omega), Nat.sub_self, List.drop_eq_getElem_cons (by omega), List.set_cons_zero, ← ais (cv v) 0 i (by rw [vk]; omega), List.append_assoc]
   rfl
  rw [ah (by omega), ah (by omega), ah (by omega), ah (by omega), ah (by omega), e5, e4]
  exact hn'
 ·simp only [P.aa0]
  rw [bg (by omega), List.drop_eq_nil_of_le (by omega), List.append_nil, List.take_of_length_le (by rw [vk]; omega)]
  rfl
theorem bgo (words b : List Int) (hl : words.length = 8) (hi : In 18446744073709551616 words) (hb : In 256 b) (hn : b.length ≤ 1000000) {ρ : Type} (k : List Int → List Int → Option ρ) :
    P.oo 64 80 [1, 8, 7] [19, 61, 6] [28, 34, 39] [14, 18, 41] words b k = k (cv (thr p64 (toV 64 words) b (b.length / 128))) (rest 128 b) := by
 rw [P.aex]
 unfold P.aa6
 refine (bv8 words b 80 [1, 8, 7] [19, 61, 6] [28, 34, 39] [14, 18, 41] words (List.replicate 8 0) hi _).trans ?_
 rw [show IntKind.i64.wrap ((64 : Int) * 2) = 128 from rfl, bu4 _ (ali _ _) b hb hn, btu _ (aki _ _ (ali _ _) _ _) _ _ _ hl]
theorem bwb (v : List (BitVec 64)) (hv : v.length = 8) (b : List Int) (hb : In 256 b) (hn : b.length ≤ 1000000) (kd : Int) (tl : List Int) (sz : Int) (a1 : Int) (a2 : List Int) (a3 : Int) {ρ : Type} (k0 : Int → List Int → Int → List Int → List Int → Int → Int → List Int → Int → Option ρ) :
    P.amn 128 b kd (cv v) tl sz a1 a2 a3 k0 = k0 128 (rest 128 b) kd (cv (thr p64 v b (b.length / 128))) tl sz a1 a2 a3 := by
 rw [P.aqe]
 unfold P.aro P.bwx P.bu5 P.bzr
 refine qo (fun i => (128, b.drop (128 * i), kd, cv (thr p64 v b i), tl, sz, a1, a2, a3)) (b.length / 128) (by simp [thr]) (fun i hi next hn' => ?_) (fun next => ?_) (by omega)
 ·simp only [P.aiy]
  have hlen : (b.drop (128 * i)).length = b.length - 128 * i := by simp
  have hge : 128 ≤ b.length - 128 * i := by omega
  simp only [hlen, show (128 : Int).toNat = 128 from rfl, toNat_cast, List.drop_zero]
  have hbl : ((b.drop (128 * i)).take 128).length = 16 * 8 := by rw [List.length_take, hlen]; omega
  rw [ah (by omega), ah (by omega), ah (by omega), show ((128 : Int) == 128) = true from rfl, bls _ (aki _ _ hv _ _) _ ((hb.drop _).take _) hbl, ah (by omega), ah (by omega), ah (by omega),
   List.take_of_length_le (by rw [hlen]; omega), List.drop_drop, show 128 * i + 128 = 128 * (i + 1) by omega]
  exact hn'
 ·simp only [P.aiy]
  have hlen : (b.drop (128 * (b.length / 128))).length = b.length - 128 * (b.length / 128) := by simp
  rw [bg (by rw [hlen]; omega)]
  rfl
end Q
end

section
/- Are two rows of bytes the same. -/
namespace Q
open Go Go.Abs
set_option linter.unusedVariables false
set_option linter.unusedSimpArgs false
end Q
end

section
/- SHA-2: sums that go on, and their ends. -/
namespace Q
open Go Go.Abs
set_option linter.unusedVariables false
set_option linter.unusedSimpArgs false
def bsz (kind : Int) : Nat := if kind = 1 then 64 else 128
theorem ap3 (kind : Int) : (kind = 1 ∧ bsz kind = 64) ∨ (kind ≠ 1 ∧ bsz kind = 128) := by
 unfold bsz
 by_cases h : kind = 1
 ·exact .inl ⟨h, if_pos h⟩
 ·exact .inr ⟨h, if_neg h⟩
theorem qw (kind : Int) {ρ : Type} (k : Int → Option ρ) : P.qw kind k = k ((bsz kind : Nat) : Int) := by
 rw [P.aj9]; unfold P.ad7
 rcases ap3 kind with ⟨h, e⟩ | ⟨h, e⟩
 ·rw [bq h, e]; rfl
 ·rw [ak h, e]; rfl
theorem ae3 (kind : Int) {ρ : Type} (k : Int → Option ρ) : P.ae3 kind k = k ((bsz kind : Nat) : Int) := by
 rw [P.be6]; unfold P.ajo
 rcases ap3 kind with ⟨h, e⟩ | ⟨h, e⟩
 ·rw [bq h, e]; rfl
 ·rw [ak h, e]; rfl
def ax3 (kind : Int) (words all : List Int) : List Int :=
 if kind = 1 then cv (thr p32 (toV 32 words) all (all.length / 64)) else cv (thr p64 (toV 64 words) all (all.length / 128))
theorem amg (kind : Int) (words all : List Int) : (ax3 kind words all).length = 8 := by
 unfold ax3
 split <;> rw [vk, aki _ _ (ali _ _)]
def Wok (kind : Int) (words : List Int) : Prop := words.length = 8 ∧ In 18446744073709551616 words ∧ (kind = 1 → In 4294967296 words)
theorem ai9 (kind : Int) (words all : List Int) : Wok kind (ax3 kind words all) := by
 refine ⟨amg _ _ _, ?_, fun h => ?_⟩
 ·unfold ax3
  split
  ·intro x hx
   have := bt2 _ x hx
   omega
  ·intro x hx
   have := bt2 _ x hx
   omega
 ·unfold ax3
  rw [if_pos h]
  intro x hx
  have := bt2 _ x hx
  omega
theorem aha (n : Nat) (hn : 0 < n) (b : List Int) : (rest n b).length = b.length % n := by
 unfold rest
 rw [List.length_drop]
 have := Nat.div_add_mod b.length n
 omega
theorem aks {n : Nat} {b : List Int} (h : In 256 b) : In 256 (rest n b) := h.drop _
theorem abk {ρ : Type} (k : Int → Int → List Int → List Int → List Int → List Int → Option ρ) : P.abk k = k 32 64 [7, 18, 3] [17, 19, 10] [2, 13, 22] [6, 11, 25] := by rw [P.asn]; rfl
theorem abu {ρ : Type} (k : Int → Int → List Int → List Int → List Int → List Int → Option ρ) : P.abu k = k 64 80 [1, 8, 7] [19, 61, 6] [28, 34, 39] [14, 18, 41] := by rw [P.as0]; rfl
theorem uw (kind : Int) (words tail : List Int) (size : Int) (b : List Int) (hl : words.length = 8) (hi : In 18446744073709551616 words) (ht : In 256 tail) (hb : In 256 b) (hn : tail.length + b.length ≤ 1000000) {ρ : Type} (k : Int → List Int → List Int → Int → Option ρ) :
    P.uw kind words tail size b k = k kind (ax3 kind words (tail ++ b)) (rest (bsz kind) (tail ++ b)) (IntKind.u64.wrap (size + IntKind.u64.wrap (b.length : Int))) := by
 rw [P.az0]; unfold P.anp
 have hf : [tail, b].flatten = tail ++ b := by simp
 have hall : (tail ++ b).length ≤ 1000000 := by rw [List.length_append]; exact hn
 have hin : In 256 (tail ++ b) := ht.app hb
 have hr : ∀ n, (rest n (tail ++ b)).length ≤ 1000000 := fun n => by unfold rest; rw [List.length_drop]; omega
 rw [iq _ (by simp) (by rw [hf]; omega), hf]
 rcases ap3 kind with ⟨h, e⟩ | ⟨h, e⟩
 ·rw [bq h, abk, e]
  rw [bhj words _ hl hi hin hall]
  unfold P.ny ax3
  have := hr 64
  rw [ah (by omega), if_pos h]
 ·rw [ak h, abu, e]
  rw [bgo words _ hl hi hin hall]
  unfold P.ny ax3
  have := hr 128
  rw [ah (by omega), if_neg h]
theorem ahv (kind : Int) (words tail : List Int) (size : Int) (b : List Int) (hw : Wok kind words) (ht : In 256 tail) (hb : In 256 b) (hn : tail.length + b.length ≤ 1000000) {ρ : Type} (k : Int → List Int → List Int → Int → Option ρ) :
    P.ahv kind words tail size b k = k kind (ax3 kind words (tail ++ b)) (rest (bsz kind) (tail ++ b)) (IntKind.u64.wrap (size + IntKind.u64.wrap (b.length : Int))) := by
 rw [P.bka]; unfold P.ank
 obtain ⟨hl, hi, h1⟩ := hw
 have hf : [tail, b].flatten = tail ++ b := by simp
 have hall : (tail ++ b).length ≤ 1000000 := by rw [List.length_append]; exact hn
 have hin : In 256 (tail ++ b) := ht.app hb
 rw [ae3, yg _ (by simp) (by rw [hf]; omega), hf]
 rcases ap3 kind with ⟨h, e⟩ | ⟨h, e⟩
 ·have hv := bro 32 words hl (h1 h)
  rw [e]
  conv => lhs; rw [← hv]
  rw [show ((64 : Nat) : Int) = 64 from rfl, bwl _ (ali _ _) _ hin hall]
  unfold ax3
  rw [if_pos h]
 ·have hv := bro 64 words hl hi
  rw [e]
  conv => lhs; rw [← hv]
  rw [show ((128 : Nat) : Int) = 128 from rfl, bwb _ (ali _ _) _ hin hall]
  unfold ax3
  rw [if_neg h]
def bk4 (kind : Int) (tl : Nat) : Nat := if kind = 1 then (119 - tl) % 64 else (239 - tl) % 128 + 8
def pad (kind : Int) (tl : Nat) (size : Nat) : List Int := 128 :: List.replicate (bk4 kind tl) 0 ++ (bsw 8 8 (size * 8 % 2 ^ 64)).reverse
def bf6 (n : Nat) (words : List Int) (i : Nat) : List Int := ((List.range i).map fun j => (bsw 8 n (words.getD j 0).toNat).reverse).flatten
theorem apv (n : Nat) (words : List Int) (i : Nat) : bf6 n words (i + 1) = bf6 n words i ++ (bsw 8 n (words.getD i 0).toNat).reverse := by simp [bf6, List.range_succ]
theorem agz (n : Nat) (words : List Int) : ∀ i, (bf6 n words i).length = n * i
 | 0 => by simp [bf6]
 | i + 1 => by rw [apv, List.length_append, agz n words i, List.length_reverse, aay, Nat.mul_succ]
theorem bhn (n : Nat) (words : List Int) : ∀ i, In 256 (bf6 n words i)
 | 0 => by simp [bf6, In]
 | i + 1 => by rw [apv]; exact (bhn n words i).app (be3 8 n _).rev
def bmq (kind : Int) (words tail : List Int) (size : Nat) : List Int :=
 let o := bf6 (bsz kind / 16) (ax3 kind words (tail ++ pad kind tail.length size)) 8
 if kind = 2 then o.take 48 else o
theorem br7 (kind : Int) (words tail : List Int) (size : Nat) : In 256 (bmq kind words tail size) := by
 unfold bmq
 simp only
 split
 ·exact (bhn _ _ _).take _
 ·exact bhn _ _ _
theorem bqj (kind : Int) (words tail : List Int) (size : Nat) : (bmq kind words tail size).length = if kind = 1 then 32 else if kind = 2 then 48 else 64 := by
 unfold bmq
 simp only
 rcases ap3 kind with ⟨h, e⟩ | ⟨h, e⟩
 ·rw [if_neg (by omega), if_pos h, agz, e]
 ·rw [if_neg h, e]
  split
  ·rw [List.length_take, agz]; decide
  ·rw [agz]
theorem tmN (a b : Nat) : ((a : Nat) : Int).tmod (b : Int) = ((a % b : Nat) : Int) := by
 rw [Int.tmod_eq_emod_of_nonneg (by omega)]; rfl
theorem blv (kind : Int) (tl size : Nat) : In 256 (pad kind tl size) := by
 unfold pad
 refine In.app ?_ (be3 8 8 _).rev
 intro x hx
 rcases List.mem_cons.1 hx with rfl | hx
 ·omega
 ·rw [List.mem_replicate] at hx; omega
theorem bl5 (kind : Int) (tl size : Nat) : (pad kind tl size).length = bk4 kind tl + 9 := by
 unfold pad; simp
theorem bl0 (kind : Int) (tl : Nat) : bk4 kind tl ≤ 200 := by
 unfold bk4; split <;> omega
theorem bqd (n : Nat) (hn : n = 64 ∨ n = 128) (words : List Int) (hw : In 18446744073709551616 words) (a : Int) (b : List Int) (c : Int) (d : List Int) {ρ : Type} (k0 : Int → List Int → Int → List Int → Int → List Int → Int → List Int → Option ρ) :
    P.anv (n : Int) words 0 [] a b c d k0 = k0 (n : Int) words 8 (bf6 (n / 16) words 8) a b c d := by
 rw [P.ayd]
 unfold P.axm P.bxy P.bv2 P.bz5
 have e16 : IntKind.i64.wrap ((n : Int).tdiv 16) = ((n / 16 : Nat) : Int) := by rcases hn with rfl | rfl <;> rfl
 refine qo (fun i => ((n : Int), words, (i : Int), bf6 (n / 16) words i, a, b, c, d)) 8 rfl (fun i hi next hn' => ?_) (fun next => ?_) (by omega)
 ·simp only [P.ant, toNat_cast]
  have h1 := hw.getD i (by omega)
  have e4 : IntKind.i64.wrap ((i : Int) + 1) = ((i + 1 : Nat) : Int) := by rw [nu (by omega) (by omega)]; omega
  have e5 : words.getD i 0 = (((words.getD i 0).toNat : Nat) : Int) := by omega
  rw [apv] at hn'
  rw [ah (by omega), ah (by omega), ah (by omega), e16, e5, gq _ _ (by omega) (by omega), e4]
  rw [ah (by rw [agz, List.length_reverse, aay]; rcases hn with rfl | rfl <;> omega)]
  exact hn'
 ·simp only [P.ant]
  rw [bg (by omega)]
  rfl
theorem shl3 (size : Nat) : IntKind.u64.wrap ((size : Int) * (2 : Int) ^ 3) = ((size * 8 % 2 ^ 64 : Nat) : Int) := by
 rw [bo0]; omega
theorem aaq (kind : Int) (words tail : List Int) (size : Nat) (hl : words.length = 8) (hi : In 18446744073709551616 words) (ht : In 256 tail) (hn : tail.length < bsz kind) {ρ : Type} (k : List Int → Option ρ) :
    P.aaq kind words tail (size : Int) k = k (bmq kind words tail size) := by
 rw [P.azc]; unfold P.aod
 rw [qw]
 have hz : IntKind.i64.wrap (IntKind.i64.wrap ((IntKind.i64.wrap (IntKind.i64.wrap (IntKind.i64.wrap (IntKind.i64.wrap ((2 : Int) * ((bsz kind : Nat) : Int)) - (1 : Int)) - IntKind.i64.wrap (((bsz kind : Nat) : Int).tdiv (8 : Int))) - (tail.length : Int))).tmod ((bsz kind : Nat) : Int) + IntKind.i64.wrap (((bsz kind : Nat) : Int).tdiv (8 : Int))) - (8 : Int)) = ((bk4 kind tail.length : Nat) : Int) := by
  unfold bk4
  rcases ap3 kind with ⟨h, e⟩ | ⟨h, e⟩
  ·rw [e] at hn ⊢
   rw [if_pos h, show IntKind.i64.wrap (IntKind.i64.wrap (IntKind.i64.wrap ((2 : Int) * ((64 : Nat) : Int)) - (1 : Int)) - IntKind.i64.wrap (((64 : Nat) : Int).tdiv (8 : Int))) = 119 from rfl, nu (x := (119 : Int) - (tail.length : Int)) (by omega) (by omega),
    show (119 : Int) - (tail.length : Int) = ((119 - tail.length : Nat) : Int) by omega, tmN, show IntKind.i64.wrap (((64 : Nat) : Int).tdiv (8 : Int)) = 8 from rfl, nu (x := ((((119 - tail.length) % 64 : Nat) : Int)) + 8) (by omega) (by omega), nu (by omega) (by omega)]
   omega
  ·rw [e] at hn ⊢
   rw [if_neg h, show IntKind.i64.wrap (IntKind.i64.wrap (IntKind.i64.wrap ((2 : Int) * ((128 : Nat) : Int)) - (1 : Int)) - IntKind.i64.wrap (((128 : Nat) : Int).tdiv (8 : Int))) = 239 from rfl, nu (x := (239 : Int) - (tail.length : Int)) (by omega) (by omega),
    show (239 : Int) - (tail.length : Int) = ((239 - tail.length : Nat) : Int) by omega, tmN, show IntKind.i64.wrap (((128 : Nat) : Int).tdiv (8 : Int)) = 16 from rfl, nu (x := ((((239 - tail.length) % 128 : Nat) : Int)) + 16) (by omega) (by omega), nu (by omega) (by omega)]
   omega
 have hb : bsz kind = 64 ∨ bsz kind = 128 := by rcases ap3 kind with ⟨h, e⟩ | ⟨h, e⟩ <;> omega
 have hz2 := bl0 kind tail.length
 rw [hz]
 simp only [toNat_cast]
 rw [ah (by omega), ah (by omega), bg (by omega), ah (by omega), ah (by omega), shl3, show (8 : Int) = ((8 : Nat) : Int) from rfl, gq _ 8 (by omega) (by omega)]
 have hp : (List.replicate 1 (0 : Int)).set 0 (128 : Int) ++ List.replicate (bk4 kind tail.length) (0 : Int) ++ (bsw 8 8 (size * 8 % 2 ^ 64)).reverse = pad kind tail.length size := rfl
 rw [ah (by
  show ((List.replicate (bk4 kind tail.length) (0 : Int)).length + 0 + 1 + _) * 1 ≤ _
  rw [List.length_replicate, List.length_reverse, aay]; omega), hp]
 have hpl := bl5 kind tail.length size
 rw [uw kind words tail _ _ hl hi ht (blv _ _ _) (by omega), bqd _ hb _ (ai9 _ _ _).2.1]
 unfold bmq
 simp only
 by_cases h2 : kind = 2
 ·have e : bsz kind = 128 := by unfold bsz; rw [if_neg (by omega)]
  rw [bq h2, ah (by rw [agz, e]; omega), if_pos h2]
  rfl
 ·rw [ak h2, if_neg h2]
theorem pads (n : Nat) (hn : n = 64 ∨ n = 128) (tl : Nat) (ht : tl < 200) (z m : Nat) (hm : m < n) (h1 : ∀ i, i < z → (tl + (1 + i)) % n ≠ m) (h2 : (tl + (1 + z)) % n = m) (hz : z ≤ 200) (c : Int) (kd : Int) (words tail : List Int) (size : Int) (hl : tail.length = tl) (d : Int) (hd : IntKind.i64.wrap ((n : Int) - d) = (m : Int)) :
    (d = 8 → ∀ {ρ : Type} (k0 : Int → Int → List Int → Int → List Int → List Int → Int → Option ρ), P.arz (n : Int) c [128] kd words tail size k0 = k0 (n : Int) c (128 :: List.replicate z 0) kd words tail size) ∧
    (d = 16 → ∀ {ρ : Type} (k0 : Int → Int → List Int → Int → List Int → List Int → Int → Option ρ), P.ark (n : Int) c [128] kd words tail size k0 = k0 (n : Int) c (128 :: List.replicate z 0) kd words tail size) := by
 have hlen : ∀ i : Nat, ((128 : Int) :: List.replicate i 0).length = 1 + i := fun i => by simp; omega
 have hc : ∀ i : Nat, i ≤ z → IntKind.i64.wrap (((tail.length : Nat) : Int) + ((((128 : Int) :: List.replicate i 0).length : Nat) : Int)) = ((tl + (1 + i) : Nat) : Int) := fun i hi => by
  rw [hlen, hl, nu (by omega) (by omega)]; omega
 have hs : ∀ i : Nat, ((128 : Int) :: List.replicate i 0) ++ [(0 : Int)] = 128 :: List.replicate (i + 1) 0 := fun i => by
  rw [List.replicate_succ']; rfl
 constructor
 ·rintro rfl ρ k0
  rw [P.bbn]
  unfold P.ayy P.bxq P.by7 P.b33
  refine qo (fun i => ((n : Int), c, 128 :: List.replicate i 0, kd, words, tail, size)) z rfl (fun i hi next hn' => ?_) (fun next => ?_) (by omega)
  ·simp only [P.ar4]
   have := h1 i hi
   rw [hc i (by omega), tmN, hd, bg (by omega), d9 (by omega), ah (by rw [hlen]; omega), hs]
   exact hn'
  ·simp only [P.ar4]
   rw [hc z (by omega), tmN, hd, bg (by omega), h2, au (by rfl)]
 ·rintro rfl ρ k0
  rw [P.ba1]
  unfold P.ayu P.by4 P.bx4 P.bz3
  refine qo (fun i => ((n : Int), c, 128 :: List.replicate i 0, kd, words, tail, size)) z rfl (fun i hi next hn' => ?_) (fun next => ?_) (by omega)
  ·simp only [P.ar6]
   have := h1 i hi
   rw [hc i (by omega), tmN, hd, bg (by omega), d9 (by omega), ah (by rw [hlen]; omega), hs]
   exact hn'
  ·simp only [P.ar6]
   rw [hc z (by omega), tmN, hd, bg (by omega), h2, au (by rfl)]
theorem bjo (n : Nat) (hn : n = 64 ∨ n = 128) (words : List Int) (hw : In 18446744073709551616 words) (a : Int) (b : List Int) (c : Int) {ρ : Type} (k0 : Int → Int → List Int → Int → List Int → List Int → Int → Option ρ) :
    P.ajj (n : Int) 0 [] a words b c k0 = k0 (n : Int) 8 (bf6 (n / 16) words 8) a words b c := by
 rw [P.aya]
 unfold P.avh P.byy P.bxp P.b2o
 have e16 : IntKind.i64.wrap ((n : Int).tdiv 16) = ((n / 16 : Nat) : Int) := by rcases hn with rfl | rfl <;> rfl
 refine qo (fun i => ((n : Int), (i : Int), bf6 (n / 16) words i, a, words, b, c)) 8 rfl (fun i hi next hn' => ?_) (fun next => ?_) (by omega)
 ·simp only [P.an7, toNat_cast]
  have h1 := hw.getD i (by omega)
  have e4 : IntKind.i64.wrap ((i : Int) + 1) = ((i + 1 : Nat) : Int) := by rw [nu (by omega) (by omega)]; omega
  have e5 : words.getD i 0 = (((words.getD i 0).toNat : Nat) : Int) := by omega
  rw [apv] at hn'
  rw [ah (by omega), ah (by omega), ah (by omega), e16, e5, oz _ _ (by omega) (by omega), e4]
  rw [ah (by rw [agz, List.length_reverse, aay]; rcases hn with rfl | rfl <;> omega)]
  exact hn'
 ·simp only [P.an7]
  rw [bg (by omega)]
  rfl
theorem bjm (kind : Int) (words tail : List Int) (size : Nat) {ρ : Type} (k : List Int → Option ρ) :
    (br (kind == (2 : Int)) (br (decide ((48 : Int) ≤ ((bf6 (bsz kind / 16) (ax3 kind words (tail ++ pad kind tail.length size)) 8).length : Int))) (k (List.take ((48 : Int) - (0 : Int)).toNat (bf6 (bsz kind / 16) (ax3 kind words (tail ++ pad kind tail.length size)) 8))) none)
     (k (bf6 (bsz kind / 16) (ax3 kind words (tail ++ pad kind tail.length size)) 8))) = k (bmq kind words tail size) := by
 unfold bmq
 simp only
 by_cases h2 : kind = 2
 ·have e : bsz kind = 128 := by unfold bsz; rw [if_neg (by omega)]
  rw [bq h2, ah (by rw [agz, e]; omega), if_pos h2]
  rfl
 ·rw [ak h2, if_neg h2]
theorem ase (kind : Int) (words tail : List Int) (size : Nat) (hw : Wok kind words) (ht : In 256 tail) (hn : tail.length < bsz kind) (hs : size < 2305843009213693952) {ρ : Type} (k : List Int → Option ρ) :
    P.ase kind words tail (size : Int) k = k (bmq kind words tail size) := by
 rw [P.bkp]; unfold P.anu
 have h8 : IntKind.u64.wrap ((size : Int) * 8) = ((size * 8 % 2 ^ 64 : Nat) : Int) := by rw [bo0]; omega
 have hpl := bl5 kind tail.length size
 have hz2 := bl0 kind tail.length
 rw [ae3, h8]
 rcases ap3 kind with ⟨h, e⟩ | ⟨h, e⟩
 ·rw [e] at hn ⊢
  have hp := (pads 64 (.inl rfl) tail.length (by omega) (bk4 kind tail.length) 56 (by omega) (fun i hi => by unfold bk4 at hi; rw [if_pos h] at hi; omega) (by unfold bk4; rw [if_pos h]; omega) hz2 ((size * 8 % 2 ^ 64 : Nat) : Int) kind words tail (size : Int) rfl 8 rfl).1
  rw [hp rfl, ak (by decide), show (8 : Int) = ((8 : Nat) : Int) from rfl, oz _ 8 (by omega) (by omega), ah (by simp; omega)]
  have hpad : (128 : Int) :: List.replicate (bk4 kind tail.length) 0 ++ (bsw 8 8 (size * 8 % 2 ^ 64)).reverse = pad kind tail.length size := rfl
  rw [hpad, ahv kind words tail _ _ hw ht (blv _ _ _) (by omega), bjo _ (.inl rfl) _ (ai9 _ _ _).2.1]
  have := bjm kind words tail size k
  rw [e] at this
  exact this
 ·rw [e] at hn ⊢
  have hp1 := (pads 128 (.inr rfl) tail.length (by omega) ((247 - tail.length) % 128) 120 (by omega) (fun i hi => by omega) (by omega) (by omega) ((size * 8 % 2 ^ 64 : Nat) : Int) kind words tail (size : Int) rfl 8 rfl).1
  have hp2 := (pads 128 (.inr rfl) tail.length (by omega) ((239 - tail.length) % 128) 112 (by omega) (fun i hi => by omega) (by omega) (by omega) ((size * 8 % 2 ^ 64 : Nat) : Int) kind words tail (size : Int) rfl 16 rfl).2
  have h61 : ((size : Nat) : Int).fdiv ((2 : Int) ^ 61) = ((0 : Nat) : Int) := by
   have := fdiv_pow size 61 61 (by omega)
   rw [Nat.div_eq_of_lt (by omega)] at this
   exact this
  rw [hp1 rfl, bq (by rfl), hp2 rfl, h61, show (8 : Int) = ((8 : Nat) : Int) from rfl, oz _ 8 (by omega) (by omega), ah (by simp; omega), oz _ 8 (by omega) (by omega), ah (by simp; omega)]
  have hpad : (128 : Int) :: List.replicate ((239 - tail.length) % 128) 0 ++ (bsw 8 8 0).reverse ++ (bsw 8 8 (size * 8 % 2 ^ 64)).reverse = pad kind tail.length size := by
   unfold pad bk4
   rw [if_neg h, ← List.replicate_append_replicate]
   rfl
  rw [hpad, ahv kind words tail _ _ hw ht (blv _ _ _) (by omega), bjo _ (.inr rfl) _ (ai9 _ _ _).2.1]
  have := bjm kind words tail size k
  rw [e] at this
  exact this
def bq3 (kind : Int) : List Int :=
 if kind = 1 then [1779033703, 3144134277, 1013904242, 2773480762, 1359893119, 2600822924, 528734635, 1541459225]
 else if kind = 2 then [14680500436340154072, 7105036623409894663, 10473403895298186519, 1526699215303891257, 7436329637833083697, 10282925794625328401, 15784041429090275239, 5167115440072839076]
 else [7640891576956012808, 13503953896175478587, 4354685564936845355, 11912009170470909681, 5840696475078001361, 11170449401992604703, 2270897969802886507, 6620516959819538809]
theorem bb4 (kind : Int) : Wok kind (bq3 kind) := by
 unfold bq3 Wok
 by_cases h1 : kind = 1
 ·simp only [if_pos h1]
  refine ⟨rfl, ?_, fun _ => ?_⟩
  ·unfold In; decide
  ·unfold In; decide
 ·by_cases h2 : kind = 2
  ·simp only [if_neg h1, if_pos h2]
   refine ⟨rfl, ?_, fun h => absurd h h1⟩
   unfold In; decide
  ·simp only [if_neg h1, if_neg h2]
   refine ⟨rfl, ?_, fun h => absurd h h1⟩
   unfold In; decide
def K3 (kind : Int) : Prop := kind = 1 ∨ kind = 2 ∨ kind = 3
theorem bht {kind : Int} (h : K3 kind) {ρ : Type} (k : List Int → Bool → Option ρ) : P.adg kind k = k (bq3 kind) true := by
 rw [P.as8]
 rcases h with rfl | rfl | rfl <;> kernel_rfl
theorem aao {kind : Int} (h : K3 kind) {ρ : Type} (k : Int → List Int → List Int → Int → Int → Option ρ) : P.aao kind k = k kind (bq3 kind) [] 0 0 := by
 rw [P.azl]; unfold P.an4
 rw [bht h, ji, o9]
theorem ar1 {kind : Int} (h : K3 kind) {ρ : Type} (k : Int → List Int → List Int → Int → Int → Option ρ) : P.ar1 kind k = k kind (bq3 kind) [] 0 0 := by
 rw [P.bkz]; unfold P.an9 bq3
 rcases h with rfl | rfl | rfl
 ·rw [bq (by rfl)]; rfl
 ·rw [ak (by decide), bq (by rfl)]; rfl
 ·rw [ak (by decide), ak (by decide), bq (by rfl)]; rfl
theorem bau (kind : Int) : 0 < bsz kind := by rcases ap3 kind with ⟨h, e⟩ | ⟨h, e⟩ <;> omega
def brv (kind : Int) (b : List Int) : List Int := bmq kind (ax3 kind (bq3 kind) b) (rest (bsz kind) b) b.length
theorem aun (b : List Int) (hn : b.length ≤ 1000000) : IntKind.u64.wrap ((0 : Int) + IntKind.u64.wrap (b.length : Int)) = ((b.length : Nat) : Int) := by
 rw [aag _ (by omega), Int.zero_add, aag _ (by omega)]
theorem af5 {kind : Int} (h : K3 kind) (b : List Int) (hb : In 256 b) (hn : b.length ≤ 1000000) {ρ : Type} (k : List Int → Int → Option ρ) : P.af5 kind b k = k (brv kind b) 0 := by
 rw [P.azg]; unfold P.an3
 have hw := bb4 kind
 have hr := aha _ (bau kind) b
 have hlt := Nat.mod_lt b.length (bau kind)
 rw [aao h, au (by rfl), uw kind _ [] _ b hw.1 hw.2.1 In.nil hb (by simpa using hn), List.nil_append, aun b hn, aaq kind _ _ _ (amg _ _ _) (ai9 _ _ _).2.1 (aks hb) (by omega)]
 rfl
theorem aq7 {kind : Int} (h : K3 kind) (b : List Int) (hb : In 256 b) (hn : b.length ≤ 1000000) {ρ : Type} (k : List Int → Int → Option ρ) : P.aq7 kind b k = k (brv kind b) 0 := by
 rw [P.bk3]; unfold P.anh
 have hw := bb4 kind
 have hr := aha _ (bau kind) b
 have hlt := Nat.mod_lt b.length (bau kind)
 rw [ar1 h, au (by rfl), ahv kind _ [] _ b hw In.nil hb (by simpa using hn), List.nil_append, aun b hn, ase kind _ _ _ (ai9 _ _ _) (aks hb) (by omega) (by omega)]
 rfl
theorem btv (kind : Int) (b : List Int) : In 256 (brv kind b) := br7 _ _ _ _
theorem bp2 (kind : Int) (b : List Int) : (brv kind b).length = if kind = 1 then 32 else if kind = 2 then 48 else 64 := bqj _ _ _ _
end Q
end

section
/- SHA-2: bytes that are added one behind the other. -/
namespace Q
open Go Go.Abs
set_option linter.unusedVariables false
set_option linter.unusedSimpArgs false
theorem ayv {w : Nat} (p : Par w) (v : List (BitVec w)) (a b : List Int) (m : Nat) (hm : (2 * w) * m = a.length) : ∀ i, thr p v (a ++ b) (m + i) = thr p (thr p v a m) b i ∧ thr p v (a ++ b) m = thr p v a m := by
 have key : ∀ i, i ≤ m → thr p v (a ++ b) i = thr p v a i := by
  intro i
  induction i with
  | zero => intro _; rfl
  | succ i ih =>
   intro hi
   have h1 : (2 * w) * i + 2 * w ≤ a.length := by
    rw [← hm, ← Nat.mul_succ]
    exact Nat.mul_le_mul (Nat.le_refl _) hi
   simp only [thr]
   rw [ih (by omega), List.drop_append_of_le_length (by omega), List.take_append_of_le_length (by rw [List.length_drop]; omega)]
 intro i
 refine ⟨?_, key m (Nat.le_refl _)⟩
 induction i with
 | zero => exact key m (Nat.le_refl _)
 | succ i ih =>
  rw [← Nat.add_assoc]
  simp only [thr]
  rw [ih, Nat.mul_add, hm, List.drop_append, List.drop_eq_nil_of_le (by omega), List.nil_append, Nat.add_sub_cancel_left]
theorem brz (words all : List Int) : ax3 1 words all = cv (thr p32 (toV 32 words) all (all.length / 64)) := if_pos rfl
theorem bqn (words a b : List Int) : ax3 1 (ax3 1 words a) (rest 64 a ++ b) = ax3 1 words (a ++ b) := by
 have hlen := aki p32 (toV 32 words) (ali _ _) a (a.length / 64)
 rw [brz, brz, brz, bw3 _ hlen]
 have h0 : a = a.take (64 * (a.length / 64)) ++ rest 64 a := by unfold rest; rw [List.take_append_drop]
 have h1 : (a.take (64 * (a.length / 64))).length = 64 * (a.length / 64) := by rw [List.length_take]; omega
 have h2 := aha 64 (by omega) a
 have e1 := ayv p32 (toV 32 words) (a.take (64 * (a.length / 64))) (rest 64 a ++ b) (a.length / 64) h1.symm ((rest 64 a ++ b).length / 64)
 have e2 := ayv p32 (toV 32 words) (a.take (64 * (a.length / 64))) (rest 64 a) (a.length / 64) h1.symm 0
 rw [← List.append_assoc, ← h0] at e1
 rw [← h0] at e2
 rw [e2.2, ← e1.1]
 congr 2
 rw [List.length_append, List.length_append, h2]
 omega
theorem bpo (a b : List Int) : rest 64 (rest 64 a ++ b) = rest 64 (a ++ b) := by
 have h2 := aha 64 (by omega) a
 have h3 : (a ++ b).drop (64 * (a.length / 64)) = rest 64 a ++ b := by unfold rest; rw [List.drop_append_of_le_length (by omega)]
 have hl : (rest 64 a ++ b).length = a.length % 64 + b.length := by rw [List.length_append, h2]
 have hq : (a ++ b).length / 64 = a.length / 64 + (rest 64 a ++ b).length / 64 := by
  rw [hl, List.length_append]; omega
 show (rest 64 a ++ b).drop (64 * ((rest 64 a ++ b).length / 64)) = (a ++ b).drop (64 * ((a ++ b).length / 64))
 rw [hq, Nat.mul_add, ← List.drop_drop, h3]
theorem bng (a b : List Int) (n : Nat) (hn : n = (a ++ b).length) : bmq 1 (ax3 1 (ax3 1 (bq3 1) a) (rest 64 a ++ b)) (rest 64 (rest 64 a ++ b)) n = brv 1 (a ++ b) := by
 rw [bqn, bpo, hn]
 rfl
end Q
end

section
/- lmots: the digits as the program and as the document count them. -/
namespace Q
open Go Go.Abs
set_option linter.unusedVariables false
set_option linter.unusedSimpArgs false
theorem y9 {w p s : Nat} (h : Kind w p s) : ∃ t : Int, ∀ {ρ : Type} (k : Int → Int → Int → Option ρ), P.y9 (w : Int) k = k (p : Int) (s : Int) t := by
 rcases h with ⟨rfl, rfl, rfl⟩ | ⟨rfl, rfl, rfl⟩ | ⟨rfl, rfl, rfl⟩ | ⟨rfl, rfl, rfl⟩ 
 ·exact ⟨1, fun k => by rw [P.ac0]; kernel_rfl⟩
 ·exact ⟨2, fun k => by rw [P.ac0]; kernel_rfl⟩
 ·exact ⟨3, fun k => by rw [P.ac0]; kernel_rfl⟩
 ·exact ⟨4, fun k => by rw [P.ac0]; kernel_rfl⟩
theorem ni {w p s : Nat} (h : Kind w p s) : ∃ t : Int, ∀ {ρ : Type} (k : Int → Int → Int → Bool → Option ρ), P.ni (w : Int) k = k (p : Int) (s : Int) t true := by
 rcases h with ⟨rfl, rfl, rfl⟩ | ⟨rfl, rfl, rfl⟩ | ⟨rfl, rfl, rfl⟩ | ⟨rfl, rfl, rfl⟩ 
 ·exact ⟨1, fun k => by rw [P.aav]; kernel_rfl⟩
 ·exact ⟨2, fun k => by rw [P.aav]; kernel_rfl⟩
 ·exact ⟨3, fun k => by rw [P.aav]; kernel_rfl⟩
 ·exact ⟨4, fun k => by rw [P.aav]; kernel_rfl⟩
theorem baw (w : Int) : (∃ n p s : Nat, w = (n : Int) ∧ Kind n p s) ∨ (w ≠ 1 ∧ w ≠ 2 ∧ w ≠ 4 ∧ w ≠ 8) := by
 by_cases h1 : w = 1
 ·exact .inl ⟨1, 265, 7, h1, by simp [Kind]⟩
 ·by_cases h2 : w = 2
  ·exact .inl ⟨2, 133, 6, h2, by simp [Kind]⟩
  ·by_cases h4 : w = 4
   ·exact .inl ⟨4, 67, 4, h4, by simp [Kind]⟩
   ·by_cases h8 : w = 8
    ·exact .inl ⟨8, 34, 0, h8, by simp [Kind]⟩
    ·exact .inr ⟨h1, h2, h4, h8⟩
theorem bgn {w : Int} (h : w ≠ 1 ∧ w ≠ 2 ∧ w ≠ 4 ∧ w ≠ 8) {ρ : Type} (k : Int → Int → Int → Option ρ) : P.y9 w k = k 0 0 0 := by
 rw [P.ac0]; unfold P.ag0
 rw [ak h.1, ak h.2.1, ak h.2.2.1, ak h.2.2.2]
theorem aus {w p s : Nat} (h : Kind w p s) : ((p : Int) == 0) = false := by
 rcases h with ⟨rfl, rfl, rfl⟩ | ⟨rfl, rfl, rfl⟩ | ⟨rfl, rfl, rfl⟩ | ⟨rfl, rfl, rfl⟩ <;> rfl
theorem bqz {w p s : Nat} (h : Kind w p s) : IntKind.i64.wrap (Int.tdiv (256 : Int) (w : Int)) = ((256 / w : Nat) : Int) := by
 rcases h with ⟨rfl, rfl, rfl⟩ | ⟨rfl, rfl, rfl⟩ | ⟨rfl, rfl, rfl⟩ | ⟨rfl, rfl, rfl⟩ <;> rfl
theorem bgg {w : Nat} {b : List Int} (hb : In (2 ^ w) b) (t : Nat) : ∃ x : Nat, b.getD t 0 = (x : Int) ∧ x < 2 ^ w := by
 have hp : ((2 : Int) ^ w) = ((2 ^ w : Nat) : Int) := by simp
 have := hb.getD t (by rw [hp]; have := p2 w; omega)
 rw [hp] at this
 exact ⟨(b.getD t 0).toNat, by omega, by omega⟩
theorem bq0 {w p s : Nat} (hk : Kind w p s) (x : List Int) (i : Nat) : sumTo (uf x w ((256 / w : Nat) : Int)) i ≤ i * (2 ^ w - 1) := sumTo_le _ w (aqr x w _) i
theorem arl {w p s : Nat} (hk : Kind w p s) (x : List Int) (hx : In 256 x) (hl : x.length = 32) {ρ : Type} (k : List Int → Int → Option ρ) : P.y7 (w : Int) x k = k (bt7 w p s x) 0 := by
 obtain ⟨t, ht⟩ := ni hk
 obtain ⟨f1, f2, f3, f4, f5, f6, f7, f8, f9, f10, f11⟩ := aeh hk
 rw [P.akr]
 unfold P.afn
 have hn : (uf x w ((256 / w : Nat) : Int)).length = 256 / w := by
  rw [aec x w _ f1 (by omega) (by omega)]; simp
 rw [ht, ji, o9, au (by omega), bg (by omega), bqz hk, uo _ _ _ hx (by omega), bg (by omega), hn]
 have hm : IntKind.u64.wrap (((256 / w : Nat) : Int)) = ((256 / w : Nat) : Int) := aag _ (by omega)
 simp only [toNat_cast]
 rw [hm, bok w (by omega), ← Int.natCast_mul, aag _ (by omega), P.apl]
 unfold P.al6 P.bzj P.bv0 P.b2a
 refine qo (fun i => ((w : Int), ((256 / w * (2 ^ w - 1) - sumTo (uf x w ((256 / w : Nat) : Int)) i : Nat) : Int), ((256 / w : Nat) : Int), (i : Int), (p : Int), (s : Int), t, uf x w ((256 / w : Nat) : Int))) (256 / w) (by simp [sumTo]) (fun i hi next hn' => ?_) (fun next => ?_) (by omega)
 ·obtain ⟨d, hd, hd2⟩ := bgg (w := w) (aqr x w ((256 / w : Nat) : Int)) i
  have hle := bq0 hk x (i + 1)
  have hle2 : (i + 1) * (2 ^ w - 1) ≤ 256 / w * (2 ^ w - 1) := Nat.mul_le_mul hi (Nat.le_refl _)
  simp only [sumTo, hd, Int.toNat_natCast] at hn' hle
  simp only [P.agd, toNat_cast]
  rw [hd, aag d (by omega), show ((256 / w * (2 ^ w - 1) - sumTo (uf x w ((256 / w : Nat) : Int)) i : Nat) : Int) - (d : Int) = ((256 / w * (2 ^ w - 1) - (sumTo (uf x w ((256 / w : Nat) : Int)) i + d) : Nat) : Int) by omega, aag _ (by omega)]
  simp (disch := omega) only [ah, bg, d9, au, bq, ak, ji, o9, vo, nu, hn]
  exact hn'
 ·simp only [P.agd]
  have hleft : (256 / w * (2 ^ w - 1) - sumTo (uf x w ((256 / w : Nat) : Int)) (256 / w)) * 2 ^ s = left w s x := rfl
  have hlt := bmu hk x
  have hn2 : (uf (bsw 8 2 (left w s x)).reverse w ((p - 256 / w : Nat) : Int)).length = p - 256 / w := by
   rw [aec _ w _ f1 (by omega) (by rw [Nat.sub_mul, Nat.mul_comm p w, f5]; simp; omega)]; simp
  rw [bg (by omega), bg (by omega)]
  simp only [toNat_cast]
  rw [mul_pow _ s 64 (by omega), hleft, aag _ (by omega), show (2 : Int) = ((2 : Nat) : Int) from rfl, gq _ 2 (by omega) (by omega), hn, nu (by omega) (by omega), show (p : Int) - ((256 / w : Nat) : Int) = ((p - 256 / w : Nat) : Int) by omega,
   uo _ _ _ (be3 8 2 _).rev (by simp), hn2, ah (by omega)]
  unfold bt7
  rw [bkh hk x _ hl (by simp)]
theorem akz {w p s : Nat} (hk : Kind w p s) (x : List Int) (hx : In 256 x) (hl : x.length = 32) {ρ : Type} (k : List Int → Int → Option ρ) : P.air (w : Int) x k = k (bt7 w p s x) 0 := by
 obtain ⟨t, ht⟩ := y9 hk
 obtain ⟨f1, f2, f3, f4, f5, f6, f7, f8, f9, f10, f11⟩ := aeh hk
 rw [P.bcp]
 unfold P.ah6
 have hn : (uf x w ((256 / w : Nat) : Int)).length = 256 / w := by
  rw [aec x w _ f1 (by omega) (by omega)]; simp
 rw [ht, aus hk, vo, au (by omega), bg (by omega), bqz hk, ac6 _ _ _ hx (by omega), P.att]
 unfold P.aou P.byc P.by3 P.b3e
 refine qo (fun i => ((w : Int), x, (p : Int), (s : Int), ((i * (2 ^ w - 1) - sumTo (uf x w ((256 / w : Nat) : Int)) i : Nat) : Int), (i : Int), uf x w ((256 / w : Nat) : Int))) (256 / w) (by simp [sumTo]) (fun i hi next hn' => ?_) (fun next => ?_) (by omega)
 ·obtain ⟨d, hd, hd2⟩ := bgg (w := w) (aqr x w ((256 / w : Nat) : Int)) i
  have hle := bq0 hk x i
  have hle2 : (i + 1) * (2 ^ w - 1) ≤ 256 / w * (2 ^ w - 1) := Nat.mul_le_mul hi (Nat.le_refl _)
  have hs : (i + 1) * (2 ^ w - 1) = i * (2 ^ w - 1) + (2 ^ w - 1) := Nat.succ_mul i _
  simp only [sumTo, hd, Int.toNat_natCast] at hn'
  simp only [P.ai2, toNat_cast]
  rw [bok w (by omega), hd, aag d (by omega), ← Int.natCast_add, aag _ (by omega), show ((i * (2 ^ w - 1) - sumTo (uf x w ((256 / w : Nat) : Int)) i + (2 ^ w - 1) : Nat) : Int) - (d : Int) = (((i + 1) * (2 ^ w - 1) - (sumTo (uf x w ((256 / w : Nat) : Int)) i + d) : Nat) : Int) by omega, aag _ (by omega)]
  simp (disch := omega) only [ah, bg, d9, au, bq, ak, ji, o9, vo, nu, hn]
  exact hn'
 ·simp only [P.ai2]
  have hleft : (256 / w * (2 ^ w - 1) - sumTo (uf x w ((256 / w : Nat) : Int)) (256 / w)) * 2 ^ s = left w s x := rfl
  have hlt := bmu hk x
  have hf : [x, (bsw 8 2 (left w s x)).reverse].flatten = x ++ (bsw 8 2 (left w s x)).reverse := by simp
  rw [bg (by rw [hn]; omega), bg (by omega)]
  simp only [toNat_cast]
  rw [mul_pow _ s 64 (by omega), hleft, aag _ (by omega), show (2 : Int) = ((2 : Nat) : Int) from rfl, oz _ 2 (by omega) (by omega), yg _ (by simp) (by rw [hf]; simp; omega), hf, ac6 _ _ _ (hx.app (be3 8 2 _).rev) (by simp; omega)]
  rfl
theorem jk {w p s : Nat} (hk : Kind w p s) {ρ : Type} (k : Int → Option ρ) : P.jk (w : Int) k = k ((36 + 32 * p : Nat) : Int) := by
 obtain ⟨t, ht⟩ := ni hk
 obtain ⟨f1, f2, f3, f4, f5, f6, f7, f8, f9, f10, f11⟩ := aeh hk
 rw [P.ao9]; unfold P.ah8
 rw [ht, ji, o9, nu (x := (32 : Int) * (p : Int)) (by omega) (by omega), nu (by omega) (by omega)]; rfl
theorem aa8 {w p s : Nat} (hk : Kind w p s) {ρ : Type} (k : Int → Option ρ) : P.aa8 (w : Int) k = k ((36 + 32 * p : Nat) : Int) := by
 obtain ⟨t, ht⟩ := y9 hk
 obtain ⟨f1, f2, f3, f4, f5, f6, f7, f8, f9, f10, f11⟩ := aeh hk
 rw [P.axn]; unfold P.ahf
 rw [ht, aus hk, vo, nu (x := (32 : Int) * (p : Int)) (by omega) (by omega), nu (by omega) (by omega)]; rfl
theorem bhg {w : Int} (h : w ≠ 1 ∧ w ≠ 2 ∧ w ≠ 4 ∧ w ≠ 8) {ρ : Type} (k : Int → Option ρ) : P.aa8 w k = k 0 := by
 rw [P.axn]; unfold P.ahf
 rw [bgn h]; kernel_rfl
theorem bpl {w p s : Nat} (hk : Kind w p s) (x : List Int) (hl : x.length = 32) : (bt7 w p s x).length = p := by
 obtain ⟨f1, f2, f3, f4, f5, f6, f7, f8, f9, f10, f11⟩ := aeh hk
 unfold bt7
 rw [aec _ w p f1 (by omega) (by rw [Nat.mul_comm, f5]; simp; omega)]; simp
end Q
end

section
/- lmots: sums of a leaf. -/
namespace Q
open Go Go.Abs
set_option linter.unusedVariables false
set_option linter.unusedSimpArgs false
def beN (n s : Nat) : List Int := (bsw 8 s n).reverse
theorem kr (n s : Nat) : (beN n s).length = s := by simp [beN]
theorem zf (n s : Nat) : In 256 (beN n s) := (be3 8 s n).rev
def atu (id : List Int) (q n : Nat) (l : List (List Int)) : List Int := brv 1 ((id ++ (beN q 4 ++ beN n 2)) ++ l.flatten)
theorem uj (id : List Int) (q n : Nat) (l : List (List Int)) : (atu id q n l).length = 32 := by
 unfold atu; rw [bp2, if_pos rfl]
theorem acz (id : List Int) (q n : Nat) (l : List (List Int)) : In 256 (atu id q n l) := btv _ _
theorem bim (a b : Nat) (h : a + b ≤ 1000000) : IntKind.u64.wrap (((a : Nat) : Int) + IntKind.u64.wrap ((b : Nat) : Int)) = ((a + b : Nat) : Int) := by
 rw [aag _ (by omega), ← Int.natCast_add, aag _ (by omega)]
theorem aqi (w : Int) (id : List Int) (q n : Nat) (d s c : Int) (l : List (List Int)) (hid : In 256 id) (h16 : id.length ≤ 300) (hq : q < 4294967296) (hn : n < 18446744073709551616) (hl : In 256 l.flatten) (hc : l.length ≤ 1000000) (hb : l.flatten.length ≤ 900000) {ρ : Type} (k : List Int → Option ρ) :
    P.ig w id (q : Int) d s c (n : Int) l k = k (atu id q n l) := by
 rw [P.ain]; unfold P.ads
 have hw := bb4 1
 have hf : [id, (bsw 8 4 q).reverse, (bsw 8 2 n).reverse].flatten = id ++ (beN q 4 ++ beN n 2) := by simp [beN]
 have hlen : (id ++ (beN q 4 ++ beN n 2)).length = id.length + 6 := by simp [kr]
 have hin : In 256 (id ++ (beN q 4 ++ beN n 2)) := hid.app ((zf _ _).app (zf _ _))
 have hr := aha 64 (by omega) (id ++ (beN q 4 ++ beN n 2))
 have hr2 := aha 64 (by omega) (rest 64 (id ++ (beN q 4 ++ beN n 2)) ++ l.flatten)
 have hlt := Nat.mod_lt (rest 64 (id ++ (beN q 4 ++ beN n 2)) ++ l.flatten).length (show 0 < 64 by omega)
 rw [aao (.inl rfl), aag _ (by omega), show (4 : Int) = ((4 : Nat) : Int) from rfl, gq q 4 (by omega) (by omega), show (2 : Int) = ((2 : Nat) : Int) from rfl, gq n 2 hn (by omega), eu _ (by simp) (by rw [hf]; omega), hf,
  uw 1 _ [] _ _ hw.1 hw.2.1 In.nil hin (by rw [hlen, List.length_nil]; omega), List.nil_append, aun _ (by omega), show bsz 1 = 64 from rfl, eu l (by omega) (by omega),
  uw 1 _ _ _ _ (amg _ _ _) (ai9 _ _ _).2.1 (aks hin) hl (by omega), show bsz 1 = 64 from rfl, bim _ _ (by omega), aaq 1 _ _ _ (amg _ _ _) (ai9 _ _ _).2.1 (aks ((aks hin).app hl)) (by rw [hr2]; exact hlt),
  bng _ _ _ (by simp only [List.length_append])]
 rfl
theorem H14 (l : List (List Int)) (hl : In 256 l.flatten) (hc : l.length ≤ 1000000) (hb : l.flatten.length ≤ 1000000) {ρ : Type} (k : List Int → Option ρ) : P.ax5 l k = k (brv 1 l.flatten) := by
 rw [P.bo4]; unfold P.axv
 rw [yg l (by omega) (by omega), aq7 (.inl rfl) _ hl hb]
theorem amh (id : List Int) (q n : Nat) (l : List (List Int)) (hid : In 256 id) (h16 : id.length ≤ 300) (hl : In 256 l.flatten) (hc : l.length ≤ 900000) (hb : l.flatten.length ≤ 900000) {ρ : Type} (k : List Int → Option ρ) :
    P.ax5 (id :: (bsw 8 4 q).reverse :: (bsw 8 2 n).reverse :: l) k = k (atu id q n l) := by
 have hf : (id :: (bsw 8 4 q).reverse :: (bsw 8 2 n).reverse :: l).flatten = (id ++ (beN q 4 ++ beN n 2)) ++ l.flatten := by simp [beN]
 have hlen : (id ++ (beN q 4 ++ beN n 2)).length = id.length + 6 := by simp [kr]
 rw [H14 _ (by rw [hf]; exact (hid.app ((zf _ _).app (zf _ _))).app hl) (by simp only [List.length_cons]; omega) (by rw [hf, List.length_append, hlen]; omega), hf]
 rfl
def chS (id : List Int) (q i f : Nat) (y : List Int) : Nat → List Int
 | 0 => y
 | j + 1 => atu id q i [[((f + j : Nat) : Int)], chS id q i f y j]
theorem avr (id : List Int) (q i f : Nat) (y : List Int) (hy : y.length = 32) : ∀ j, (chS id q i f y j).length = 32
 | 0 => hy
 | j + 1 => uj _ _ _ _
theorem bet (id : List Int) (q i f : Nat) (y : List Int) (hy : In 256 y) : ∀ j, In 256 (chS id q i f y j)
 | 0 => hy
 | j + 1 => acz _ _ _ _
theorem bms (id : List Int) (q i f : Nat) (y : List Int) (m : Nat) : ∀ n, chS id q i f y (m + n) = chS id q i (f + m) (chS id q i f y m) n
 | 0 => rfl
 | n + 1 => by
  rw [← Nat.add_assoc]
  simp only [chS]
  rw [bms id q i f y m n, Nat.add_assoc]
def og (id : List Int) (q i : Nat) (seed : List Int) : List Int := atu id q i [[255], seed]
theorem ac4 (id : List Int) (q i : Nat) (seed : List Int) : In 256 (og id q i seed) := acz _ _ _ _
theorem ai7 (id : List Int) (q i : Nat) (seed : List Int) : (og id q i seed).length = 32 := uj _ _ _ _
theorem bfi {b : Int} {y : List Int} (hb : 0 ≤ b ∧ b < 256) (hy : In 256 y) : In 256 [[b], y].flatten := by
 have e : [[b], y].flatten = [b] ++ y := by simp
 rw [e]
 refine In.app ?_ hy
 intro x hx
 simp only [List.mem_singleton] at hx
 subst hx; exact hb
theorem bak (b : Int) (y : List Int) : [[b], y].flatten.length = y.length + 1 := by simp
theorem axd (w : Int) (id : List Int) (q i : Nat) (d s c : Int) (seed : List Int) (hid : In 256 id) (h16 : id.length ≤ 300) (hq : q < 4294967296) (hi : i < 18446744073709551616) (hs : In 256 seed) (hsl : seed.length ≤ 300) {ρ : Type} (k : List Int → Option ρ) :
    P.l9 w id (q : Int) d s c (i : Int) seed k = k (og id q i seed) := by
 rw [P.ag9]; unfold P.acu
 rw [aqi w id q i d s c _ hid h16 hq hi (bfi (by omega) hs) (by simp) (by rw [bak]; omega)]
 rfl
theorem arv (w : Int) (id : List Int) (q i f n : Nat) (d s c : Int) (y : List Int) (hid : In 256 id) (h16 : id.length ≤ 300) (hq : q < 4294967296) (hi : i < 100000) (hf : f + n ≤ 256) (hy : In 256 y) (hyl : y.length = 32) {ρ : Type} (k : List Int → Option ρ) :
    P.jr w id (q : Int) d s c (i : Int) (f : Int) (n : Int) y k = k (chS id q i f y n) := by
 rw [P.af8]; unfold P.acd
 rw [P.akg]
 unfold P.agq P.bxd P.bv4 P.b3b
 refine qo (fun j => ((i : Int), (f : Int), chS id q i f y j, (n : Int), (j : Int), w, id, (q : Int), d, s, c)) n rfl (fun j hj next hn' => ?_) (fun next => ?_) (by omega)
 ·simp only [P.ac1]
  have e1 : IntKind.u8.wrap (IntKind.u32.wrap ((f : Int) + (j : Int))) = ((f + j : Nat) : Int) := by
   rw [← Int.natCast_add, bcw _ (by omega), u8n _ (by omega)]
  have e2 : IntKind.u32.wrap ((j : Int) + 1) = ((j + 1 : Nat) : Int) := by rw [show ((j : Int) + 1) = ((j + 1 : Nat) : Int) by omega, bcw _ (by omega)]
  have hl := avr id q i f y hyl j
  rw [ah (by omega), aag _ (by omega), e1, e2, aqi w id q i d s c _ hid h16 hq (by omega) (bfi (by omega) (bet _ _ _ _ _ hy _)) (by simp) (by rw [bak]; omega)]
  exact hn'
 ·simp only [P.ac1]
  rw [bg (by omega)]
theorem bly (id : List Int) (q i : Nat) (seed : List Int) (hid : In 256 id) (h16 : id.length ≤ 300) (hq : q < 4294967296) (hi : i < 18446744073709551616) (hs : In 256 seed) (hsl : seed.length ≤ 300) {ρ : Type} (k : List Int → Option ρ) :
    P.aml id (q : Int) (i : Int) seed k = k (og id q i seed) := by
 rw [P.bhm]; unfold P.akn
 rw [aag _ (by omega), aag _ (by omega), show (4 : Int) = ((4 : Nat) : Int) from rfl, oz q 4 (by omega) (by omega), show (2 : Int) = ((2 : Nat) : Int) from rfl, oz i 2 hi (by omega), amh id q i [[255], seed] hid h16 (bfi (by omega) hs) (by simp) (by rw [bak]; omega)]
 rfl
theorem bfx (id : List Int) (q i f t : Nat) (y : List Int) (hid : In 256 id) (h16 : id.length ≤ 300) (hq : q < 4294967296) (hi : i < 100000) (hft : f ≤ t) (ht : t ≤ 256) (hy : In 256 y) (hyl : y.length = 32) {ρ : Type} (k : List Int → Option ρ) :
    P.aic id (q : Int) (i : Int) (f : Int) (t : Int) y k = k (chS id q i f y (t - f)) := by
 rw [P.bey]; unfold P.ajs
 rw [P.av8]
 unfold P.atg P.bzc P.bzi P.b0f
 refine qo (fun j => (id, (q : Int), (i : Int), (t : Int), chS id q i f y j, ((f + j : Nat) : Int))) (t - f) rfl (fun j hj next hn' => ?_) (fun next => ?_) (by omega)
 ·simp only [P.ak9]
  have e1 : IntKind.u8.wrap ((f + j : Nat) : Int) = ((f + j : Nat) : Int) := u8n _ (by omega)
  have e2 : IntKind.i64.wrap (((f + j : Nat) : Int) + 1) = ((f + (j + 1) : Nat) : Int) := by rw [nu (by omega) (by omega)]; omega
  have hl := avr id q i f y hyl j
  rw [ah (by omega), aag _ (by omega), aag _ (by omega), e1, e2, show (4 : Int) = ((4 : Nat) : Int) from rfl, oz q 4 (by omega) (by omega), show (2 : Int) = ((2 : Nat) : Int) from rfl, oz i 2 (by omega) (by omega), amh id q i [[((f + j : Nat) : Int)], chS id q i f y j] hid h16 (bfi (by omega) (bet _ _ _ _ _ hy _)) (by simp) (by rw [bak]; omega)]
  exact hn'
 ·simp only [P.ak9]
  rw [bg (by omega)]
end Q
end

section
/- lmots: keys, signatures, and what these lead to. -/
namespace Q
open Go Go.Abs
set_option linter.unusedVariables false
set_option linter.unusedSimpArgs false
def u7 (w : Nat) : Nat := if w = 1 then 1 else if w = 2 then 2 else if w = 4 then 3 else 4
theorem bth {w p s : Nat} (h : Kind w p s) {ρ : Type} (k : Int → Int → Int → Bool → Option ρ) : P.ni (w : Int) k = k (p : Int) (s : Int) ((u7 w : Nat) : Int) true := by
 rw [P.aav]
 rcases h with ⟨rfl, rfl, rfl⟩ | ⟨rfl, rfl, rfl⟩ | ⟨rfl, rfl, rfl⟩ | ⟨rfl, rfl, rfl⟩ <;> kernel_rfl
theorem bc5 {w p s : Nat} (h : Kind w p s) {ρ : Type} (k : Int → Int → Int → Option ρ) : P.y9 (w : Int) k = k (p : Int) (s : Int) ((u7 w : Nat) : Int) := by
 rw [P.ac0]
 rcases h with ⟨rfl, rfl, rfl⟩ | ⟨rfl, rfl, rfl⟩ | ⟨rfl, rfl, rfl⟩ | ⟨rfl, rfl, rfl⟩ <;> kernel_rfl
theorem ag4 (w : Nat) : u7 w < 5 := by unfold u7; split <;> (try split) <;> (try split) <;> omega
theorem bjd {w p s : Nat} (h : Kind w p s) (id : List Int) (q : Int) (hl : id.length = 16) {ρ : Type} (k : Int → List Int → Int → Int → Int → Int → Int → Option ρ) : P.wm (w : Int) id q k = k (w : Int) id q (p : Int) (s : Int) ((u7 w : Nat) : Int) 0 := by
 rw [P.am5]; unfold P.agv
 rw [bth h, ji, o9, au (by rw [hl]; rfl)]
theorem bfr {w p s : Nat} (h : Kind w p s) (id : List Int) (q : Int) (seed : List Int) (hl : id.length = 16) (hs : seed.length = 32) {ρ : Type} (k : Int → List Int → Int → Int → Int → Int → Int → Option ρ) : P.tu (w : Int) id q seed k = k (w : Int) id q (p : Int) (s : Int) ((u7 w : Nat) : Int) 0 := by
 rw [P.alb]; unfold P.afh
 rw [bjd h id q hl, bq (by rfl), au (by rw [hs]; rfl)]
theorem bhz {w p s : Nat} (h : Kind w p s) (id seed : List Int) (hl : id.length = 16) (hs : seed.length = 32) {ρ : Type} (k : Int → Option ρ) : P.aky (w : Int) id seed k = k 0 := by
 rw [P.bev]; unfold P.ai3
 rw [bc5 h, aus h, vo, au (by rw [hl]; rfl), au (by rw [hs]; rfl)]
theorem bh4 {w p s : Nat} (h : Kind w p s) (id : List Int) (q a b c : Int) {ρ : Type} (k : Int → Option ρ) : P.l8 (w : Int) id q a b c k = k ((2 ^ w - 1 : Nat) : Int) := by
 rw [P.agp]
 rcases h with ⟨rfl, rfl, rfl⟩ | ⟨rfl, rfl, rfl⟩ | ⟨rfl, rfl, rfl⟩ | ⟨rfl, rfl, rfl⟩ <;> kernel_rfl
theorem bhv {w p s : Nat} (h : Kind w p s) : IntKind.i64.wrap (IntKind.i64.wrap ((1 : Int) * (2 : Int) ^ min ((w : Int)).toNat 64) - (1 : Int)) = ((2 ^ w - 1 : Nat) : Int) := by
 rcases h with ⟨rfl, rfl, rfl⟩ | ⟨rfl, rfl, rfl⟩ | ⟨rfl, rfl, rfl⟩ | ⟨rfl, rfl, rfl⟩ <;> rfl
theorem pw {w p s : Nat} (h : Kind w p s) : 2 ^ w ≤ 256 ∧ 1 ≤ 2 ^ w ∧ p ≤ 265 ∧ 1 ≤ p := by
 rcases h with ⟨rfl, rfl, rfl⟩ | ⟨rfl, rfl, rfl⟩ | ⟨rfl, rfl, rfl⟩ | ⟨rfl, rfl, rfl⟩ <;> decide
def aas (f : Nat → List Int) (n : Nat) : List Int := ((List.range n).map f).flatten
theorem vw (f : Nat → List Int) (n : Nat) : aas f (n + 1) = aas f n ++ f n := by simp [aas, List.range_succ]
theorem acj (f : Nat → List Int) (h : ∀ i, (f i).length = 32) : ∀ n, (aas f n).length = 32 * n
 | 0 => by simp [aas]
 | n + 1 => by rw [vw, List.length_append, acj f h n, h]; omega
theorem amq (f : Nat → List Int) (h : ∀ i, In 256 (f i)) : ∀ n, In 256 (aas f n)
 | 0 => by simp [aas, In]
 | n + 1 => by rw [vw]; exact (amq f h n).app (h n)
theorem avz (f g : Nat → List Int) : ∀ n, (∀ i, i < n → f i = g i) → aas f n = aas g n
 | 0, _ => rfl
 | n + 1, h => by rw [vw, vw, avz f g n (fun i hi => h i (by omega)), h n (by omega)]
theorem ang (f : Nat → List Int) (h : ∀ i, (f i).length = 32) : ∀ n i, i < n → ((aas f n).drop (32 * i)).take 32 = f i
 | 0, i, hi => by omega
 | n + 1, i, hi => by
  rw [vw]
  have hl := acj f h n
  by_cases e : i = n
  ·subst e
   rw [List.drop_append, List.drop_eq_nil_of_le (by omega), List.nil_append, hl, Nat.sub_self, List.drop_zero, List.take_of_length_le (by rw [h]; omega)]
  ·rw [List.drop_append_of_le_length (by omega), List.take_append_of_le_length (by rw [List.length_drop]; omega), ang f h n i (by omega)]
theorem bu2 (id : List Int) (q : Nat) (l : List (List Int)) (hid : In 256 id) (h16 : id.length ≤ 300) (hq : q < 4294967296) (hl : In 256 l.flatten) (hc : l.length ≤ 1000) (hb : l.flatten.length ≤ 100000) {ρ : Type} (k : List Int → Option ρ) :
    P.awj id (q : Int) l k = k (atu id q 32896 [l.flatten]) := by
 rw [P.bkl]; unfold P.anl
 have hf : [l.flatten].flatten = l.flatten := by simp
 rw [aag _ (by omega), show (4 : Int) = ((4 : Nat) : Int) from rfl, oz q 4 (by omega) (by omega), show (2 : Int) = ((2 : Nat) : Int) from rfl, show (32896 : Int) = ((32896 : Nat) : Int) from rfl, oz 32896 2 (by omega) (by omega), yg l (by omega) (by omega), amh id q 32896 [l.flatten] hid h16 (by rw [hf]; exact hl) (by simp) (by rw [hf]; omega)]
def avt (w : Nat) (id : List Int) (q : Nat) (seed : List Int) (i : Nat) : List Int := chS id q i 0 (og id q i seed) (2 ^ w - 1)
theorem ari (w : Nat) (id : List Int) (q : Nat) (seed : List Int) (i : Nat) : (avt w id q seed i).length = 32 := avr _ _ _ _ _ (uj _ _ _ _) _
theorem bd3 (w : Nat) (id : List Int) (q : Nat) (seed : List Int) (i : Nat) : In 256 (avt w id q seed i) := bet _ _ _ _ _ (acz _ _ _ _) _
def bp8 (w p : Nat) (id : List Int) (q : Nat) (seed : List Int) : List Int := atu id q 32896 [aas (avt w id q seed) p]
theorem auk (x : List Int) : [x].flatten = x := by simp
theorem blj {w p s : Nat} (h : Kind w p s) (id : List Int) (q : Nat) (seed : List Int) (hid : In 256 id) (hq : q < 4294967296) (hsd : In 256 seed) (hl : id.length = 16) (hs : seed.length = 32) {ρ : Type} (k : List Int → Int → Option ρ) :
    P.y8 (w : Int) id (q : Int) seed k = k (bp8 w p id q seed) 0 := by
 rw [P.ak7]; unfold P.afe
 obtain ⟨f1, f2, f3, f4⟩ := pw h
 have hel := acj _ (ari w id q seed)
 rw [bfr h id q seed hl hs, au (by rfl), P.ap4]
 unfold P.alh P.bza P.bxb P.b4o
 refine qo (fun i => (seed, (p : Int), (i : Int), aas (avt w id q seed) i, (w : Int), id, (q : Int), (p : Int), (s : Int), ((u7 w : Nat) : Int))) p rfl (fun i hi next hn' => ?_) (fun next => ?_) (by omega)
 ·simp only [P.agk]
  rw [vw] at hn'
  have e3 : IntKind.i64.wrap ((i : Int) + 1) = ((i + 1 : Nat) : Int) := by rw [nu (by omega) (by omega)]; omega
  have hpl : (og id q i seed).length = 32 := uj _ _ _ _
  have := ari w id q seed i
  rw [ah (by omega), bh4 h, aag _ (by omega), axd _ id q i _ _ _ seed hid (by omega) hq (by omega) hsd (by omega), show (0 : Int) = ((0 : Nat) : Int) from rfl, arv _ id q i 0 (2 ^ w - 1) _ _ _ _ hid (by omega) hq (by omega) (by omega) (ac4 id q i seed) hpl, e3]
  rw [ah (by rw [hel]; show (_ + (avt w id q seed i).length) * 1 ≤ _; rw [this]; omega)]
  exact hn'
 ·simp only [P.agk]
  have he := hel p
  rw [bg (by omega), show (32896 : Int) = ((32896 : Nat) : Int) from rfl, aqi _ id q 32896 _ _ _ _ hid (by omega) hq (by omega) (by rw [auk]; exact amq _ (bd3 w id q seed) p) (by simp) (by rw [auk]; omega)]
  rfl
theorem bbq {w p s : Nat} (h : Kind w p s) (id : List Int) (q : Nat) (seed : List Int) (hid : In 256 id) (hq : q < 4294967296) (hsd : In 256 seed) (hl : id.length = 16) (hs : seed.length = 32) {ρ : Type} (k : List Int → Int → Option ρ) :
    P.amr (w : Int) id (q : Int) seed k = k (bp8 w p id q seed) 0 := by
 rw [P.bbh]; unfold P.ah2
 obtain ⟨f1, f2, f3, f4⟩ := pw h
 have hel := acj _ (ari w id q seed)
 rw [bhz h id seed hl hs, au (by rfl), bc5 h, P.at5]
 unfold P.ao0 P.bzo P.bxi P.b36
 refine qo (fun i => ((w : Int), id, (q : Int), seed, (p : Int), (i : Int), (List.range i).map (avt w id q seed))) p rfl (fun i hi next hn' => ?_) (fun next => ?_) (by omega)
 ·simp only [P.ajx]
  rw [List.range_succ, List.map_append, List.map_singleton] at hn'
  have e3 : IntKind.i64.wrap ((i : Int) + 1) = ((i + 1 : Nat) : Int) := by rw [nu (by omega) (by omega)]; omega
  have hpl : (og id q i seed).length = 32 := uj _ _ _ _
  rw [ah (by omega), bg (by omega), bly id q i seed hid (by omega) hq (by omega) hsd (by omega), bhv h, show (0 : Int) = ((0 : Nat) : Int) from rfl, bfx id q i 0 (2 ^ w - 1) _ hid (by omega) hq (by omega) (by omega) (by omega) (ac4 id q i seed) hpl, e3,
   ah (by rw [List.length_map, List.length_range]; omega)]
  exact hn'
 ·simp only [P.ajx]
  have he := hel p
  unfold aas at he
  rw [bg (by omega), bu2 id q _ hid (by omega) hq (amq _ (bd3 w id q seed) p) (by rw [List.length_map, List.length_range]; omega) (by omega)]
  rfl
def blb (w p s : Nat) (id : List Int) (q : Nat) (c text : List Int) : List Int := bt7 w p s (atu id q 33153 [c, text])
theorem auv {w p s : Nat} (h : Kind w p s) (id : List Int) (q : Nat) (c text : List Int) : (blb w p s id q c text).length = p := bpl h _ (uj _ _ _ _)
theorem awp {w p s : Nat} (h : Kind w p s) (id : List Int) (q : Nat) (c text : List Int) (i : Nat) : ∃ d : Nat, (blb w p s id q c text).getD i 0 = (d : Int) ∧ d ≤ 2 ^ w - 1 ∧ ((blb w p s id q c text).getD i 0).toNat = d := by
 have hin : In (2 ^ w) (blb w p s id q c text) := aqr _ _ _
 obtain ⟨d, h1, h2⟩ := bgg (w := w) hin i
 exact ⟨d, h1, by omega, by omega⟩
def aj2 (w p s : Nat) (id : List Int) (q : Nat) (seed text : List Int) (i : Nat) : List Int :=
 chS id q i 0 (og id q i seed) ((blb w p s id q (og id q 65533 seed) text).getD i 0).toNat
theorem aif (w p s : Nat) (id : List Int) (q : Nat) (seed text : List Int) (i : Nat) : (aj2 w p s id q seed text i).length = 32 := avr _ _ _ _ _ (uj _ _ _ _) _
theorem bmv (w p s : Nat) (id : List Int) (q : Nat) (seed text : List Int) (i : Nat) : In 256 (aj2 w p s id q seed text i) := bet _ _ _ _ _ (acz _ _ _ _) _
def aru (w p s : Nat) (id : List Int) (q : Nat) (seed text : List Int) : List Int := (beN (u7 w) 4 ++ og id q 65533 seed) ++ aas (aj2 w p s id q seed text) p
theorem aul (w p s : Nat) (id : List Int) (q : Nat) (seed text : List Int) : (aru w p s id q seed text).length = 36 + 32 * p := by
 have hc : (og id q 65533 seed).length = 32 := uj _ _ _ _
 unfold aru
 rw [List.length_append, List.length_append, kr, hc, acj _ (aif w p s id q seed text)]
theorem br6 (w p s : Nat) (id : List Int) (q : Nat) (seed text : List Int) : In 256 (aru w p s id q seed text) :=
 ((zf _ _).app (acz _ _ _ _)).app (amq _ (bmv w p s id q seed text) p)
theorem bw9 {c text : List Int} (hc : In 256 c) (ht : In 256 text) : In 256 [c, text].flatten := by
 have e : [c, text].flatten = c ++ text := by simp
 rw [e]; exact hc.app ht
theorem bq9 (c text : List Int) : [c, text].flatten.length = c.length + text.length := by simp
theorem aw8 {w p s : Nat} (h : Kind w p s) (id : List Int) (q : Nat) (a b : Int) (cc : Int) (c text : List Int) (hid : In 256 id) (h16 : id.length = 16) (hq : q < 4294967296) (hc : In 256 c) (hcl : c.length = 32) (ht : In 256 text) (htl : text.length ≤ 300) {ρ : Type} (k : List Int → Option ρ) :
    P.jv (w : Int) id (q : Int) a b cc c text k = k (blb w p s id q c text) := by
 rw [P.ady]; unfold P.aar
 rw [show (33153 : Int) = ((33153 : Nat) : Int) from rfl, aqi _ id q 33153 _ _ _ _ hid (by omega) hq (by omega) (bw9 hc ht) (by simp) (by rw [bq9]; omega), arl h _ (acz _ _ _ _) (uj _ _ _ _)]
 rfl
theorem bip (id : List Int) (q : Nat) (c text : List Int) (hid : In 256 id) (h16 : id.length = 16) (hq : q < 4294967296) (hc : In 256 c) (hcl : c.length = 32) (ht : In 256 text) (htl : text.length ≤ 300) {ρ : Type} (k : List Int → Option ρ) :
    P.aip id (q : Int) c text k = k (atu id q 33153 [c, text]) := by
 rw [P.bcl]; unfold P.ahs
 rw [aag _ (by omega), show (4 : Int) = ((4 : Nat) : Int) from rfl, oz q 4 (by omega) (by omega), show (2 : Int) = ((2 : Nat) : Int) from rfl, show (33153 : Int) = ((33153 : Nat) : Int) from rfl, oz 33153 2 (by omega) (by omega), amh id q 33153 [c, text] hid (by omega) (bw9 hc ht) (by simp) (by rw [bq9]; omega)]
theorem btn {w p s : Nat} (h : Kind w p s) (id : List Int) (q : Nat) (seed text : List Int) (hid : In 256 id) (hq : q < 4294967296) (hsd : In 256 seed) (hl : id.length = 16) (hs : seed.length = 32) (ht : In 256 text) (htl : text.length ≤ 300) {ρ : Type} (k : List Int → Int → Option ρ) :
    P.uy (w : Int) id (q : Int) seed text k = k (aru w p s id q seed text) 0 := by
 rw [P.ap6]; unfold P.ah4
 obtain ⟨f1, f2, f3, f4⟩ := pw h
 have hel := acj _ (aif w p s id q seed text)
 have hcl : (og id q 65533 seed).length = 32 := uj _ _ _ _
 have hcd := ag4 w
 have hf : [(bsw 8 4 (u7 w)).reverse, og id q 65533 seed].flatten = beN (u7 w) 4 ++ og id q 65533 seed := by simp [beN]
 have hfl : (beN (u7 w) 4 ++ og id q 65533 seed).length = 36 := by rw [List.length_append, kr, hcl]
 have hdl := auv h id q (og id q 65533 seed) text
 rw [bfr h id q seed hl hs, au (by rfl), show (65533 : Int) = ((65533 : Nat) : Int) from rfl, axd _ id q 65533 _ _ _ seed hid (by omega) hq (by omega) hsd (by omega), aag _ (by omega), show (4 : Int) = ((4 : Nat) : Int) from rfl, gq (u7 w) 4 (by omega) (by omega),
  eu _ (by simp) (by rw [hf, hfl]; omega), hf, aw8 h id q _ _ _ _ text hid hl hq (ac4 id q 65533 seed) hcl ht htl, hdl, P.at7]
 unfold P.ap2 P.bx2 P.bvs P.b2j
 refine qo (fun i => (seed, (p : Int), (i : Int), (beN (u7 w) 4 ++ og id q 65533 seed) ++ aas (aj2 w p s id q seed text) i, (w : Int), id, (q : Int), (p : Int), (s : Int), ((u7 w : Nat) : Int), blb w p s id q (og id q 65533 seed) text)) p (by simp [aas]) (fun i hi next hn' => ?_) (fun next => ?_) (by omega)
 ·simp only [P.ajv, toNat_cast]
  rw [vw, ← List.append_assoc] at hn'
  have e3 : IntKind.i64.wrap ((i : Int) + 1) = ((i + 1 : Nat) : Int) := by rw [nu (by omega) (by omega)]; omega
  have hpl : (og id q i seed).length = 32 := uj _ _ _ _
  obtain ⟨d, d1, d2, d3⟩ := awp h id q (og id q 65533 seed) text i
  have hse : aj2 w p s id q seed text i = chS id q i 0 (og id q i seed) d := by unfold aj2; rw [d3]
  have := aif w p s id q seed text i
  rw [hse] at hn' this
  rw [ah (by omega), ah (by omega), ah (by rw [hdl]; omega), aag _ (by omega), axd _ id q i _ _ _ seed hid (by omega) hq (by omega) hsd (by omega), d1, show (0 : Int) = ((0 : Nat) : Int) from rfl, arv _ id q i 0 d _ _ _ _ hid (by omega) hq (by omega) (by omega) (ac4 id q i seed) hpl, e3]
  rw [ah (by rw [List.length_append, hfl, hel, this]; omega)]
  exact hn'
 ·simp only [P.ajv]
  rw [bg (by omega)]
  rfl
theorem bgt {w p s : Nat} (h : Kind w p s) (id : List Int) (q : Nat) (seed text : List Int) (hid : In 256 id) (hq : q < 4294967296) (hsd : In 256 seed) (hl : id.length = 16) (hs : seed.length = 32) (ht : In 256 text) (htl : text.length ≤ 300) {ρ : Type} (k : List Int → Int → Option ρ) :
    P.aur (w : Int) id (q : Int) seed text k = k (aru w p s id q seed text) 0 := by
 rw [P.bg7]; unfold P.aln
 obtain ⟨f1, f2, f3, f4⟩ := pw h
 have hel := acj _ (aif w p s id q seed text)
 have hcl : (og id q 65533 seed).length = 32 := uj _ _ _ _
 have hcd := ag4 w
 have hdl := auv h id q (og id q 65533 seed) text
 rw [bhz h id seed hl hs, au (by rfl), bc5 h, show (65533 : Int) = ((65533 : Nat) : Int) from rfl, bly id q 65533 seed hid (by omega) hq (by omega) hsd (by omega), bip id q _ text hid hl hq (ac4 id q 65533 seed) hcl ht htl,
  akz h _ (acz _ _ _ _) (uj _ _ _ _), show (4 : Int) = ((4 : Nat) : Int) from rfl, oz (u7 w) 4 (by omega) (by omega), P.ax6]
 unfold P.awg P.bzg P.bzf P.b2z
 refine qo (fun i => (id, (q : Int), seed, (i : Int), [beN (u7 w) 4, og id q 65533 seed] ++ (List.range i).map (aj2 w p s id q seed text), blb w p s id q (og id q 65533 seed) text)) p rfl (fun i hi next hn' => ?_) (fun next => ?_) (by omega)
 ·simp only [P.anc, toNat_cast]
  rw [List.range_succ, List.map_append, List.map_singleton, ← List.append_assoc] at hn'
  have e3 : IntKind.i64.wrap ((i : Int) + 1) = ((i + 1 : Nat) : Int) := by rw [nu (by omega) (by omega)]; omega
  have hpl : (og id q i seed).length = 32 := uj _ _ _ _
  obtain ⟨d, d1, d2, d3⟩ := awp h id q (og id q 65533 seed) text i
  have hse : aj2 w p s id q seed text i = chS id q i 0 (og id q i seed) d := by unfold aj2; rw [d3]
  rw [hse] at hn'
  rw [hdl, ah (by omega), ah (by omega), ah (by omega), bly id q i seed hid (by omega) hq (by omega) hsd (by omega), d1, nu (x := (d : Int)) (by omega) (by omega), show (0 : Int) = ((0 : Nat) : Int) from rfl, bfx id q i 0 d _ hid (by omega) hq (by omega) (by omega) (by omega) (ac4 id q i seed) hpl, e3,
   ah (by rw [List.length_append, List.length_map, List.length_range]; simp; omega)]
  exact hn'
 ·simp only [P.anc]
  have he := hel p
  have hf : ([beN (u7 w) 4, og id q 65533 seed] ++ (List.range p).map (aj2 w p s id q seed text)).flatten = aru w p s id q seed text := by
   unfold aru aas; simp
  rw [hdl, bg (by omega), yg _ (by rw [List.length_append, List.length_map, List.length_range]; simp; omega) (by rw [hf, aul]; omega), hf]
end Q
end

section
/- lmots: what a signature leads to. -/
namespace Q
open Go Go.Abs
set_option linter.unusedVariables false
set_option linter.unusedSimpArgs false
def adh (w p s : Nat) (id : List Int) (q : Nat) (text sig : List Int) (i : Nat) : List Int :=
 chS id q i ((blb w p s id q ((sig.take 36).drop 4) text).getD i 0).toNat ((sig.drop (36 + 32 * i)).take 32) (2 ^ w - 1 - ((blb w p s id q ((sig.take 36).drop 4) text).getD i 0).toNat)
def bhe (w p s : Nat) (id : List Int) (q : Nat) (text sig : List Int) : List Int := atu id q 32896 [aas (adh w p s id q text sig) p]
theorem arx (f : Nat → List Int) : ∀ n, (∀ i, i < n → (f i).length = 32) → (aas f n).length = 32 * n
 | 0, _ => by simp [aas]
 | n + 1, h => by rw [vw, List.length_append, arx f n (fun i hi => h i (by omega)), h n (by omega)]; omega
theorem awi (f : Nat → List Int) : ∀ n, (∀ i, i < n → In 256 (f i)) → In 256 (aas f n)
 | 0, _ => by simp [aas, In]
 | n + 1, h => by rw [vw]; exact (awi f n (fun i hi => h i (by omega))).app (h n (by omega))
theorem aoe {w p s : Nat} (id : List Int) (q : Nat) (text sig : List Int) (hsl : sig.length = 36 + 32 * p) (i : Nat) (hi : i < p) : (adh w p s id q text sig i).length = 32 := by
 unfold adh
 refine avr _ _ _ _ _ ?_ _
 rw [List.length_take, List.length_drop]; omega
theorem azs {w p s : Nat} (id : List Int) (q : Nat) (text sig : List Int) (hs : In 256 sig) (i : Nat) : In 256 (adh w p s id q text sig i) := bet _ _ _ _ _ ((hs.drop _).take _) _
theorem as2 {w p s : Nat} (h : Kind w p s) (id : List Int) (q : Nat) (text sig : List Int) (hid : In 256 id) (hq : q < 4294967296) (hl : id.length = 16) (ht : In 256 text) (htl : text.length ≤ 300) (hs : In 256 sig) (hsl : sig.length = 36 + 32 * p) (hcode : T 8 (sig.take 4).reverse = u7 w) {ρ : Type} (k : List Int → Int → Option ρ) :
    P.ko (w : Int) id (q : Int) text sig k = k (bhe w p s id q text sig) 0 := by
 rw [P.ag7]; unfold P.acs
 obtain ⟨f1, f2, f3, f4⟩ := pw h
 have hcd := ag4 w
 have hcl : ((sig.take 36).drop 4).length = 32 := by rw [List.length_drop, List.length_take]; omega
 have hdl := auv h id q ((sig.take 36).drop 4) text
 have hce := fun i (hi : i ≤ p) => arx (adh w p s id q text sig) i (fun j hj => aoe id q text sig hsl j (by omega))
 simp only [show (4 : Int).toNat = 4 from rfl, show (36 : Int).toNat = 36 from rfl, show (32 : Int).toNat = 32 from rfl, List.drop_zero, toNat_cast]
 have hnum : ((T 8 (sig.take 4).reverse % 2 ^ 64 : Nat) : Int) = ((u7 w : Nat) : Int) := by rw [hcode]; omega
 rw [bjd h id q hl, au (by rfl), jk h, au (by rw [hsl]), ah (by omega), jh _ (hs.take 4) (by rw [List.length_take]; omega), hnum, aag _ (by omega), au (by rfl), ah (by omega), ah (by omega), ah (by omega),
  aw8 h id q _ _ _ _ text hid hl hq ((hs.take 36).drop 4) hcl ht htl, hdl, List.take_of_length_le (show sig.length ≤ sig.length by omega), P.ale]
 unfold P.ahi P.bya P.bu3 P.b08
 refine qo (fun i => (sig.drop (36 + 32 * i), (p : Int), (i : Int), aas (adh w p s id q text sig) i, (w : Int), id, (q : Int), (p : Int), (s : Int), ((u7 w : Nat) : Int), blb w p s id q ((sig.take 36).drop 4) text)) p rfl (fun i hi next hn' => ?_) (fun next => ?_) (by omega)
 ·simp only [P.adi, toNat_cast, show (32 : Int).toNat = 32 from rfl, List.drop_zero]
  rw [vw] at hn'
  have e3 : IntKind.i64.wrap ((i : Int) + 1) = ((i + 1 : Nat) : Int) := by rw [nu (by omega) (by omega)]; omega
  obtain ⟨d, d1, d2, d3⟩ := awp h id q ((sig.take 36).drop 4) text i
  have hse : adh w p s id q text sig i = chS id q i d ((sig.drop (36 + 32 * i)).take 32) (2 ^ w - 1 - d) := by unfold adh; rw [d3]
  have hrl : (sig.drop (36 + 32 * i)).length = 32 * (p - i) := by rw [List.length_drop]; omega
  have htk : ((sig.drop (36 + 32 * i)).take 32).length = 32 := by rw [List.length_take]; omega
  have hcl2 := aoe (w := w) (s := s) id q text sig hsl i hi
  rw [hse] at hn' hcl2
  rw [ah (by omega), ah (by omega), ah (by rw [hdl]; omega), bh4 h, ah (by omega), d1, show ((2 ^ w - 1 : Nat) : Int) - (d : Int) = ((2 ^ w - 1 - d : Nat) : Int) by omega, bcw _ (by omega),
   arv _ id q i d (2 ^ w - 1 - d) _ _ _ _ hid (by omega) hq (by omega) (by omega) ((hs.drop _).take _) htk, e3]
  rw [ah (by rw [hce i (by omega), hcl2]; omega), ah (by omega), ah (by omega), List.take_of_length_le (Nat.le_refl _), List.drop_drop, show 36 + 32 * i + 32 = 36 + 32 * (i + 1) by omega]
  exact hn'
 ·simp only [P.adi]
  have he := hce p (Nat.le_refl _)
  rw [bg (by omega), show (32896 : Int) = ((32896 : Nat) : Int) from rfl, aqi _ id q 32896 _ _ _ _ hid (by omega) hq (by omega) (by rw [auk]; exact awi _ p (fun i _ => azs id q text sig hs i)) (by simp) (by rw [auk]; omega)]
  rfl
theorem aj8 {w p s : Nat} (h : Kind w p s) (id : List Int) (q : Nat) (text sig : List Int) (hid : In 256 id) (hq : q < 4294967296) (hl : id.length = 16) (ht : In 256 text) (htl : text.length ≤ 300) (hs : In 256 sig) (hsl : sig.length = 36 + 32 * p) (hcode : T 8 (sig.take 4).reverse = u7 w) {ρ : Type} (k : List Int → Int → Option ρ) :
    P.afx (w : Int) id (q : Int) text sig k = k (bhe w p s id q text sig) 0 := by
 rw [P.aud]; unfold P.aeb
 obtain ⟨f1, f2, f3, f4⟩ := pw h
 have hcd := ag4 w
 have hcl : ((sig.take 36).drop 4).length = 32 := by rw [List.length_drop, List.length_take]; omega
 have hdl := auv h id q ((sig.take 36).drop 4) text
 simp only [show (4 : Int).toNat = 4 from rfl, show (36 : Int).toNat = 36 from rfl, List.drop_zero]
 have hnum : ((T 8 (sig.take 4).reverse % 2 ^ 64 : Nat) : Int) = ((u7 w : Nat) : Int) := by rw [hcode]; omega
 rw [bc5 h, aus h, vo, au (by rw [hl]; rfl), aa8 h, au (by rw [hsl]), ah (by omega), acf _ (hs.take 4) (by rw [List.length_take]; omega), hnum, au (by rfl), ah (by omega),
  bip id q _ text hid hl hq ((hs.take 36).drop 4) hcl ht htl, akz h _ (acz _ _ _ _) (uj _ _ _ _), P.amx]
 unfold P.aiw P.byv P.by5 P.b26
 refine qo (fun i => ((w : Int), id, (q : Int), sig, (p : Int), (i : Int), (List.range i).map (adh w p s id q text sig), blb w p s id q ((sig.take 36).drop 4) text)) p rfl (fun i hi next hn' => ?_) (fun next => ?_) (by omega)
 ·simp only [P.aed]
  rw [List.range_succ, List.map_append, List.map_singleton] at hn'
  have e3 : IntKind.i64.wrap ((i : Int) + 1) = ((i + 1 : Nat) : Int) := by rw [nu (by omega) (by omega)]; omega
  have e36 : IntKind.i64.wrap ((36 : Int) + IntKind.i64.wrap ((32 : Int) * (i : Int))) = ((36 + 32 * i : Nat) : Int) := by rw [nu (x := (32 : Int) * (i : Int)) (by omega) (by omega), nu (by omega) (by omega)]; omega
  have e68 : IntKind.i64.wrap ((68 : Int) + IntKind.i64.wrap ((32 : Int) * (i : Int))) = ((68 + 32 * i : Nat) : Int) := by rw [nu (x := (32 : Int) * (i : Int)) (by omega) (by omega), nu (by omega) (by omega)]; omega
  obtain ⟨d, d1, d2, d3⟩ := awp h id q ((sig.take 36).drop 4) text i
  have hse : adh w p s id q text sig i = chS id q i d ((sig.drop (36 + 32 * i)).take 32) (2 ^ w - 1 - d) := by unfold adh; rw [d3]
  have htk : ((sig.drop (36 + 32 * i)).take 32).length = 32 := by rw [List.length_take, List.length_drop]; omega
  have hdt : (sig.take (68 + 32 * i)).drop (36 + 32 * i) = (sig.drop (36 + 32 * i)).take 32 := by
   rw [List.drop_take, show 68 + 32 * i - (36 + 32 * i) = 32 by omega]
  rw [hse] at hn'
  rw [e36, e68, e3, bhv h]
  simp only [toNat_cast]
  rw [hdt, ah (by omega), ah (by omega), ah (by rw [hdl]; omega), bg (by omega), ah (by omega), ah (by omega), ah (by omega), d1, nu (x := (d : Int)) (by omega) (by omega), bfx id q i d (2 ^ w - 1) _ hid (by omega) hq (by omega) (by omega) (by omega) ((hs.drop _).take _) htk,
   ah (by rw [List.length_map, List.length_range]; omega)]
  exact hn'
 ·simp only [P.aed]
  have he := arx (adh w p s id q text sig) p (fun j hj => aoe id q text sig hsl j (by omega))
  have hin := awi (adh w p s id q text sig) p (fun i _ => azs id q text sig hs i)
  unfold aas at he hin
  rw [bg (by omega), bu2 id q _ hid (by omega) hq hin (by rw [List.length_map, List.length_range]; omega) (by omega)]
  rfl
theorem bql {w p s : Nat} (h : Kind w p s) (id : List Int) (q : Nat) (seed text : List Int) : bhe w p s id q text (aru w p s id q seed text) = bp8 w p id q seed := by
 have hcl := ai7 id q 65533 seed
 have hc : ((aru w p s id q seed text).take 36).drop 4 = og id q 65533 seed := by
  unfold aru
  rw [List.take_append_of_le_length (by rw [List.length_append, kr, hcl]; omega), List.take_of_length_le (by rw [List.length_append, kr, hcl]; omega), List.drop_append, List.drop_eq_nil_of_le (by rw [kr]; omega), List.nil_append, kr, Nat.sub_self, List.drop_zero]
 unfold bhe bp8
 congr 2
 refine avz _ _ p (fun i hi => ?_)
 have hp : ((aru w p s id q seed text).drop (36 + 32 * i)).take 32 = aj2 w p s id q seed text i := by
  unfold aru
  rw [List.drop_append, List.drop_eq_nil_of_le (by rw [List.length_append, kr, hcl]; omega), List.nil_append, List.length_append, kr, hcl, show 36 + 32 * i - (4 + 32) = 32 * i by omega]
  exact ang _ (aif w p s id q seed text) p i hi
 obtain ⟨d, d1, d2, d3⟩ := awp h id q (og id q 65533 seed) text i
 unfold adh avt
 rw [hc, hp, d3]
 unfold aj2
 rw [d3]
 have := bms id q i 0 (og id q i seed) d (2 ^ w - 1 - d)
 rw [Nat.zero_add] at this
 rw [← this, show d + (2 ^ w - 1 - d) = 2 ^ w - 1 by omega]
end Q
end

section
/- lms: kinds of trees. -/
namespace Q
open Go Go.Abs
set_option linter.unusedVariables false
set_option linter.unusedSimpArgs false
def o7 (h : Nat) : Nat := if 1 ≤ h ∧ h ≤ 4 then 3758096384 + h else if 5 ≤ h ∧ h ≤ 25 ∧ h % 5 = 0 then 4 + h / 5 else 0
def hOf (c : Nat) : Nat := if 3758096384 < c ∧ c ≤ 3758096388 then c - 3758096384 else if 5 ≤ c ∧ c ≤ 9 then 5 * (c - 4) else 0
def wOf (c : Nat) : Nat := if c = 1 then 1 else if c = 2 then 2 else if c = 3 then 4 else if c = 4 then 8 else 0
theorem avk (h : Nat) (h0 : o7 h ≠ 0) : hOf (o7 h) = h := by
 unfold o7 at h0 ⊢
 split
 ·rename_i hc
  unfold hOf
  rw [if_pos (by omega)]
  omega
 ·split
  ·rename_i hc
   unfold hOf
   rw [if_neg (by omega), if_pos (by omega)]
   omega
  ·rename_i h1 h2
   rw [if_neg h1, if_neg h2] at h0
   exact absurd rfl h0
theorem aov (c : Nat) (h0 : hOf c ≠ 0) : o7 (hOf c) = c ∧ 1 ≤ hOf c ∧ hOf c ≤ 25 := by
 unfold hOf at h0 ⊢
 split
 ·rename_i hc
  refine ⟨?_, by omega, by omega⟩
  unfold o7
  rw [if_pos (by omega)]
  omega
 ·split
  ·rename_i h1 h2
   refine ⟨?_, by omega, by omega⟩
   unfold o7
   rw [if_neg (by omega), if_pos (by omega)]
   omega
  ·rename_i h1 h2
   rw [if_neg h1, if_neg h2] at h0
   exact absurd rfl h0
theorem amc (h : Nat) : o7 h < 4294967296 := by
 unfold o7; split
 ·omega
 ·split <;> omega
theorem mg (c : Nat) (hc : c < 18446744073709551616) {ρ : Type} (k : Int → Option ρ) : P.mg (c : Int) k = k ((hOf c : Nat) : Int) := by
 rw [P.ao3]; unfold P.ah5
 have rest : br (decide ((c : Int) ≥ (5 : Int))) (br (decide ((c : Int) ≤ (9 : Int))) (k (IntKind.i64.wrap ((5 : Int) * IntKind.i64.wrap (IntKind.u64.wrap ((c : Int) - (4 : Int)))))) (k (0 : Int))) (k (0 : Int)) = k (((if 5 ≤ c ∧ c ≤ 9 then 5 * (c - 4) else 0) : Nat) : Int) := by
  by_cases h5 : 5 ≤ c
  ·rw [ah (by omega)]
   by_cases h9 : c ≤ 9
   ·rw [ah (by omega), if_pos ⟨h5, h9⟩, show (c : Int) - 4 = ((c - 4 : Nat) : Int) by omega, aag _ (by omega), nu (x := ((c - 4 : Nat) : Int)) (by omega) (by omega), nu (by omega) (by omega)]
    congr 1
   ·rw [bg (by omega), if_neg (by omega)]; rfl
  ·rw [bg (by omega), if_neg (by omega)]; rfl
 unfold hOf
 by_cases h1 : 3758096384 < c
 ·rw [ah (by omega)]
  by_cases h2 : c ≤ 3758096388
  ·rw [ah (by omega), if_pos ⟨h1, h2⟩, show (c : Int) - 3758096384 = ((c - 3758096384 : Nat) : Int) by omega, aag _ (by omega), nu (by omega) (by omega)]
  ·rw [bg (by omega), if_neg (by omega)]
   exact rest
 ·rw [bg (by omega), if_neg (by omega)]
  exact rest
theorem aan (h : Nat) (hh : h ≤ 100) {ρ : Type} (k : Int → Option ρ) : P.aan (h : Int) k = k ((o7 h : Nat) : Int) := by
 rw [P.av7]; unfold P.ag2
 have rest : br (decide ((h : Int) ≥ (5 : Int))) (br (decide ((h : Int) ≤ (25 : Int))) (br ((h : Int).tmod (5 : Int) == (0 : Int)) (k (IntKind.u64.wrap (IntKind.i64.wrap ((4 : Int) + IntKind.i64.wrap ((h : Int).tdiv (5 : Int)))))) (k (0 : Int))) (k (0 : Int))) (k (0 : Int)) =
     k (((if 5 ≤ h ∧ h ≤ 25 ∧ h % 5 = 0 then 4 + h / 5 else 0) : Nat) : Int) := by
  by_cases h5 : 5 ≤ h
  ·rw [ah (by omega)]
   by_cases h9 : h ≤ 25
   ·rw [ah (by omega), show (5 : Int) = ((5 : Nat) : Int) from rfl, tmN]
    by_cases hm : h % 5 = 0
    ·rw [bq (by omega), if_pos ⟨h5, h9, hm⟩, Int.tdiv_eq_ediv_of_nonneg (by omega), show (h : Int) / ((5 : Nat) : Int) = ((h / 5 : Nat) : Int) by omega, nu (x := ((h / 5 : Nat) : Int)) (by omega) (by omega), nu (by omega) (by omega), show (4 : Int) + ((h / 5 : Nat) : Int) = ((4 + h / 5 : Nat) : Int) by omega, aag _ (by omega)]
    ·rw [ak (by omega), if_neg (by omega)]; rfl
   ·rw [bg (by omega), if_neg (by omega)]; rfl
  ·rw [bg (by omega), if_neg (by omega)]; rfl
 unfold o7
 by_cases h1 : 1 ≤ h
 ·rw [ah (by omega)]
  by_cases h2 : h ≤ 4
  ·rw [ah (by omega), if_pos ⟨h1, h2⟩, aag _ (by omega), show (3758096384 : Int) + (h : Int) = ((3758096384 + h : Nat) : Int) by omega, aag _ (by omega)]
  ·rw [bg (by omega), if_neg (by omega)]
   exact rest
 ·rw [bg (by omega), if_neg (by omega)]
  exact rest
theorem uq (c : Nat) (hc : c < 18446744073709551616) {ρ : Type} (k : Int → Option ρ) : P.uq (c : Int) k = k ((hOf c : Nat) : Int) := by
 rw [P.bal]; unfold P.ahx
 rw [P.ato]
 unfold P.aqu P.byk P.bxr
 by_cases h0 : hOf c = 0
 ·refine qo (fun i => ((c : Int), ((i + 1 : Nat) : Int))) 25 rfl (fun i hi next hn => ?_) (fun next => ?_) (by omega)
  ·simp only [P.ade]
   rw [ah (by omega), aan _ (by omega)]
   have key : ¬ (o7 (i + 1) = c ∧ c ≠ 0) := by
    rintro ⟨h1, h2⟩
    have := avk (i + 1) (by omega)
    rw [h1] at this
    omega
   rw [nu (x := ((i + 1 : Nat) : Int) + 1) (by omega) (by omega), show ((i + 1 : Nat) : Int) + 1 = ((i + 1 + 1 : Nat) : Int) by omega]
   by_cases h1 : o7 (i + 1) = c
   ·rw [bq (by omega), au (by omega)]; exact hn
   ·rw [ak (by omega)]; exact hn
  ·simp only [P.ade]
   rw [bg (by omega), h0]
   rfl
 ·obtain ⟨g1, g2, g3⟩ := aov c h0
  refine qo (fun i => ((c : Int), ((i + 1 : Nat) : Int))) (hOf c - 1) rfl (fun i hi next hn => ?_) (fun next => ?_) (by omega)
  ·simp only [P.ade]
   rw [ah (by omega), aan _ (by omega)]
   have key : o7 (i + 1) ≠ c := by
    intro h1
    have h2 : o7 (i + 1) ≠ 0 := by
     intro h3
     have : c = 0 := by omega
     subst this
     exact h0 rfl
    have := avk (i + 1) h2
    rw [h1] at this
    omega
   rw [ak (by omega), nu (x := ((i + 1 : Nat) : Int) + 1) (by omega) (by omega), show ((i + 1 : Nat) : Int) + 1 = ((i + 1 + 1 : Nat) : Int) by omega]
   exact hn
  ·simp only [P.ade]
   have hc0 : c ≠ 0 := by
    rintro rfl
    exact h0 rfl
   rw [show hOf c - 1 + 1 = hOf c by omega, ah (by omega), aan _ (by omega), g1, bq rfl, d9 (by omega)]
   rfl
theorem p8 (c : Nat) (hc : c < 18446744073709551616) {ρ : Type} (k : Int → Option ρ) : P.p8 (c : Int) k = k ((wOf c : Nat) : Int) := by
 rw [P.asl]; unfold P.ai0
 by_cases h1 : c < 1
 ·rw [ah (by omega)]
  have : c = 0 := by omega
  subst this
  rfl
 ·rw [bg (by omega)]
  by_cases h4 : c > 4
  ·rw [ah (by omega)]
   unfold wOf
   rw [if_neg (by omega), if_neg (by omega), if_neg (by omega), if_neg (by omega)]
   rfl
  ·have : c = 1 ∨ c = 2 ∨ c = 3 ∨ c = 4 := by omega
   rw [bg (by omega)]
   rcases this with rfl | rfl | rfl | rfl <;> rw [bg (by decide)] <;> rfl
theorem y5 (c : Nat) (hc : c < 18446744073709551616) {ρ : Type} (k : Int → Option ρ) : P.y5 (c : Int) k = k ((wOf c : Nat) : Int) := by
 rw [P.bdq]; unfold P.ai1
 rw [P.axx]
 unfold P.ata P.byw P.byb
 have kd : ∀ (j : Nat) {σ : Type} (k : Int → Int → Int → Option σ), ∃ a b : Int, P.y9 (j : Int) k = k a b (((if j = 1 then 1 else if j = 2 then 2 else if j = 4 then 3 else if j = 8 then 4 else 0) : Nat) : Int) := by
  intro j σ k
  rw [P.ac0]; unfold P.ag0
  by_cases a1 : j = 1
  ·subst a1; exact ⟨_, _, by rw [bq (by decide)]; rfl⟩
  ·by_cases a2 : j = 2
   ·subst a2; exact ⟨_, _, by rw [ak (by omega), bq (by decide)]; rfl⟩
   ·by_cases a4 : j = 4
    ·subst a4; exact ⟨_, _, by rw [ak (by omega), ak (by omega), bq (by decide)]; rfl⟩
    ·by_cases a8 : j = 8
     ·subst a8; exact ⟨_, _, by rw [ak (by omega), ak (by omega), ak (by omega), bq (by decide)]; rfl⟩
     ·exact ⟨_, _, by rw [ak (by omega), ak (by omega), ak (by omega), ak (by omega), if_neg a1, if_neg a2, if_neg a4, if_neg a8]; rfl⟩
 have step : ∀ (i : Nat), i < 8 → wOf c ≠ i + 1 → ∀ (nx : Int → Int → Option ρ) (k0 : Int → Int → Option ρ) (k1 : Int → Option ρ), P.ae0 (c : Int) ((i + 1 : Nat) : Int) nx k0 k1 = nx (c : Int) ((i + 1 + 1 : Nat) : Int) := by
  intro i hi hne nx k0 k1
  unfold P.ae0
  obtain ⟨a, b, hk⟩ := kd (i + 1) (fun (q0 q1 q2 : Int) => br (q2 == (c : Int)) (br (q2 != (0 : Int)) (k1 ((i + 1 : Nat) : Int)) (nx (c : Int) (IntKind.i64.wrap (((i + 1 : Nat) : Int) + (1 : Int))))) (nx (c : Int) (IntKind.i64.wrap (((i + 1 : Nat) : Int) + (1 : Int)))))
  rw [ah (by omega), hk, nu (x := ((i + 1 : Nat) : Int) + 1) (by omega) (by omega), show ((i + 1 : Nat) : Int) + 1 = ((i + 1 + 1 : Nat) : Int) by omega]
  generalize hm : (if i + 1 = 1 then 1 else if i + 1 = 2 then 2 else if i + 1 = 4 then 3 else if i + 1 = 8 then 4 else 0 : Nat) = m
  by_cases hc1 : m = c
  ·rw [bq (by omega)]
   by_cases hm0 : m = 0
   ·rw [au (by omega)]
   ·exfalso
    apply hne
    subst hc1
    subst hm
    unfold wOf
    have : i = 0 ∨ i = 1 ∨ i = 2 ∨ i = 3 ∨ i = 4 ∨ i = 5 ∨ i = 6 ∨ i = 7 := by omega
    rcases this with rfl | rfl | rfl | rfl | rfl | rfl | rfl | rfl <;> first | rfl | exact absurd rfl hm0
  ·rw [ak (by omega)]
 by_cases h0 : wOf c = 0
 ·refine qo (fun i => ((c : Int), ((i + 1 : Nat) : Int))) 8 rfl (fun i hi next hn => ?_) (fun next => ?_) (by omega)
  ·exact (step i hi (by omega) _ _ _).trans hn
  ·simp only [P.ae0]
   rw [bg (by omega), h0]
   rfl
 ·have hw : (c = 1 ∧ wOf c = 1) ∨ (c = 2 ∧ wOf c = 2) ∨ (c = 3 ∧ wOf c = 4) ∨ (c = 4 ∧ wOf c = 8) := by
    revert h0
    unfold wOf
    split
    ·omega
    ·split
     ·omega
     ·split
      ·omega
      ·split <;> omega
  refine qo (fun i => ((c : Int), ((i + 1 : Nat) : Int))) (wOf c - 1) rfl (fun i hi next hn => ?_) (fun next => ?_) (by omega)
  ·exact (step i (by omega) (by omega) _ _ _).trans hn
  ·simp only [P.ae0]
   rw [show wOf c - 1 + 1 = wOf c by omega, ah (by omega)]
   obtain ⟨a, b, hk⟩ := kd (wOf c) (fun (q0 q1 q2 : Int) => br (q2 == (c : Int)) (br (q2 != (0 : Int)) (Sum.elim (fun (x : Int × Int) => k 0) (fun (x : Int) => k x) (.inr ((wOf c : Nat) : Int))) (next ((c : Int), IntKind.i64.wrap (((wOf c : Nat) : Int) + (1 : Int))))) (next ((c : Int), IntKind.i64.wrap (((wOf c : Nat) : Int) + (1 : Int)))))
   refine Eq.trans hk ?_
   rcases hw with ⟨rfl, h⟩ | ⟨rfl, h⟩ | ⟨rfl, h⟩ | ⟨rfl, h⟩ <;> rw [h, bq (by decide), d9 (by decide)] <;> rfl
end Q
end

section
/- lms: sums on the way up. -/
namespace Q
open Go Go.Abs
set_option linter.unusedVariables false
set_option linter.unusedSimpArgs false
theorem ug (id : List Int) (n mk : Nat) (l : List (List Int)) (hid : In 256 id) (h16 : id.length ≤ 300) (hn : n < 18446744073709551616) (hm : mk < 18446744073709551616) (hl : In 256 l.flatten) (hc : l.length ≤ 1000000) (hb : l.flatten.length ≤ 900000) {ρ : Type} (k : List Int → Option ρ) :
    P.ug id (n : Int) (mk : Int) l k = k (atu id n mk l) := by
 rw [P.az8]; unfold P.an6
 have hw := bb4 1
 have hf : [id, (bsw 8 4 n).reverse, (bsw 8 2 mk).reverse].flatten = id ++ (beN n 4 ++ beN mk 2) := by simp [beN]
 have hlen : (id ++ (beN n 4 ++ beN mk 2)).length = id.length + 6 := by simp [kr]
 have hin : In 256 (id ++ (beN n 4 ++ beN mk 2)) := hid.app ((zf _ _).app (zf _ _))
 have hr := aha 64 (by omega) (id ++ (beN n 4 ++ beN mk 2))
 have hr2 := aha 64 (by omega) (rest 64 (id ++ (beN n 4 ++ beN mk 2)) ++ l.flatten)
 have hlt := Nat.mod_lt (rest 64 (id ++ (beN n 4 ++ beN mk 2)) ++ l.flatten).length (show 0 < 64 by omega)
 rw [aao (.inl rfl), show (4 : Int) = ((4 : Nat) : Int) from rfl, gq n 4 hn (by omega), show (2 : Int) = ((2 : Nat) : Int) from rfl, gq mk 2 hm (by omega), eu _ (by simp) (by rw [hf]; omega), hf,
  uw 1 _ [] _ _ hw.1 hw.2.1 In.nil hin (by rw [hlen, List.length_nil]; omega), List.nil_append, aun _ (by omega), show bsz 1 = 64 from rfl, eu l (by omega) (by omega),
  uw 1 _ _ _ _ (amg _ _ _) (ai9 _ _ _).2.1 (aks hin) hl (by omega), show bsz 1 = 64 from rfl, bim _ _ (by omega), aaq 1 _ _ _ (amg _ _ _) (ai9 _ _ _).2.1 (aks ((aks hin).app hl)) (by rw [hr2]; exact hlt),
  bng _ _ _ (by simp only [List.length_append])]
 rfl
theorem aak (id : List Int) (n : Nat) (x : List Int) (hid : In 256 id) (h16 : id.length ≤ 300) (hn : n < 18446744073709551616) (hx : In 256 x) (hxl : x.length ≤ 1000) {ρ : Type} (k : List Int → Option ρ) : P.aak id (n : Int) x k = k (atu id n 33410 [x]) := by
 rw [P.ayn]; unfold P.agh
 rw [show (4 : Int) = ((4 : Nat) : Int) from rfl, oz n 4 hn (by omega), show (2 : Int) = ((2 : Nat) : Int) from rfl, show (33410 : Int) = ((33410 : Nat) : Int) from rfl, oz 33410 2 (by omega) (by omega), amh id n 33410 [x] hid h16 (by simpa using hx) (by simp) (by simp; omega)]
theorem aes (id : List Int) (n : Nat) (x y : List Int) (hid : In 256 id) (h16 : id.length ≤ 300) (hn : n < 18446744073709551616) (hx : In 256 x) (hxl : x.length ≤ 1000) (hy : In 256 y) (hyl : y.length ≤ 1000) {ρ : Type} (k : List Int → Option ρ) : P.aes id (n : Int) x y k = k (atu id n 33667 [x, y]) := by
 rw [P.bhp]; unfold P.ako
 rw [show (4 : Int) = ((4 : Nat) : Int) from rfl, oz n 4 hn (by omega), show (2 : Int) = ((2 : Nat) : Int) from rfl, show (33667 : Int) = ((33667 : Nat) : Int) from rfl, oz 33667 2 (by omega) (by omega), amh id n 33667 [x, y] hid h16 (by simpa using hx.app hy) (by simp) (by simp; omega)]
def ax9 (id : List Int) (n : Nat) (path c : List Int) : Nat → List Int
 | 0 => c
 | i + 1 => if n / 2 ^ i % 2 = 1 then atu id (n / 2 ^ i / 2) 33667 [(path.drop (32 * i)).take 32, ax9 id n path c i] else atu id (n / 2 ^ i / 2) 33667 [ax9 id n path c i, (path.drop (32 * i)).take 32]
theorem bbl (id : List Int) (n : Nat) (path c : List Int) (hc : c.length = 32) (i : Nat) : (ax9 id n path c i).length = 32 := by
 cases i with
 | zero => exact hc
 | succ i => unfold ax9; split <;> exact uj _ _ _ _
theorem bfy (id : List Int) (n : Nat) (path c : List Int) (hc : In 256 c) (i : Nat) : In 256 (ax9 id n path c i) := by
 cases i with
 | zero => exact hc
 | succ i => unfold ax9; split <;> exact acz _ _ _ _
theorem biw {n h i : Nat} (h1 : 2 ^ h ≤ n) (h2 : n < 2 ^ (h + 1)) (hi : i < h) : n / 2 ^ i > 1 := by
 have e : 2 ^ h = 2 ^ (h - i) * 2 ^ i := by rw [← Nat.pow_add]; congr 1; omega
 have e2 : 2 ≤ 2 ^ (h - i) := by
  have : 2 ^ 1 ≤ 2 ^ (h - i) := Nat.pow_le_pow_right (by omega) (by omega)
  omega
 have : 2 ^ (h - i) ≤ n / 2 ^ i := (Nat.le_div_iff_mul_le (Nat.two_pow_pos i)).2 (by omega)
 omega
theorem axa {n h : Nat} (h1 : 2 ^ h ≤ n) (h2 : n < 2 ^ (h + 1)) : n / 2 ^ h = 1 := by
 rw [Nat.pow_succ] at h2
 have := (Nat.le_div_iff_mul_le (Nat.two_pow_pos h)).2 (show 1 * 2 ^ h ≤ n by omega)
 have := (Nat.div_lt_iff_lt_mul (Nat.two_pow_pos h)).2 (show n < 2 * 2 ^ h by omega)
 omega
theorem half (m : Nat) (hm : m < 18446744073709551616) : IntKind.u64.wrap (((m : Nat) : Int).tdiv 2) = ((m / 2 : Nat) : Int) := by
 rw [Int.tdiv_eq_ediv_of_nonneg (by omega), show (m : Int) / 2 = ((m / 2 : Nat) : Int) by omega, aag _ (by omega)]
theorem be4 (id h4 c path : List Int) (n h : Nat) (hid : In 256 id) (h16 : id.length ≤ 300) (hc : In 256 c) (hcl : c.length = 32) (hp : In 256 path) (hpl : path.length = 32 * h) (hh : h ≤ 60) (h1 : 2 ^ h ≤ n) (h2 : n < 2 ^ (h + 1)) (hn : n < 18446744073709551616)
    {ρ : Type} (k0 : Int → List Int → List Int → List Int → List Int → Option ρ) : P.ajk (n : Int) id h4 c path k0 = k0 1 id h4 (ax9 id n path c h) [] := by
 rw [P.atp]
 unfold P.apn P.bxt P.bxc P.b1a
 refine qo (fun i => (((n / 2 ^ i : Nat) : Int), id, h4, ax9 id n path c i, path.drop (32 * i))) h (by simp [ax9]) (fun i hi next hn' => ?_) (fun next => ?_) (by omega)
 ·simp only [P.ai6]
  have hw := biw h1 h2 hi
  have hlt : n / 2 ^ i < 18446744073709551616 := Nat.lt_of_le_of_lt (Nat.div_le_self _ _) hn
  have hpl' : (path.drop (32 * i)).length = 32 * h - 32 * i := by rw [List.length_drop, hpl]
  have hnx : n / 2 ^ (i + 1) = n / 2 ^ i / 2 := by rw [Nat.pow_succ, Nat.div_div_eq_div_mul]
  have hdr : (path.drop (32 * i)).drop 32 = path.drop (32 * (i + 1)) := by rw [List.drop_drop]; congr 1
  have e32 : Int.toNat (32 : Int) = 32 := rfl
  have hx : In 256 ((path.drop (32 * i)).take 32) := (hp.drop _).take _
  have hxl : ((path.drop (32 * i)).take 32).length ≤ 32 := by rw [List.length_take]; omega
  have hcu := bfy id n path c hc i
  have hcul := bbl id n path c hcl i
  rw [ah (by omega), ah (by omega), show (2 : Int) = ((2 : Nat) : Int) from rfl, tmN, show ((2 : Nat) : Int) = 2 from rfl, half _ hlt, e32, List.drop_zero, toNat_cast, List.take_length, hdr]
  by_cases hm : n / 2 ^ i % 2 = 1
  ·rw [bq (by omega), show (33667 : Int) = ((33667 : Nat) : Int) from rfl, ug id _ 33667 _ hid h16 (by omega) (by omega) (by simpa using hx.app hcu) (by simp) (by simp; omega), ah (by omega), ah (by omega)]
   refine Eq.trans ?_ hn'
   simp only [ax9, if_pos hm, hnx]
  ·rw [ak (by omega), show (33667 : Int) = ((33667 : Nat) : Int) from rfl, ug id _ 33667 _ hid h16 (by omega) (by omega) (by simpa using hcu.app hx) (by simp) (by simp; omega), ah (by omega), ah (by omega)]
   refine Eq.trans ?_ hn'
   simp only [ax9, if_neg hm, hnx]
 ·simp only [P.ai6]
  rw [axa h1 h2, bg (by omega), List.drop_eq_nil_of_le (by omega)]
  rfl
theorem bi7 (v0 id c path : List Int) (n h : Nat) (hid : In 256 id) (h16 : id.length ≤ 300) (hc : In 256 c) (hcl : c.length = 32) (hp : In 256 path) (hpl : path.length = 32 * h) (hh : h ≤ 60) (h1 : 2 ^ h ≤ n) (h2 : n < 2 ^ (h + 1)) (hn : n < 18446744073709551616)
    {ρ : Type} (k0 : List Int → List Int → Int → List Int → List Int → Option ρ) : P.aho v0 id (n : Int) c path k0 = k0 v0 id 1 (ax9 id n path c h) [] := by
 rw [P.aq9]
 unfold P.am8 P.byx P.bzt P.b27
 refine qo (fun i => (v0, id, ((n / 2 ^ i : Nat) : Int), ax9 id n path c i, path.drop (32 * i))) h (by simp [ax9]) (fun i hi next hn' => ?_) (fun next => ?_) (by omega)
 ·simp only [P.ahz]
  have hw := biw h1 h2 hi
  have hlt : n / 2 ^ i < 18446744073709551616 := Nat.lt_of_le_of_lt (Nat.div_le_self _ _) hn
  have hpl' : (path.drop (32 * i)).length = 32 * h - 32 * i := by rw [List.length_drop, hpl]
  have hnx : n / 2 ^ (i + 1) = n / 2 ^ i / 2 := by rw [Nat.pow_succ, Nat.div_div_eq_div_mul]
  have hdr : (path.drop (32 * i)).drop 32 = path.drop (32 * (i + 1)) := by rw [List.drop_drop]; congr 1
  have e32 : Int.toNat (32 : Int) = 32 := rfl
  have hx : In 256 ((path.drop (32 * i)).take 32) := (hp.drop _).take _
  have hxl : ((path.drop (32 * i)).take 32).length ≤ 32 := by rw [List.length_take]; omega
  have hcu := bfy id n path c hc i
  have hcul := bbl id n path c hcl i
  rw [ah (by omega), show (2 : Int) = ((2 : Nat) : Int) from rfl, tmN, show ((2 : Nat) : Int) = 2 from rfl, half _ hlt, e32, List.drop_zero, toNat_cast, List.take_length, hdr]
  by_cases hm : n / 2 ^ i % 2 = 1
  ·rw [ak (by omega), ah (by omega), aes id _ _ _ hid h16 (by omega) hx (by omega) hcu (by omega), ah (by omega), ah (by omega)]
   refine Eq.trans ?_ hn'
   simp only [ax9, if_pos hm, hnx]
  ·rw [bq (by omega), ah (by omega), aes id _ _ _ hid h16 (by omega) hcu (by omega) hx (by omega), ah (by omega), ah (by omega)]
   refine Eq.trans ?_ hn'
   simp only [ax9, if_neg hm, hnx]
 ·simp only [P.ahz]
  rw [axa h1 h2, bg (by omega), List.drop_eq_nil_of_le (by omega)]
  rfl
end Q
end
