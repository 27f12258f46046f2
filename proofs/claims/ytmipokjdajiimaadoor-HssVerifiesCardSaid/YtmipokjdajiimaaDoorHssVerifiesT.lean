/-
  HssVerifies, part 20: an interpreter of my own over abstract values, the pure functions, the walks and the plain law.
-/

import Derived.Test.YtmipokjdajiimaaDoorHssVerifiesS
import Derived.Test.YtmipokjdajiimaaDoorHssVerifiesK
import Derived.Test.YtmipokjdajiimaaDoorHssVerifiesL

section
/- SHA-2: blocks one behind the other, words of 32 bits. -/
namespace Q
open Go Go.Abs
set_option linter.unusedVariables false
set_option linter.unusedSimpArgs false
def thr {w : Nat} (p : Par w) (v : List (BitVec w)) (b : List Int) : Nat → List (BitVec w)
 | 0 => v
 | i + 1 => as8 p (thr p v b i) ((b.drop ((2 * w) * i)).take (2 * w))
theorem ajo {w : Nat} (p : Par w) (v : List (BitVec w)) (hv : v.length = 8) (b : List Int) : ∀ i, (thr p v b i).length = 8
 | 0 => hv
 | i + 1 => bez _ _ _
def toV (w : Nat) (l : List Int) : List (BitVec w) := (List.range 8).map fun i => BitVec.ofInt w (l.getD i 0)
theorem aj1 (w : Nat) (l : List Int) : (toV w l).length = 8 := by simp [toV]
theorem bl4 (w : Nat) (l : List Int) (hl : l.length = 8) (hi : In (2 ^ w) l) : cv (toV w l) = l := by
 unfold cv toV
 rw [List.map_map]
 refine List.ext_getElem (by simp [hl]) (fun i h1 h2 => ?_)
 have hp : ((2 : Int) ^ w) = ((2 ^ w : Nat) : Int) := by simp
 have := hi.getD i (by rw [hp]; have := p2 w; omega)
 rw [getD_lt h2] at this
 simp only [List.getElem_map, List.getElem_range, Function.comp, getD_lt h2, BitVec.toNat_ofInt]
 rw [hp] at this
 rw [Int.emod_eq_of_lt this.1 this.2]
 omega
theorem bnm {w : Nat} (l : List (BitVec w)) : In (2 ^ w) (cv l) := by
 intro x hx
 obtain ⟨y, _, rfl⟩ := List.mem_map.1 hx
 have := y.isLt
 have hp : ((2 : Int) ^ w) = ((2 ^ w : Nat) : Int) := by simp
 rw [hp]
 omega
theorem brd {w : Nat} (l : List (BitVec w)) (hl : l.length = 8) : toV w (cv l) = l := by
 unfold toV
 refine List.ext_getElem (by simp [hl]) (fun i h1 h2 => ?_)
 simp only [List.getElem_map, List.getElem_range, aen, ofI, getD_lt h2]
theorem axp (x : Int) : IntKind.u32.wrap x = ((BitVec.ofInt 32 x).toNat : Int) := by
 rw [bom, BitVec.toNat_ofInt]; omega
def rest (n : Nat) (b : List Int) : List Int := b.drop (n * (b.length / n))
theorem bsc (words b : List Int) (rd : Int) (t0 t1 t2 t3 h1 h2 : List Int) (hi : In 18446744073709551616 words) {ρ : Type} (k0 : List Int → List Int → Int → Int → Int → List Int → List Int → List Int → List Int → List Int → List Int → List Int → Option ρ) :
    P.abf b words 0 32 rd t0 t1 t2 t3 h1 h2 (List.replicate 8 0) k0 = k0 b words 8 32 rd t0 t1 t2 t3 h1 h2 (cv (toV 32 words)) := by
 rw [P.ahd]
 unfold P.ady P.btm P.bpj P.byq
 refine ug (fun i => (b, words, (i : Int), 32, rd, t0, t1, t2, t3, h1, h2, cv ((List.range i).map fun i => BitVec.ofInt 32 (words.getD i 0)) ++ List.replicate (8 - i) 0)) 8 (by simp [cv]) (fun i hi' next hn' => ?_) (fun next => ?_) (by omega)
 ·simp only [P.aaw, toNat_cast]
  have e4 : IntKind.i64.wrap ((i : Int) + 1) = ((i + 1 : Nat) : Int) := by rw [oq (by omega) (by omega)]; omega
  have e5 : (cv ((List.range i).map fun i => BitVec.ofInt 32 (words.getD i 0)) ++ List.replicate (8 - i) (0 : Int)).set i ((BitVec.ofInt 32 (words.getD i 0)).toNat : Int) = cv ((List.range (i + 1)).map fun i => BitVec.ofInt 32 (words.getD i 0)) ++ List.replicate (8 - (i + 1)) 0 := by
   rw [List.set_append_right _ _ (by simp), uj, List.length_map, List.length_range, Nat.sub_self, show 8 - i = (8 - (i + 1)) + 1 by omega, List.replicate_succ, List.set_cons_zero, List.range_succ, List.map_append, ← aec, List.append_assoc]
   rfl
  rw [ah (by omega), ah (by omega), ah (by omega), ah (by omega), ah (by omega), axp, e5, e4]
  exact hn'
 ·simp only [P.aaw]
  rw [bf (by omega)]
  simp [toV]
theorem bqf (v : List (BitVec 32)) (hv : v.length = 8) (b : List Int) (hb : In 256 b) (hn : b.length ≤ 1000000) (h1 h2 : List Int) {ρ : Type} (k0 : List Int → Int → List Int → List Int → List Int → Int → Int → List Int → List Int → List Int → List Int → Option ρ) :
    P.abg b 64 (cv v) h2 h1 32 64 [7, 18, 3] [17, 19, 10] [2, 13, 22] [6, 11, 25] k0 =
     k0 (rest 64 b) 64 (cv (thr p32 v b (b.length / 64))) h2 h1 32 64 [7, 18, 3] [17, 19, 10] [2, 13, 22] [6, 11, 25] := by
 rw [P.ahi]
 unfold P.adz P.bts P.brt P.bx7
 refine ug (fun i => (b.drop (64 * i), 64, cv (thr p32 v b i), h2, h1, 32, 64, [7, 18, 3], [17, 19, 10], [2, 13, 22], [6, 11, 25])) (b.length / 64) (by simp [thr]) (fun i hi next hn' => ?_) (fun next => ?_) (by omega)
 ·simp only [P.abb]
  have hlen : (b.drop (64 * i)).length = b.length - 64 * i := by simp
  have hge : 64 ≤ b.length - 64 * i := by omega
  simp only [hlen, show (64 : Int).toNat = 64 from rfl, toNat_cast, List.drop_zero]
  have hbl : ((b.drop (64 * i)).take 64).length = 16 * 4 := by rw [List.length_take, hlen]; omega
  rw [ah (by omega), ah (by omega), ah (by omega), bhn _ (ajo _ _ hv _ _) _ ((hb.drop _).take _) hbl, ah (by omega), ah (by omega), ah (by omega),
   List.take_of_length_le (by rw [hlen]; omega), List.drop_drop, show 64 * i + 64 = 64 * (i + 1) by omega]
  exact hn'
 ·simp only [P.abb]
  have hlen : (b.drop (64 * (b.length / 64))).length = b.length - 64 * (b.length / 64) := by simp
  rw [bf (by rw [hlen]; omega)]
  rfl
theorem bnk (v : List (BitVec 32)) (hv : v.length = 8) (b : List Int) (words h2 : List Int) (hl : words.length = 8) {ρ : Type} (k0 : List Int → List Int → Int → List Int → List Int → Option ρ) :
    P.aap b (cv v) 0 words h2 k0 = k0 b (cv v) 8 (cv v) h2 := by
 rw [P.agr]
 unfold P.ac5 P.bsj P.bpw P.bw7
 refine ug (fun i => (b, cv v, (i : Int), (cv v).take i ++ words.drop i, h2)) 8 (by simp) (fun i hi next hn' => ?_) (fun next => ?_) (by omega)
 ·simp only [P.aam, toNat_cast]
  have e4 : IntKind.i64.wrap ((i : Int) + 1) = ((i + 1 : Nat) : Int) := by rw [oq (by omega) (by omega)]; omega
  have e5 : ((cv v).take i ++ words.drop i).set i ((cv v).getD i 0) = (cv v).take (i + 1) ++ words.drop (i + 1) := by
   rw [List.set_append_right _ _ (by rw [List.length_take]; omega), List.length_take, uj, hv, Nat.min_eq_left (by omega), Nat.sub_self, List.drop_eq_getElem_cons (by omega), List.set_cons_zero, ← ahl (cv v) 0 i (by rw [uj]; omega), List.append_assoc]
   rfl
  have e6 : IntKind.u64.wrap ((cv v).getD i 0) = (cv v).getD i 0 := by
   rw [aen]; exact acg _ (nlt _)
  rw [ah (by omega), ah (by omega), ah (by omega), ah (by omega), ah (by omega), e6, e5, e4]
  exact hn'
 ·simp only [P.aam]
  rw [bf (by omega), List.drop_eq_nil_of_le (by omega), List.append_nil, List.take_of_length_le (by rw [uj]; omega)]
  rfl
theorem bbe (words b : List Int) (hl : words.length = 8) (hi : In 18446744073709551616 words) (hb : In 256 b) (hn : b.length ≤ 1000000) {ρ : Type} (k : List Int → List Int → Option ρ) :
    P.mg 32 64 [7, 18, 3] [17, 19, 10] [2, 13, 22] [6, 11, 25] words b k = k (cv (thr p32 (toV 32 words) b (b.length / 64))) (rest 64 b) := by
 rw [P.aef]
 unfold P.aak
 refine (bsc words b 64 [7, 18, 3] [17, 19, 10] [2, 13, 22] [6, 11, 25] words (List.replicate 8 0) hi _).trans ?_
 rw [show IntKind.i64.wrap ((32 : Int) * 2) = 64 from rfl, bqf _ (aj1 _ _) b hb hn, bnk _ (ajo _ _ (aj1 _ _) _ _) _ _ _ hl]
theorem bqn (v : List (BitVec 32)) (hv : v.length = 8) (b : List Int) (hb : In 256 b) (hn : b.length ≤ 1000000) (kd : Int) (tl : List Int) (sz : Int) (a1 : Int) (a2 : List Int) (a3 : Int) {ρ : Type} (k0 : Int → List Int → Int → List Int → List Int → Int → Int → List Int → Int → Option ρ) :
    P.ake 64 b kd (cv v) tl sz a1 a2 a3 k0 = k0 64 (rest 64 b) kd (cv (thr p32 v b (b.length / 64))) tl sz a1 a2 a3 := by
 rw [P.am2]
 unfold P.aon P.bpk P.bon P.bsg
 refine ug (fun i => (64, b.drop (64 * i), kd, cv (thr p32 v b i), tl, sz, a1, a2, a3)) (b.length / 64) (by simp [thr]) (fun i hi next hn' => ?_) (fun next => ?_) (by omega)
 ·simp only [P.ahm]
  have hlen : (b.drop (64 * i)).length = b.length - 64 * i := by simp
  have hge : 64 ≤ b.length - 64 * i := by omega
  simp only [hlen, show (64 : Int).toNat = 64 from rfl, toNat_cast, List.drop_zero]
  have hbl : ((b.drop (64 * i)).take 64).length = 16 * 4 := by rw [List.length_take, hlen]; omega
  rw [ah (by omega), ah (by omega), ah (by omega), show ((64 : Int) == 128) = false from rfl, bha _ (ajo _ _ hv _ _) _ ((hb.drop _).take _) hbl, ah (by omega), ah (by omega), ah (by omega),
   List.take_of_length_le (by rw [hlen]; omega), List.drop_drop, show 64 * i + 64 = 64 * (i + 1) by omega]
  exact hn'
 ·simp only [P.ahm]
  have hlen : (b.drop (64 * (b.length / 64))).length = b.length - 64 * (b.length / 64) := by simp
  rw [bf (by rw [hlen]; omega)]
  rfl
end Q
end

section
/- SHA-2: blocks one behind the other, words of 64 bits. -/
namespace Q
open Go Go.Abs
set_option linter.unusedVariables false
set_option linter.unusedSimpArgs false
theorem bq4 (words b : List Int) (rd : Int) (t0 t1 t2 t3 h1 h2 : List Int) (hi : In 18446744073709551616 words) {ρ : Type} (k0 : List Int → List Int → Int → Int → Int → List Int → List Int → List Int → List Int → List Int → List Int → List Int → Option ρ) :
    P.aay b words 0 64 rd t0 t1 t2 t3 h1 h2 (List.replicate 8 0) k0 = k0 b words 8 64 rd t0 t1 t2 t3 h1 h2 (cv (toV 64 words)) := by
 rw [P.ahg]
 unfold P.aeg P.bse P.bpg P.bw4
 refine ug (fun i => (b, words, (i : Int), 64, rd, t0, t1, t2, t3, h1, h2, cv ((List.range i).map fun i => BitVec.ofInt 64 (words.getD i 0)) ++ List.replicate (8 - i) 0)) 8 (by simp [cv]) (fun i hi' next hn' => ?_) (fun next => ?_) (by omega)
 ·simp only [P.abh, toNat_cast]
  have e4 : IntKind.i64.wrap ((i : Int) + 1) = ((i + 1 : Nat) : Int) := by rw [oq (by omega) (by omega)]; omega
  have e6 : words.getD i 0 = ((BitVec.ofInt 64 (words.getD i 0)).toNat : Int) := by
   have := hi.getD i (by omega)
   rw [BitVec.toNat_ofInt]
   omega
  have e5 : (cv ((List.range i).map fun i => BitVec.ofInt 64 (words.getD i 0)) ++ List.replicate (8 - i) (0 : Int)).set i ((BitVec.ofInt 64 (words.getD i 0)).toNat : Int) = cv ((List.range (i + 1)).map fun i => BitVec.ofInt 64 (words.getD i 0)) ++ List.replicate (8 - (i + 1)) 0 := by
   rw [List.set_append_right _ _ (by simp), uj, List.length_map, List.length_range, Nat.sub_self, show 8 - i = (8 - (i + 1)) + 1 by omega, List.replicate_succ, List.set_cons_zero, List.range_succ, List.map_append, ← aec, List.append_assoc]
   rfl
  rw [ah (by omega), ah (by omega), ah (by omega), ah (by omega), ah (by omega), e6, e5, e4]
  exact hn'
 ·simp only [P.abh]
  rw [bf (by omega)]
  simp [toV]
theorem bqw (v : List (BitVec 64)) (hv : v.length = 8) (b : List Int) (hb : In 256 b) (hn : b.length ≤ 1000000) (h1 h2 : List Int) {ρ : Type} (k0 : List Int → Int → List Int → List Int → List Int → Int → Int → List Int → List Int → List Int → List Int → Option ρ) :
    P.aav b 128 (cv v) h2 h1 64 80 [1, 8, 7] [19, 61, 6] [28, 34, 39] [14, 18, 41] k0 =
     k0 (rest 128 b) 128 (cv (thr p64 v b (b.length / 128))) h2 h1 64 80 [1, 8, 7] [19, 61, 6] [28, 34, 39] [14, 18, 41] := by
 rw [P.ahe]
 unfold P.aee P.btp P.brq P.bub
 refine ug (fun i => (b.drop (128 * i), 128, cv (thr p64 v b i), h2, h1, 64, 80, [1, 8, 7], [19, 61, 6], [28, 34, 39], [14, 18, 41])) (b.length / 128) (by simp [thr]) (fun i hi next hn' => ?_) (fun next => ?_) (by omega)
 ·simp only [P.aa8]
  have hlen : (b.drop (128 * i)).length = b.length - 128 * i := by simp
  have hge : 128 ≤ b.length - 128 * i := by omega
  simp only [hlen, show (128 : Int).toNat = 128 from rfl, toNat_cast, List.drop_zero]
  have hbl : ((b.drop (128 * i)).take 128).length = 16 * 8 := by rw [List.length_take, hlen]; omega
  rw [ah (by omega), ah (by omega), ah (by omega), bhp _ (ajo _ _ hv _ _) _ ((hb.drop _).take _) hbl, ah (by omega), ah (by omega), ah (by omega),
   List.take_of_length_le (by rw [hlen]; omega), List.drop_drop, show 128 * i + 128 = 128 * (i + 1) by omega]
  exact hn'
 ·simp only [P.aa8]
  have hlen : (b.drop (128 * (b.length / 128))).length = b.length - 128 * (b.length / 128) := by simp
  rw [bf (by rw [hlen]; omega)]
  rfl
theorem bm2 (v : List (BitVec 64)) (hv : v.length = 8) (b : List Int) (words h2 : List Int) (hl : words.length = 8) {ρ : Type} (k0 : List Int → List Int → Int → List Int → List Int → Option ρ) :
    P.aal b (cv v) 0 words h2 k0 = k0 b (cv v) 8 (cv v) h2 := by
 rw [P.agq]
 unfold P.ac4 P.bs0 P.bqu P.bwf
 refine ug (fun i => (b, cv v, (i : Int), (cv v).take i ++ words.drop i, h2)) 8 (by simp) (fun i hi next hn' => ?_) (fun next => ?_) (by omega)
 ·simp only [P.aaj, toNat_cast]
  have e4 : IntKind.i64.wrap ((i : Int) + 1) = ((i + 1 : Nat) : Int) := by rw [oq (by omega) (by omega)]; omega
  have e5 : ((cv v).take i ++ words.drop i).set i ((cv v).getD i 0) = (cv v).take (i + 1) ++ words.drop (i + 1) := by
   rw [List.set_append_right _ _ (by rw [List.length_take]; omega), List.length_take, uj, hv, Nat.min_eq_left (by omega), Nat.sub_self, List.drop_eq_getElem_cons (by omega), List.set_cons_zero, ← ahl (cv v) 0 i (by rw [uj]; omega), List.append_assoc]
   rfl
  rw [ah (by omega), ah (by omega), ah (by omega), ah (by omega), ah (by omega), e5, e4]
  exact hn'
 ·simp only [P.aaj]
  rw [bf (by omega), List.drop_eq_nil_of_le (by omega), List.append_nil, List.take_of_length_le (by rw [uj]; omega)]
  rfl
theorem bbz (words b : List Int) (hl : words.length = 8) (hi : In 18446744073709551616 words) (hb : In 256 b) (hn : b.length ≤ 1000000) {ρ : Type} (k : List Int → List Int → Option ρ) :
    P.l9 64 80 [1, 8, 7] [19, 61, 6] [28, 34, 39] [14, 18, 41] words b k = k (cv (thr p64 (toV 64 words) b (b.length / 128))) (rest 128 b) := by
 rw [P.ad7]
 unfold P.aao
 refine (bq4 words b 80 [1, 8, 7] [19, 61, 6] [28, 34, 39] [14, 18, 41] words (List.replicate 8 0) hi _).trans ?_
 rw [show IntKind.i64.wrap ((64 : Int) * 2) = 128 from rfl, bqw _ (aj1 _ _) b hb hn, bm2 _ (ajo _ _ (aj1 _ _) _ _) _ _ _ hl]
theorem bsa (v : List (BitVec 64)) (hv : v.length = 8) (b : List Int) (hb : In 256 b) (hn : b.length ≤ 1000000) (kd : Int) (tl : List Int) (sz : Int) (a1 : Int) (a2 : List Int) (a3 : Int) {ρ : Type} (k0 : Int → List Int → Int → List Int → List Int → Int → Int → List Int → Int → Option ρ) :
    P.ake 128 b kd (cv v) tl sz a1 a2 a3 k0 = k0 128 (rest 128 b) kd (cv (thr p64 v b (b.length / 128))) tl sz a1 a2 a3 := by
 rw [P.am2]
 unfold P.aon P.bpk P.bon P.bsg
 refine ug (fun i => (128, b.drop (128 * i), kd, cv (thr p64 v b i), tl, sz, a1, a2, a3)) (b.length / 128) (by simp [thr]) (fun i hi next hn' => ?_) (fun next => ?_) (by omega)
 ·simp only [P.ahm]
  have hlen : (b.drop (128 * i)).length = b.length - 128 * i := by simp
  have hge : 128 ≤ b.length - 128 * i := by omega
  simp only [hlen, show (128 : Int).toNat = 128 from rfl, toNat_cast, List.drop_zero]
  have hbl : ((b.drop (128 * i)).take 128).length = 16 * 8 := by rw [List.length_take, hlen]; omega
  rw [ah (by omega), ah (by omega), ah (by omega), show ((128 : Int) == 128) = true from rfl, bgs _ (ajo _ _ hv _ _) _ ((hb.drop _).take _) hbl, ah (by omega), ah (by omega), ah (by omega),
   List.take_of_length_le (by rw [hlen]; omega), List.drop_drop, show 128 * i + 128 = 128 * (i + 1) by omega]
  exact hn'
 ·simp only [P.ahm]
  have hlen : (b.drop (128 * (b.length / 128))).length = b.length - 128 * (b.length / 128) := by simp
  rw [bf (by rw [hlen]; omega)]
  rfl
end Q
end

section
/- Are two rows of bytes the same. -/
namespace Q
open Go Go.Abs
set_option linter.unusedVariables false
set_option linter.unusedSimpArgs false
end Q
end

section
/- SHA-2: sums that go on, and their ends. -/
namespace Q
open Go Go.Abs
set_option linter.unusedVariables false
set_option linter.unusedSimpArgs false
def bsz (kind : Int) : Nat := if kind = 1 then 64 else 128
theorem ano (kind : Int) : (kind = 1 ∧ bsz kind = 64) ∨ (kind ≠ 1 ∧ bsz kind = 128) := by
 unfold bsz
 by_cases h : kind = 1
 ·exact .inl ⟨h, if_pos h⟩
 ·exact .inr ⟨h, if_neg h⟩
theorem qc (kind : Int) {ρ : Type} (k : Int → Option ρ) : P.qc kind k = k ((bsz kind : Nat) : Int) := by
 rw [P.air]; unfold P.adt
 rcases ano kind with ⟨h, e⟩ | ⟨h, e⟩
 ·rw [bq h, e]; rfl
 ·rw [ak h, e]; rfl
theorem wo (kind : Int) {ρ : Type} (k : Int → Option ρ) : P.wo kind k = k ((bsz kind : Nat) : Int) := by
 rw [P.ap7]; unfold P.aic
 rcases ano kind with ⟨h, e⟩ | ⟨h, e⟩
 ·rw [bq h, e]; rfl
 ·rw [ak h, e]; rfl
def auh (kind : Int) (words all : List Int) : List Int :=
 if kind = 1 then cv (thr p32 (toV 32 words) all (all.length / 64)) else cv (thr p64 (toV 64 words) all (all.length / 128))
theorem anz (kind : Int) (words all : List Int) : (auh kind words all).length = 8 := by
 unfold auh
 split <;> rw [uj, ajo _ _ (aj1 _ _)]
def Wok (kind : Int) (words : List Int) : Prop := words.length = 8 ∧ In 18446744073709551616 words ∧ (kind = 1 → In 4294967296 words)
theorem ai6 (kind : Int) (words all : List Int) : Wok kind (auh kind words all) := by
 refine ⟨anz _ _ _, ?_, fun h => ?_⟩
 ·unfold auh
  split
  ·intro x hx
   have := bnm _ x hx
   omega
  ·intro x hx
   have := bnm _ x hx
   omega
 ·unfold auh
  rw [if_pos h]
  intro x hx
  have := bnm _ x hx
  omega
theorem ahs (n : Nat) (hn : 0 < n) (b : List Int) : (rest n b).length = b.length % n := by
 unfold rest
 rw [List.length_drop]
 have := Nat.div_add_mod b.length n
 omega
theorem ak4 {n : Nat} {b : List Int} (h : In 256 b) : In 256 (rest n b) := h.drop _
theorem aa5 {ρ : Type} (k : Int → Int → List Int → List Int → List Int → List Int → Option ρ) : P.aa5 k = k 32 64 [7, 18, 3] [17, 19, 10] [2, 13, 22] [6, 11, 25] := by rw [P.apv]; rfl
theorem aa1 {ρ : Type} (k : Int → Int → List Int → List Int → List Int → List Int → Option ρ) : P.aa1 k = k 64 80 [1, 8, 7] [19, 61, 6] [28, 34, 39] [14, 18, 41] := by rw [P.apx]; rfl
theorem vw (kind : Int) (words tail : List Int) (size : Int) (b : List Int) (hl : words.length = 8) (hi : In 18446744073709551616 words) (ht : In 256 tail) (hb : In 256 b) (hn : tail.length + b.length ≤ 1000000) {ρ : Type} (k : Int → List Int → List Int → Int → Option ρ) :
    P.vw kind words tail size b k = k kind (auh kind words (tail ++ b)) (rest (bsz kind) (tail ++ b)) (IntKind.u64.wrap (size + IntKind.u64.wrap (b.length : Int))) := by
 rw [P.av6]; unfold P.al2
 have hf : [tail, b].flatten = tail ++ b := by simp
 have hall : (tail ++ b).length ≤ 1000000 := by rw [List.length_append]; exact hn
 have hin : In 256 (tail ++ b) := ht.app hb
 have hr : ∀ n, (rest n (tail ++ b)).length ≤ 1000000 := fun n => by unfold rest; rw [List.length_drop]; omega
 rw [gq _ (by simp) (by rw [hf]; omega), hf]
 rcases ano kind with ⟨h, e⟩ | ⟨h, e⟩
 ·rw [bq h, aa5, e]
  rw [bbe words _ hl hi hin hall]
  unfold P.l8 auh
  have := hr 64
  rw [ah (by omega), if_pos h]
 ·rw [ak h, aa1, e]
  rw [bbz words _ hl hi hin hall]
  unfold P.l8 auh
  have := hr 128
  rw [ah (by omega), if_neg h]
theorem aa0 (kind : Int) (words tail : List Int) (size : Int) (b : List Int) (hw : Wok kind words) (ht : In 256 tail) (hb : In 256 b) (hn : tail.length + b.length ≤ 1000000) {ρ : Type} (k : Int → List Int → List Int → Int → Option ρ) :
    P.aa0 kind words tail size b k = k kind (auh kind words (tail ++ b)) (rest (bsz kind) (tail ++ b)) (IntKind.u64.wrap (size + IntKind.u64.wrap (b.length : Int))) := by
 rw [P.av9]; unfold P.alz
 obtain ⟨hl, hi, h1⟩ := hw
 have hf : [tail, b].flatten = tail ++ b := by simp
 have hall : (tail ++ b).length ≤ 1000000 := by rw [List.length_append]; exact hn
 have hin : In 256 (tail ++ b) := ht.app hb
 rw [wo, qg _ (by simp) (by rw [hf]; omega), hf]
 rcases ano kind with ⟨h, e⟩ | ⟨h, e⟩
 ·have hv := bl4 32 words hl (h1 h)
  rw [e]
  conv => lhs; rw [← hv]
  rw [show ((64 : Nat) : Int) = 64 from rfl, bqn _ (aj1 _ _) _ hin hall]
  unfold auh
  rw [if_pos h]
 ·have hv := bl4 64 words hl hi
  rw [e]
  conv => lhs; rw [← hv]
  rw [show ((128 : Nat) : Int) = 128 from rfl, bsa _ (aj1 _ _) _ hin hall]
  unfold auh
  rw [if_neg h]
def bff (kind : Int) (tl : Nat) : Nat := if kind = 1 then (119 - tl) % 64 else (239 - tl) % 128 + 8
def pad (kind : Int) (tl : Nat) (size : Nat) : List Int := 128 :: List.replicate (bff kind tl) 0 ++ (bsw 8 8 (size * 8 % 2 ^ 64)).reverse
def bbu (n : Nat) (words : List Int) (i : Nat) : List Int := ((List.range i).map fun j => (bsw 8 n (words.getD j 0).toNat).reverse).flatten
theorem amr (n : Nat) (words : List Int) (i : Nat) : bbu n words (i + 1) = bbu n words i ++ (bsw 8 n (words.getD i 0).toNat).reverse := by simp [bbu, List.range_succ]
theorem af3 (n : Nat) (words : List Int) : ∀ i, (bbu n words i).length = n * i
 | 0 => by simp [bbu]
 | i + 1 => by rw [amr, List.length_append, af3 n words i, List.length_reverse, abl, Nat.mul_succ]
theorem bbp (n : Nat) (words : List Int) : ∀ i, In 256 (bbu n words i)
 | 0 => by simp [bbu, In]
 | i + 1 => by rw [amr]; exact (bbp n words i).app (ayy 8 n _).rev
def biw (kind : Int) (words tail : List Int) (size : Nat) : List Int :=
 let o := bbu (bsz kind / 16) (auh kind words (tail ++ pad kind tail.length size)) 8
 if kind = 2 then o.take 48 else o
theorem boc (kind : Int) (words tail : List Int) (size : Nat) : In 256 (biw kind words tail size) := by
 unfold biw
 simp only
 split
 ·exact (bbp _ _ _).take _
 ·exact bbp _ _ _
theorem blb (kind : Int) (words tail : List Int) (size : Nat) : (biw kind words tail size).length = if kind = 1 then 32 else if kind = 2 then 48 else 64 := by
 unfold biw
 simp only
 rcases ano kind with ⟨h, e⟩ | ⟨h, e⟩
 ·rw [if_neg (by omega), if_pos h, af3, e]
 ·rw [if_neg h, e]
  split
  ·rw [List.length_take, af3]; decide
  ·rw [af3]
theorem tmN (a b : Nat) : ((a : Nat) : Int).tmod (b : Int) = ((a % b : Nat) : Int) := by
 rw [Int.tmod_eq_emod_of_nonneg (by omega)]; rfl
theorem bgy (kind : Int) (tl size : Nat) : In 256 (pad kind tl size) := by
 unfold pad
 refine In.app ?_ (ayy 8 8 _).rev
 intro x hx
 rcases List.mem_cons.1 hx with rfl | hx
 ·omega
 ·rw [List.mem_replicate] at hx; omega
theorem bgv (kind : Int) (tl size : Nat) : (pad kind tl size).length = bff kind tl + 9 := by
 unfold pad; simp
theorem bf7 (kind : Int) (tl : Nat) : bff kind tl ≤ 200 := by
 unfold bff; split <;> omega
theorem bk3 (n : Nat) (hn : n = 64 ∨ n = 128) (words : List Int) (hw : In 18446744073709551616 words) (a : Int) (b : List Int) (c : Int) (d : List Int) {ρ : Type} (k0 : Int → List Int → Int → List Int → Int → List Int → Int → List Int → Option ρ) :
    P.ak5 (n : Int) words 0 [] a b c d k0 = k0 (n : Int) words 8 (bbu (n / 16) words 8) a b c d := by
 rw [P.auu]
 unfold P.aro P.btk P.bpo P.bvk
 have e16 : IntKind.i64.wrap ((n : Int).tdiv 16) = ((n / 16 : Nat) : Int) := by rcases hn with rfl | rfl <;> rfl
 refine ug (fun i => ((n : Int), words, (i : Int), bbu (n / 16) words i, a, b, c, d)) 8 rfl (fun i hi next hn' => ?_) (fun next => ?_) (by omega)
 ·simp only [P.alp, toNat_cast]
  have h1 := hw.getD i (by omega)
  have e4 : IntKind.i64.wrap ((i : Int) + 1) = ((i + 1 : Nat) : Int) := by rw [oq (by omega) (by omega)]; omega
  have e5 : words.getD i 0 = (((words.getD i 0).toNat : Nat) : Int) := by omega
  rw [amr] at hn'
  rw [ah (by omega), ah (by omega), ah (by omega), e16, e5, ni _ _ (by omega) (by omega), e4]
  rw [ah (by rw [af3, List.length_reverse, abl]; rcases hn with rfl | rfl <;> omega)]
  exact hn'
 ·simp only [P.alp]
  rw [bf (by omega)]
  rfl
theorem shl3 (size : Nat) : IntKind.u64.wrap ((size : Int) * (2 : Int) ^ 3) = ((size * 8 % 2 ^ 64 : Nat) : Int) := by
 rw [bi8]; omega
theorem ab4 (kind : Int) (words tail : List Int) (size : Nat) (hl : words.length = 8) (hi : In 18446744073709551616 words) (ht : In 256 tail) (hn : tail.length < bsz kind) {ρ : Type} (k : List Int → Option ρ) :
    P.ab4 kind words tail (size : Int) k = k (biw kind words tail size) := by
 rw [P.au3]; unfold P.ak2
 rw [qc]
 have hz : IntKind.i64.wrap (IntKind.i64.wrap ((IntKind.i64.wrap (IntKind.i64.wrap (IntKind.i64.wrap (IntKind.i64.wrap ((2 : Int) * ((bsz kind : Nat) : Int)) - (1 : Int)) - IntKind.i64.wrap (((bsz kind : Nat) : Int).tdiv (8 : Int))) - (tail.length : Int))).tmod ((bsz kind : Nat) : Int) + IntKind.i64.wrap (((bsz kind : Nat) : Int).tdiv (8 : Int))) - (8 : Int)) = ((bff kind tail.length : Nat) : Int) := by
  unfold bff
  rcases ano kind with ⟨h, e⟩ | ⟨h, e⟩
  ·rw [e] at hn ⊢
   rw [if_pos h, show IntKind.i64.wrap (IntKind.i64.wrap (IntKind.i64.wrap ((2 : Int) * ((64 : Nat) : Int)) - (1 : Int)) - IntKind.i64.wrap (((64 : Nat) : Int).tdiv (8 : Int))) = 119 from rfl, oq (x := (119 : Int) - (tail.length : Int)) (by omega) (by omega),
    show (119 : Int) - (tail.length : Int) = ((119 - tail.length : Nat) : Int) by omega, tmN, show IntKind.i64.wrap (((64 : Nat) : Int).tdiv (8 : Int)) = 8 from rfl, oq (x := ((((119 - tail.length) % 64 : Nat) : Int)) + 8) (by omega) (by omega), oq (by omega) (by omega)]
   omega
  ·rw [e] at hn ⊢
   rw [if_neg h, show IntKind.i64.wrap (IntKind.i64.wrap (IntKind.i64.wrap ((2 : Int) * ((128 : Nat) : Int)) - (1 : Int)) - IntKind.i64.wrap (((128 : Nat) : Int).tdiv (8 : Int))) = 239 from rfl, oq (x := (239 : Int) - (tail.length : Int)) (by omega) (by omega),
    show (239 : Int) - (tail.length : Int) = ((239 - tail.length : Nat) : Int) by omega, tmN, show IntKind.i64.wrap (((128 : Nat) : Int).tdiv (8 : Int)) = 16 from rfl, oq (x := ((((239 - tail.length) % 128 : Nat) : Int)) + 16) (by omega) (by omega), oq (by omega) (by omega)]
   omega
 have hb : bsz kind = 64 ∨ bsz kind = 128 := by rcases ano kind with ⟨h, e⟩ | ⟨h, e⟩ <;> omega
 have hz2 := bf7 kind tail.length
 rw [hz]
 simp only [toNat_cast]
 rw [ah (by omega), ah (by omega), bf (by omega), ah (by omega), ah (by omega), shl3, show (8 : Int) = ((8 : Nat) : Int) from rfl, ni _ 8 (by omega) (by omega)]
 have hp : (List.replicate 1 (0 : Int)).set 0 (128 : Int) ++ List.replicate (bff kind tail.length) (0 : Int) ++ (bsw 8 8 (size * 8 % 2 ^ 64)).reverse = pad kind tail.length size := rfl
 rw [ah (by
  show ((List.replicate (bff kind tail.length) (0 : Int)).length + 0 + 1 + _) * 1 ≤ _
  rw [List.length_replicate, List.length_reverse, abl]; omega), hp]
 have hpl := bgv kind tail.length size
 rw [vw kind words tail _ _ hl hi ht (bgy _ _ _) (by omega), bk3 _ hb _ (ai6 _ _ _).2.1]
 unfold biw
 simp only
 by_cases h2 : kind = 2
 ·have e : bsz kind = 128 := by unfold bsz; rw [if_neg (by omega)]
  rw [bq h2, ah (by rw [af3, e]; omega), if_pos h2]
  rfl
 ·rw [ak h2, if_neg h2]
theorem pads (n : Nat) (hn : n = 64 ∨ n = 128) (tl : Nat) (ht : tl < 200) (z m : Nat) (hm : m < n) (h1 : ∀ i, i < z → (tl + (1 + i)) % n ≠ m) (h2 : (tl + (1 + z)) % n = m) (hz : z ≤ 200) (c : Int) (kd : Int) (words tail : List Int) (size : Int) (hl : tail.length = tl) (d : Int) (hd : IntKind.i64.wrap ((n : Int) - d) = (m : Int)) :
    (d = 8 → ∀ {ρ : Type} (k0 : Int → Int → List Int → Int → List Int → List Int → Int → Option ρ), P.aph (n : Int) c [128] kd words tail size k0 = k0 (n : Int) c (128 :: List.replicate z 0) kd words tail size) ∧
    (d = 16 → ∀ {ρ : Type} (k0 : Int → Int → List Int → Int → List Int → List Int → Int → Option ρ), P.ao2 (n : Int) c [128] kd words tail size k0 = k0 (n : Int) c (128 :: List.replicate z 0) kd words tail size) := by
 have hlen : ∀ i : Nat, ((128 : Int) :: List.replicate i 0).length = 1 + i := fun i => by simp; omega
 have hc : ∀ i : Nat, i ≤ z → IntKind.i64.wrap (((tail.length : Nat) : Int) + ((((128 : Int) :: List.replicate i 0).length : Nat) : Int)) = ((tl + (1 + i) : Nat) : Int) := fun i hi => by
  rw [hlen, hl, oq (by omega) (by omega)]; omega
 have hs : ∀ i : Nat, ((128 : Int) :: List.replicate i 0) ++ [(0 : Int)] = 128 :: List.replicate (i + 1) 0 := fun i => by
  rw [List.replicate_succ']; rfl
 constructor
 ·rintro rfl ρ k0
  rw [P.aws]
  unfold P.avj P.bs7 P.brm P.bw8
  refine ug (fun i => ((n : Int), c, 128 :: List.replicate i 0, kd, words, tail, size)) z rfl (fun i hi next hn' => ?_) (fun next => ?_) (by omega)
  ·simp only [P.aop]
   have := h1 i hi
   rw [hc i (by omega), tmN, hd, bf (by omega), d9 (by omega), ah (by rw [hlen]; omega), hs]
   exact hn'
  ·simp only [P.aop]
   rw [hc z (by omega), tmN, hd, bf (by omega), h2, bg (by rfl)]
 ·rintro rfl ρ k0
  rw [P.ax6]
  unfold P.au1 P.bsl P.bpi P.bye
  refine ug (fun i => ((n : Int), c, 128 :: List.replicate i 0, kd, words, tail, size)) z rfl (fun i hi next hn' => ?_) (fun next => ?_) (by omega)
  ·simp only [P.ao4]
   have := h1 i hi
   rw [hc i (by omega), tmN, hd, bf (by omega), d9 (by omega), ah (by rw [hlen]; omega), hs]
   exact hn'
  ·simp only [P.ao4]
   rw [hc z (by omega), tmN, hd, bf (by omega), h2, bg (by rfl)]
theorem bev (n : Nat) (hn : n = 64 ∨ n = 128) (words : List Int) (hw : In 18446744073709551616 words) (a : Int) (b : List Int) (c : Int) {ρ : Type} (k0 : Int → Int → List Int → Int → List Int → List Int → Int → Option ρ) :
    P.ah1 (n : Int) 0 [] a words b c k0 = k0 (n : Int) 8 (bbu (n / 16) words 8) a words b c := by
 rw [P.auo]
 unfold P.aud P.bst P.boz P.bxo
 have e16 : IntKind.i64.wrap ((n : Int).tdiv 16) = ((n / 16 : Nat) : Int) := by rcases hn with rfl | rfl <;> rfl
 refine ug (fun i => ((n : Int), (i : Int), bbu (n / 16) words i, a, words, b, c)) 8 rfl (fun i hi next hn' => ?_) (fun next => ?_) (by omega)
 ·simp only [P.ali, toNat_cast]
  have h1 := hw.getD i (by omega)
  have e4 : IntKind.i64.wrap ((i : Int) + 1) = ((i + 1 : Nat) : Int) := by rw [oq (by omega) (by omega)]; omega
  have e5 : words.getD i 0 = (((words.getD i 0).toNat : Nat) : Int) := by omega
  rw [amr] at hn'
  rw [ah (by omega), ah (by omega), ah (by omega), e16, e5, j5 _ _ (by omega) (by omega), e4]
  rw [ah (by rw [af3, List.length_reverse, abl]; rcases hn with rfl | rfl <;> omega)]
  exact hn'
 ·simp only [P.ali]
  rw [bf (by omega)]
  rfl
theorem bdp (kind : Int) (words tail : List Int) (size : Nat) {ρ : Type} (k : List Int → Option ρ) :
    (br (kind == (2 : Int)) (br (decide ((48 : Int) ≤ ((bbu (bsz kind / 16) (auh kind words (tail ++ pad kind tail.length size)) 8).length : Int))) (k (List.take ((48 : Int) - (0 : Int)).toNat (bbu (bsz kind / 16) (auh kind words (tail ++ pad kind tail.length size)) 8))) none)
     (k (bbu (bsz kind / 16) (auh kind words (tail ++ pad kind tail.length size)) 8))) = k (biw kind words tail size) := by
 unfold biw
 simp only
 by_cases h2 : kind = 2
 ·have e : bsz kind = 128 := by unfold bsz; rw [if_neg (by omega)]
  rw [bq h2, ah (by rw [af3, e]; omega), if_pos h2]
  rfl
 ·rw [ak h2, if_neg h2]
theorem afj (kind : Int) (words tail : List Int) (size : Nat) (hw : Wok kind words) (ht : In 256 tail) (hn : tail.length < bsz kind) (hs : size < 2305843009213693952) {ρ : Type} (k : List Int → Option ρ) :
    P.afj kind words tail (size : Int) k = k (biw kind words tail size) := by
 rw [P.avn]; unfold P.al1
 have h8 : IntKind.u64.wrap ((size : Int) * 8) = ((size * 8 % 2 ^ 64 : Nat) : Int) := by rw [bi8]; omega
 have hpl := bgv kind tail.length size
 have hz2 := bf7 kind tail.length
 rw [wo, h8]
 rcases ano kind with ⟨h, e⟩ | ⟨h, e⟩
 ·rw [e] at hn ⊢
  have hp := (pads 64 (.inl rfl) tail.length (by omega) (bff kind tail.length) 56 (by omega) (fun i hi => by unfold bff at hi; rw [if_pos h] at hi; omega) (by unfold bff; rw [if_pos h]; omega) hz2 ((size * 8 % 2 ^ 64 : Nat) : Int) kind words tail (size : Int) rfl 8 rfl).1
  rw [hp rfl, ak (by decide), show (8 : Int) = ((8 : Nat) : Int) from rfl, j5 _ 8 (by omega) (by omega), ah (by simp; omega)]
  have hpad : (128 : Int) :: List.replicate (bff kind tail.length) 0 ++ (bsw 8 8 (size * 8 % 2 ^ 64)).reverse = pad kind tail.length size := rfl
  rw [hpad, aa0 kind words tail _ _ hw ht (bgy _ _ _) (by omega), bev _ (.inl rfl) _ (ai6 _ _ _).2.1]
  have := bdp kind words tail size k
  rw [e] at this
  exact this
 ·rw [e] at hn ⊢
  have hp1 := (pads 128 (.inr rfl) tail.length (by omega) ((247 - tail.length) % 128) 120 (by omega) (fun i hi => by omega) (by omega) (by omega) ((size * 8 % 2 ^ 64 : Nat) : Int) kind words tail (size : Int) rfl 8 rfl).1
  have hp2 := (pads 128 (.inr rfl) tail.length (by omega) ((239 - tail.length) % 128) 112 (by omega) (fun i hi => by omega) (by omega) (by omega) ((size * 8 % 2 ^ 64 : Nat) : Int) kind words tail (size : Int) rfl 16 rfl).2
  have h61 : ((size : Nat) : Int).fdiv ((2 : Int) ^ 61) = ((0 : Nat) : Int) := by
   have := fdiv_pow size 61 61 (by omega)
   rw [Nat.div_eq_of_lt (by omega)] at this
   exact this
  rw [hp1 rfl, bq (by rfl), hp2 rfl, h61, show (8 : Int) = ((8 : Nat) : Int) from rfl, j5 _ 8 (by omega) (by omega), ah (by simp; omega), j5 _ 8 (by omega) (by omega), ah (by simp; omega)]
  have hpad : (128 : Int) :: List.replicate ((239 - tail.length) % 128) 0 ++ (bsw 8 8 0).reverse ++ (bsw 8 8 (size * 8 % 2 ^ 64)).reverse = pad kind tail.length size := by
   unfold pad bff
   rw [if_neg h, ← List.replicate_append_replicate]
   rfl
  rw [hpad, aa0 kind words tail _ _ hw ht (bgy _ _ _) (by omega), bev _ (.inr rfl) _ (ai6 _ _ _).2.1]
  have := bdp kind words tail size k
  rw [e] at this
  exact this
def blx (kind : Int) : List Int :=
 if kind = 1 then [1779033703, 3144134277, 1013904242, 2773480762, 1359893119, 2600822924, 528734635, 1541459225]
 else if kind = 2 then [14680500436340154072, 7105036623409894663, 10473403895298186519, 1526699215303891257, 7436329637833083697, 10282925794625328401, 15784041429090275239, 5167115440072839076]
 else [7640891576956012808, 13503953896175478587, 4354685564936845355, 11912009170470909681, 5840696475078001361, 11170449401992604703, 2270897969802886507, 6620516959819538809]
theorem bbh (kind : Int) : Wok kind (blx kind) := by
 unfold blx Wok
 by_cases h1 : kind = 1
 ·simp only [if_pos h1]
  refine ⟨rfl, ?_, fun _ => ?_⟩
  ·unfold In; decide
  ·unfold In; decide
 ·by_cases h2 : kind = 2
  ·simp only [if_neg h1, if_pos h2]
   refine ⟨rfl, ?_, fun h => absurd h h1⟩
   unfold In; decide
  ·simp only [if_neg h1, if_neg h2]
   refine ⟨rfl, ?_, fun h => absurd h h1⟩
   unfold In; decide
def K3 (kind : Int) : Prop := kind = 1 ∨ kind = 2 ∨ kind = 3
theorem bbv {kind : Int} (h : K3 kind) {ρ : Type} (k : List Int → Bool → Option ρ) : P.ac1 kind k = k (blx kind) true := by
 rw [P.ap6]
 rcases h with rfl | rfl | rfl <;> kernel_rfl
theorem ab7 {kind : Int} (h : K3 kind) {ρ : Type} (k : Int → List Int → List Int → Int → Int → Option ρ) : P.ab7 kind k = k kind (blx kind) [] 0 0 := by
 rw [P.awn]; unfold P.ald
 rw [bbv h, jr, qx]
theorem afv {kind : Int} (h : K3 kind) {ρ : Type} (k : Int → List Int → List Int → Int → Int → Option ρ) : P.afv kind k = k kind (blx kind) [] 0 0 := by
 rw [P.awf]; unfold P.alq blx
 rcases h with rfl | rfl | rfl
 ·rw [bq (by rfl)]; rfl
 ·rw [ak (by decide), bq (by rfl)]; rfl
 ·rw [ak (by decide), ak (by decide), bq (by rfl)]; rfl
theorem bhs (kind : Int) : 0 < bsz kind := by rcases ano kind with ⟨h, e⟩ | ⟨h, e⟩ <;> omega
def boj (kind : Int) (b : List Int) : List Int := biw kind (auh kind (blx kind) b) (rest (bsz kind) b) b.length
theorem axu (b : List Int) (hn : b.length ≤ 1000000) : IntKind.u64.wrap ((0 : Int) + IntKind.u64.wrap (b.length : Int)) = ((b.length : Nat) : Int) := by
 rw [acg _ (by omega), Int.zero_add, acg _ (by omega)]
theorem afc {kind : Int} (h : K3 kind) (b : List Int) (hb : In 256 b) (hn : b.length ≤ 1000000) {ρ : Type} (k : List Int → Int → Option ρ) : P.afc kind b k = k (boj kind b) 0 := by
 rw [P.awm]; unfold P.ale
 have hw := bbh kind
 have hr := ahs _ (bhs kind) b
 have hlt := Nat.mod_lt b.length (bhs kind)
 rw [afv h, bg (by rfl), aa0 kind _ [] _ b hw In.nil hb (by simpa using hn), List.nil_append, axu b hn, afj kind _ _ _ (ai6 _ _ _) (ak4 hb) (by omega) (by omega)]
 rfl
theorem bmh (kind : Int) (b : List Int) : In 256 (boj kind b) := boc _ _ _ _
theorem bjh (kind : Int) (b : List Int) : (boj kind b).length = if kind = 1 then 32 else if kind = 2 then 48 else 64 := blb _ _ _ _
end Q
end

section
/- SHA-2: bytes that are added one behind the other. -/
namespace Q
open Go Go.Abs
set_option linter.unusedVariables false
set_option linter.unusedSimpArgs false
theorem avv {w : Nat} (p : Par w) (v : List (BitVec w)) (a b : List Int) (m : Nat) (hm : (2 * w) * m = a.length) : ∀ i, thr p v (a ++ b) (m + i) = thr p (thr p v a m) b i ∧ thr p v (a ++ b) m = thr p v a m := by
 have key : ∀ i, i ≤ m → thr p v (a ++ b) i = thr p v a i := by
  intro i
  induction i with
  | zero => intro _; rfl
  | succ i ih =>
   intro hi
   have h1 : (2 * w) * i + 2 * w ≤ a.length := by
    rw [← hm, ← Nat.mul_succ]
    exact Nat.mul_le_mul (Nat.le_refl _) hi
   simp only [thr]
   rw [ih (by omega), List.drop_append_of_le_length (by omega), List.take_append_of_le_length (by rw [List.length_drop]; omega)]
 intro i
 refine ⟨?_, key m (Nat.le_refl _)⟩
 induction i with
 | zero => exact key m (Nat.le_refl _)
 | succ i ih =>
  rw [← Nat.add_assoc]
  simp only [thr]
  rw [ih, Nat.mul_add, hm, List.drop_append, List.drop_eq_nil_of_le (by omega), List.nil_append, Nat.add_sub_cancel_left]
theorem bn2 (words all : List Int) : auh 1 words all = cv (thr p32 (toV 32 words) all (all.length / 64)) := if_pos rfl
theorem bld (words a b : List Int) : auh 1 (auh 1 words a) (rest 64 a ++ b) = auh 1 words (a ++ b) := by
 have hlen := ajo p32 (toV 32 words) (aj1 _ _) a (a.length / 64)
 rw [bn2, bn2, bn2, brd _ hlen]
 have h0 : a = a.take (64 * (a.length / 64)) ++ rest 64 a := by unfold rest; rw [List.take_append_drop]
 have h1 : (a.take (64 * (a.length / 64))).length = 64 * (a.length / 64) := by rw [List.length_take]; omega
 have h2 := ahs 64 (by omega) a
 have e1 := avv p32 (toV 32 words) (a.take (64 * (a.length / 64))) (rest 64 a ++ b) (a.length / 64) h1.symm ((rest 64 a ++ b).length / 64)
 have e2 := avv p32 (toV 32 words) (a.take (64 * (a.length / 64))) (rest 64 a) (a.length / 64) h1.symm 0
 rw [← List.append_assoc, ← h0] at e1
 rw [← h0] at e2
 rw [e2.2, ← e1.1]
 congr 2
 rw [List.length_append, List.length_append, h2]
 omega
theorem bjn (a b : List Int) : rest 64 (rest 64 a ++ b) = rest 64 (a ++ b) := by
 have h2 := ahs 64 (by omega) a
 have h3 : (a ++ b).drop (64 * (a.length / 64)) = rest 64 a ++ b := by unfold rest; rw [List.drop_append_of_le_length (by omega)]
 have hl : (rest 64 a ++ b).length = a.length % 64 + b.length := by rw [List.length_append, h2]
 have hq : (a ++ b).length / 64 = a.length / 64 + (rest 64 a ++ b).length / 64 := by
  rw [hl, List.length_append]; omega
 show (rest 64 a ++ b).drop (64 * ((rest 64 a ++ b).length / 64)) = (a ++ b).drop (64 * ((a ++ b).length / 64))
 rw [hq, Nat.mul_add, ← List.drop_drop, h3]
theorem bi4 (a b : List Int) (n : Nat) (hn : n = (a ++ b).length) : biw 1 (auh 1 (auh 1 (blx 1) a) (rest 64 a ++ b)) (rest 64 (rest 64 a ++ b)) n = boj 1 (a ++ b) := by
 rw [bld, bjn, hn]
 rfl
end Q
end

section
/- lmots: the digits as the program and as the document count them. -/
namespace Q
open Go Go.Abs
set_option linter.unusedVariables false
set_option linter.unusedSimpArgs false
theorem ny {w p s : Nat} (h : Kind w p s) : ∃ t : Int, ∀ {ρ : Type} (k : Int → Int → Int → Option ρ), P.ny (w : Int) k = k (p : Int) (s : Int) t := by
 rcases h with ⟨rfl, rfl, rfl⟩ | ⟨rfl, rfl, rfl⟩ | ⟨rfl, rfl, rfl⟩ | ⟨rfl, rfl, rfl⟩ 
 ·exact ⟨1, fun k => by rw [P.aa4]; kernel_rfl⟩
 ·exact ⟨2, fun k => by rw [P.aa4]; kernel_rfl⟩
 ·exact ⟨3, fun k => by rw [P.aa4]; kernel_rfl⟩
 ·exact ⟨4, fun k => by rw [P.aa4]; kernel_rfl⟩
theorem l6 {w p s : Nat} (h : Kind w p s) : ∃ t : Int, ∀ {ρ : Type} (k : Int → Int → Int → Bool → Option ρ), P.l6 (w : Int) k = k (p : Int) (s : Int) t true := by
 rcases h with ⟨rfl, rfl, rfl⟩ | ⟨rfl, rfl, rfl⟩ | ⟨rfl, rfl, rfl⟩ | ⟨rfl, rfl, rfl⟩ 
 ·exact ⟨1, fun k => by rw [P.aah]; kernel_rfl⟩
 ·exact ⟨2, fun k => by rw [P.aah]; kernel_rfl⟩
 ·exact ⟨3, fun k => by rw [P.aah]; kernel_rfl⟩
 ·exact ⟨4, fun k => by rw [P.aah]; kernel_rfl⟩
theorem ayj (w : Int) : (∃ n p s : Nat, w = (n : Int) ∧ Kind n p s) ∨ (w ≠ 1 ∧ w ≠ 2 ∧ w ≠ 4 ∧ w ≠ 8) := by
 by_cases h1 : w = 1
 ·exact .inl ⟨1, 265, 7, h1, by simp [Kind]⟩
 ·by_cases h2 : w = 2
  ·exact .inl ⟨2, 133, 6, h2, by simp [Kind]⟩
  ·by_cases h4 : w = 4
   ·exact .inl ⟨4, 67, 4, h4, by simp [Kind]⟩
   ·by_cases h8 : w = 8
    ·exact .inl ⟨8, 34, 0, h8, by simp [Kind]⟩
    ·exact .inr ⟨h1, h2, h4, h8⟩
theorem bb8 {w : Int} (h : w ≠ 1 ∧ w ≠ 2 ∧ w ≠ 4 ∧ w ≠ 8) {ρ : Type} (k : Int → Int → Int → Option ρ) : P.ny w k = k 0 0 0 := by
 rw [P.aa4]; unfold P.af5
 rw [ak h.1, ak h.2.1, ak h.2.2.1, ak h.2.2.2]
theorem aya {w p s : Nat} (h : Kind w p s) : ((p : Int) == 0) = false := by
 rcases h with ⟨rfl, rfl, rfl⟩ | ⟨rfl, rfl, rfl⟩ | ⟨rfl, rfl, rfl⟩ | ⟨rfl, rfl, rfl⟩ <;> rfl
theorem bl8 {w p s : Nat} (h : Kind w p s) : IntKind.i64.wrap (Int.tdiv (256 : Int) (w : Int)) = ((256 / w : Nat) : Int) := by
 rcases h with ⟨rfl, rfl, rfl⟩ | ⟨rfl, rfl, rfl⟩ | ⟨rfl, rfl, rfl⟩ | ⟨rfl, rfl, rfl⟩ <;> rfl
theorem bcs {w : Nat} {b : List Int} (hb : In (2 ^ w) b) (t : Nat) : ∃ x : Nat, b.getD t 0 = (x : Int) ∧ x < 2 ^ w := by
 have hp : ((2 : Int) ^ w) = ((2 ^ w : Nat) : Int) := by simp
 have := hb.getD t (by rw [hp]; have := p2 w; omega)
 rw [hp] at this
 exact ⟨(b.getD t 0).toNat, by omega, by omega⟩
theorem blr {w p s : Nat} (hk : Kind w p s) (x : List Int) (i : Nat) : sumTo (qy x w ((256 / w : Nat) : Int)) i ≤ i * (2 ^ w - 1) := sumTo_le _ w (an3 x w _) i
theorem aou {w p s : Nat} (hk : Kind w p s) (x : List Int) (hx : In 256 x) (hl : x.length = 32) {ρ : Type} (k : List Int → Int → Option ρ) : P.yu (w : Int) x k = k (boq w p s x) 0 := by
 obtain ⟨t, ht⟩ := l6 hk
 obtain ⟨f1, f2, f3, f4, f5, f6, f7, f8, f9, f10, f11⟩ := adq hk
 rw [P.aj3]
 unfold P.aes
 have hn : (qy x w ((256 / w : Nat) : Int)).length = 256 / w := by
  rw [adj x w _ f1 (by omega) (by omega)]; simp
 rw [ht, jr, qx, bg (by omega), bf (by omega), bl8 hk, rz _ _ _ hx (by omega), bf (by omega), hn]
 have hm : IntKind.u64.wrap (((256 / w : Nat) : Int)) = ((256 / w : Nat) : Int) := acg _ (by omega)
 simp only [toNat_cast]
 rw [hm, bf1 w (by omega), ← Int.natCast_mul, acg _ (by omega), P.an2]
 unfold P.ajt P.btj P.br9 P.bu3
 refine ug (fun i => ((w : Int), ((256 / w * (2 ^ w - 1) - sumTo (qy x w ((256 / w : Nat) : Int)) i : Nat) : Int), ((256 / w : Nat) : Int), (i : Int), (p : Int), (s : Int), t, qy x w ((256 / w : Nat) : Int))) (256 / w) (by simp [sumTo]) (fun i hi next hn' => ?_) (fun next => ?_) (by omega)
 ·obtain ⟨d, hd, hd2⟩ := bcs (w := w) (an3 x w ((256 / w : Nat) : Int)) i
  have hle := blr hk x (i + 1)
  have hle2 : (i + 1) * (2 ^ w - 1) ≤ 256 / w * (2 ^ w - 1) := Nat.mul_le_mul hi (Nat.le_refl _)
  simp only [sumTo, hd, Int.toNat_natCast] at hn' hle
  simp only [P.afi, toNat_cast]
  rw [hd, acg d (by omega), show ((256 / w * (2 ^ w - 1) - sumTo (qy x w ((256 / w : Nat) : Int)) i : Nat) : Int) - (d : Int) = ((256 / w * (2 ^ w - 1) - (sumTo (qy x w ((256 / w : Nat) : Int)) i + d) : Nat) : Int) by omega, acg _ (by omega)]
  simp (disch := omega) only [ah, bf, d9, bg, bq, ak, jr, qx, vk, oq, hn]
  exact hn'
 ·simp only [P.afi]
  have hleft : (256 / w * (2 ^ w - 1) - sumTo (qy x w ((256 / w : Nat) : Int)) (256 / w)) * 2 ^ s = left w s x := rfl
  have hlt := bgz hk x
  have hn2 : (qy (bsw 8 2 (left w s x)).reverse w ((p - 256 / w : Nat) : Int)).length = p - 256 / w := by
   rw [adj _ w _ f1 (by omega) (by rw [Nat.sub_mul, Nat.mul_comm p w, f5]; simp; omega)]; simp
  rw [bf (by omega), bf (by omega)]
  simp only [toNat_cast]
  rw [mul_pow _ s 64 (by omega), hleft, acg _ (by omega), show (2 : Int) = ((2 : Nat) : Int) from rfl, ni _ 2 (by omega) (by omega), hn, oq (by omega) (by omega), show (p : Int) - ((256 / w : Nat) : Int) = ((p - 256 / w : Nat) : Int) by omega,
   rz _ _ _ (ayy 8 2 _).rev (by simp), hn2, ah (by omega)]
  unfold boq
  rw [bfm hk x _ hl (by simp)]
theorem ar0 {w p s : Nat} (hk : Kind w p s) (x : List Int) (hx : In 256 x) (hl : x.length = 32) {ρ : Type} (k : List Int → Int → Option ρ) : P.abk (w : Int) x k = k (boq w p s x) 0 := by
 obtain ⟨t, ht⟩ := ny hk
 obtain ⟨f1, f2, f3, f4, f5, f6, f7, f8, f9, f10, f11⟩ := adq hk
 rw [P.ant]
 unfold P.agt
 have hn : (qy x w ((256 / w : Nat) : Int)).length = 256 / w := by
  rw [adj x w _ f1 (by omega) (by omega)]; simp
 rw [ht, aya hk, vk, bg (by omega), bf (by omega), bl8 hk, vv _ _ _ hx (by omega), P.aq3]
 unfold P.am6 P.bs4 P.bpt P.byb
 refine ug (fun i => ((w : Int), x, (p : Int), (s : Int), ((i * (2 ^ w - 1) - sumTo (qy x w ((256 / w : Nat) : Int)) i : Nat) : Int), (i : Int), qy x w ((256 / w : Nat) : Int))) (256 / w) (by simp [sumTo]) (fun i hi next hn' => ?_) (fun next => ?_) (by omega)
 ·obtain ⟨d, hd, hd2⟩ := bcs (w := w) (an3 x w ((256 / w : Nat) : Int)) i
  have hle := blr hk x i
  have hle2 : (i + 1) * (2 ^ w - 1) ≤ 256 / w * (2 ^ w - 1) := Nat.mul_le_mul hi (Nat.le_refl _)
  have hs : (i + 1) * (2 ^ w - 1) = i * (2 ^ w - 1) + (2 ^ w - 1) := Nat.succ_mul i _
  simp only [sumTo, hd, Int.toNat_natCast] at hn'
  simp only [P.ah7, toNat_cast]
  rw [bf1 w (by omega), hd, acg d (by omega), ← Int.natCast_add, acg _ (by omega), show ((i * (2 ^ w - 1) - sumTo (qy x w ((256 / w : Nat) : Int)) i + (2 ^ w - 1) : Nat) : Int) - (d : Int) = (((i + 1) * (2 ^ w - 1) - (sumTo (qy x w ((256 / w : Nat) : Int)) i + d) : Nat) : Int) by omega, acg _ (by omega)]
  simp (disch := omega) only [ah, bf, d9, bg, bq, ak, jr, qx, vk, oq, hn]
  exact hn'
 ·simp only [P.ah7]
  have hleft : (256 / w * (2 ^ w - 1) - sumTo (qy x w ((256 / w : Nat) : Int)) (256 / w)) * 2 ^ s = left w s x := rfl
  have hlt := bgz hk x
  have hf : [x, (bsw 8 2 (left w s x)).reverse].flatten = x ++ (bsw 8 2 (left w s x)).reverse := by simp
  rw [bf (by rw [hn]; omega), bf (by omega)]
  simp only [toNat_cast]
  rw [mul_pow _ s 64 (by omega), hleft, acg _ (by omega), show (2 : Int) = ((2 : Nat) : Int) from rfl, j5 _ 2 (by omega) (by omega), qg _ (by simp) (by rw [hf]; simp; omega), hf, vv _ _ _ (hx.app (ayy 8 2 _).rev) (by simp; omega)]
  rfl
theorem je {w p s : Nat} (hk : Kind w p s) {ρ : Type} (k : Int → Option ρ) : P.je (w : Int) k = k ((36 + 32 * p : Nat) : Int) := by
 obtain ⟨t, ht⟩ := l6 hk
 obtain ⟨f1, f2, f3, f4, f5, f6, f7, f8, f9, f10, f11⟩ := adq hk
 rw [P.aod]; unfold P.agx
 rw [ht, jr, qx, oq (x := (32 : Int) * (p : Int)) (by omega) (by omega), oq (by omega) (by omega)]; rfl
theorem qp {w p s : Nat} (hk : Kind w p s) {ρ : Type} (k : Int → Option ρ) : P.qp (w : Int) k = k ((36 + 32 * p : Nat) : Int) := by
 obtain ⟨t, ht⟩ := ny hk
 obtain ⟨f1, f2, f3, f4, f5, f6, f7, f8, f9, f10, f11⟩ := adq hk
 rw [P.al3]; unfold P.af4
 rw [ht, aya hk, vk, oq (x := (32 : Int) * (p : Int)) (by omega) (by omega), oq (by omega) (by omega)]; rfl
theorem bcx {w : Int} (h : w ≠ 1 ∧ w ≠ 2 ∧ w ≠ 4 ∧ w ≠ 8) {ρ : Type} (k : Int → Option ρ) : P.qp w k = k 0 := by
 rw [P.al3]; unfold P.af4
 rw [bb8 h]; kernel_rfl
theorem bku {w p s : Nat} (hk : Kind w p s) (x : List Int) (hl : x.length = 32) : (boq w p s x).length = p := by
 obtain ⟨f1, f2, f3, f4, f5, f6, f7, f8, f9, f10, f11⟩ := adq hk
 unfold boq
 rw [adj _ w p f1 (by omega) (by rw [Nat.mul_comm, f5]; simp; omega)]; simp
end Q
end

section
/- lmots: sums of a leaf. -/
namespace Q
open Go Go.Abs
set_option linter.unusedVariables false
set_option linter.unusedSimpArgs false
def beN (n s : Nat) : List Int := (bsw 8 s n).reverse
theorem ayf (n s : Nat) : (beN n s).length = s := by simp [beN]
theorem agn (n s : Nat) : In 256 (beN n s) := (ayy 8 s n).rev
def bbc (id : List Int) (q n : Nat) (l : List (List Int)) : List Int := boj 1 ((id ++ (beN q 4 ++ beN n 2)) ++ l.flatten)
theorem ahy (id : List Int) (q n : Nat) (l : List (List Int)) : (bbc id q n l).length = 32 := by
 unfold bbc; rw [bjh, if_pos rfl]
theorem aoj (id : List Int) (q n : Nat) (l : List (List Int)) : In 256 (bbc id q n l) := bmh _ _
theorem bdr (a b : Nat) (h : a + b ≤ 1000000) : IntKind.u64.wrap (((a : Nat) : Int) + IntKind.u64.wrap ((b : Nat) : Int)) = ((a + b : Nat) : Int) := by
 rw [acg _ (by omega), ← Int.natCast_add, acg _ (by omega)]
theorem ax9 (w : Int) (id : List Int) (q n : Nat) (d s c : Int) (l : List (List Int)) (hid : In 256 id) (h16 : id.length ≤ 300) (hq : q < 4294967296) (hn : n < 18446744073709551616) (hl : In 256 l.flatten) (hc : l.length ≤ 1000000) (hb : l.flatten.length ≤ 900000) {ρ : Type} (k : List Int → Option ρ) :
    P.jv w id (q : Int) d s c (n : Int) l k = k (bbc id q n l) := by
 rw [P.ahf]; unfold P.acy
 have hw := bbh 1
 have hf : [id, (bsw 8 4 q).reverse, (bsw 8 2 n).reverse].flatten = id ++ (beN q 4 ++ beN n 2) := by simp [beN]
 have hlen : (id ++ (beN q 4 ++ beN n 2)).length = id.length + 6 := by simp [ayf]
 have hin : In 256 (id ++ (beN q 4 ++ beN n 2)) := hid.app ((agn _ _).app (agn _ _))
 have hr := ahs 64 (by omega) (id ++ (beN q 4 ++ beN n 2))
 have hr2 := ahs 64 (by omega) (rest 64 (id ++ (beN q 4 ++ beN n 2)) ++ l.flatten)
 have hlt := Nat.mod_lt (rest 64 (id ++ (beN q 4 ++ beN n 2)) ++ l.flatten).length (show 0 < 64 by omega)
 rw [ab7 (.inl rfl), acg _ (by omega), show (4 : Int) = ((4 : Nat) : Int) from rfl, ni q 4 (by omega) (by omega), show (2 : Int) = ((2 : Nat) : Int) from rfl, ni n 2 hn (by omega), jq _ (by simp) (by rw [hf]; omega), hf,
  vw 1 _ [] _ _ hw.1 hw.2.1 In.nil hin (by rw [hlen, List.length_nil]; omega), List.nil_append, axu _ (by omega), show bsz 1 = 64 from rfl, jq l (by omega) (by omega),
  vw 1 _ _ _ _ (anz _ _ _) (ai6 _ _ _).2.1 (ak4 hin) hl (by omega), show bsz 1 = 64 from rfl, bdr _ _ (by omega), ab4 1 _ _ _ (anz _ _ _) (ai6 _ _ _).2.1 (ak4 ((ak4 hin).app hl)) (by rw [hr2]; exact hlt),
  bi4 _ _ _ (by simp only [List.length_append])]
 rfl
theorem H14 (l : List (List Int)) (hl : In 256 l.flatten) (hc : l.length ≤ 1000000) (hb : l.flatten.length ≤ 1000000) {ρ : Type} (k : List Int → Option ρ) : P.af0 l k = k (boj 1 l.flatten) := by
 rw [P.ben]; unfold P.arp
 rw [qg l (by omega) (by omega), afc (.inl rfl) _ hl hb]
theorem amu (id : List Int) (q n : Nat) (l : List (List Int)) (hid : In 256 id) (h16 : id.length ≤ 300) (hl : In 256 l.flatten) (hc : l.length ≤ 900000) (hb : l.flatten.length ≤ 900000) {ρ : Type} (k : List Int → Option ρ) :
    P.af0 (id :: (bsw 8 4 q).reverse :: (bsw 8 2 n).reverse :: l) k = k (bbc id q n l) := by
 have hf : (id :: (bsw 8 4 q).reverse :: (bsw 8 2 n).reverse :: l).flatten = (id ++ (beN q 4 ++ beN n 2)) ++ l.flatten := by simp [beN]
 have hlen : (id ++ (beN q 4 ++ beN n 2)).length = id.length + 6 := by simp [ayf]
 rw [H14 _ (by rw [hf]; exact (hid.app ((agn _ _).app (agn _ _))).app hl) (by simp only [List.length_cons]; omega) (by rw [hf, List.length_append, hlen]; omega), hf]
 rfl
def chS (id : List Int) (q i f : Nat) (y : List Int) : Nat → List Int
 | 0 => y
 | j + 1 => bbc id q i [[((f + j : Nat) : Int)], chS id q i f y j]
theorem bcm (id : List Int) (q i f : Nat) (y : List Int) (hy : y.length = 32) : ∀ j, (chS id q i f y j).length = 32
 | 0 => hy
 | j + 1 => ahy _ _ _ _
theorem bh2 (id : List Int) (q i f : Nat) (y : List Int) (hy : In 256 y) : ∀ j, In 256 (chS id q i f y j)
 | 0 => hy
 | j + 1 => aoj _ _ _ _
theorem bl9 {b : Int} {y : List Int} (hb : 0 ≤ b ∧ b < 256) (hy : In 256 y) : In 256 [[b], y].flatten := by
 have e : [[b], y].flatten = [b] ++ y := by simp
 rw [e]
 refine In.app ?_ hy
 intro x hx
 simp only [List.mem_singleton] at hx
 subst hx; exact hb
theorem bf4 (b : Int) (y : List Int) : [[b], y].flatten.length = y.length + 1 := by simp
theorem bfb (w : Int) (id : List Int) (q i f n : Nat) (d s c : Int) (y : List Int) (hid : In 256 id) (h16 : id.length ≤ 300) (hq : q < 4294967296) (hi : i < 100000) (hf : f + n ≤ 256) (hy : In 256 y) (hyl : y.length = 32) {ρ : Type} (k : List Int → Option ρ) :
    P.o8 w id (q : Int) d s c (i : Int) (f : Int) (n : Int) y k = k (chS id q i f y n) := by
 rw [P.afa]; unfold P.ab0
 rw [P.ai1]
 unfold P.afm P.bsr P.bp3 P.bxw
 refine ug (fun j => ((i : Int), (f : Int), chS id q i f y j, (n : Int), (j : Int), w, id, (q : Int), d, s, c)) n rfl (fun j hj next hn' => ?_) (fun next => ?_) (by omega)
 ·simp only [P.ace]
  have e1 : IntKind.u8.wrap (IntKind.u32.wrap ((f : Int) + (j : Int))) = ((f + j : Nat) : Int) := by
   rw [← Int.natCast_add, bcv _ (by omega), u8n _ (by omega)]
  have e2 : IntKind.u32.wrap ((j : Int) + 1) = ((j + 1 : Nat) : Int) := by rw [show ((j : Int) + 1) = ((j + 1 : Nat) : Int) by omega, bcv _ (by omega)]
  have hl := bcm id q i f y hyl j
  rw [ah (by omega), acg _ (by omega), e1, e2, ax9 w id q i d s c _ hid h16 hq (by omega) (bl9 (by omega) (bh2 _ _ _ _ _ hy _)) (by simp) (by rw [bf4]; omega)]
  exact hn'
 ·simp only [P.ace]
  rw [bf (by omega)]
theorem bm8 (id : List Int) (q i f t : Nat) (y : List Int) (hid : In 256 id) (h16 : id.length ≤ 300) (hq : q < 4294967296) (hi : i < 100000) (hft : f ≤ t) (ht : t ≤ 256) (hy : In 256 y) (hyl : y.length = 32) {ρ : Type} (k : List Int → Option ρ) :
    P.ac3 id (q : Int) (i : Int) (f : Int) (t : Int) y k = k (chS id q i f y (t - f)) := by
 rw [P.aqm]; unfold P.ahx
 rw [P.arl]
 unfold P.apy P.bs2 P.bq8 P.byc
 refine ug (fun j => (id, (q : Int), (i : Int), (t : Int), chS id q i f y j, ((f + j : Nat) : Int))) (t - f) rfl (fun j hj next hn' => ?_) (fun next => ?_) (by omega)
 ·simp only [P.ajj]
  have e1 : IntKind.u8.wrap ((f + j : Nat) : Int) = ((f + j : Nat) : Int) := u8n _ (by omega)
  have e2 : IntKind.i64.wrap (((f + j : Nat) : Int) + 1) = ((f + (j + 1) : Nat) : Int) := by rw [oq (by omega) (by omega)]; omega
  have hl := bcm id q i f y hyl j
  rw [ah (by omega), acg _ (by omega), acg _ (by omega), e1, e2, show (4 : Int) = ((4 : Nat) : Int) from rfl, j5 q 4 (by omega) (by omega), show (2 : Int) = ((2 : Nat) : Int) from rfl, j5 i 2 (by omega) (by omega), amu id q i [[((f + j : Nat) : Int)], chS id q i f y j] hid h16 (bl9 (by omega) (bh2 _ _ _ _ _ hy _)) (by simp) (by rw [bf4]; omega)]
  exact hn'
 ·simp only [P.ajj]
  rw [bf (by omega)]
end Q
end

section
/- lmots: keys, signatures, and what these lead to. -/
namespace Q
open Go Go.Abs
set_option linter.unusedVariables false
set_option linter.unusedSimpArgs false
def aem (w : Nat) : Nat := if w = 1 then 1 else if w = 2 then 2 else if w = 4 then 3 else 4
theorem bnq {w p s : Nat} (h : Kind w p s) {ρ : Type} (k : Int → Int → Int → Bool → Option ρ) : P.l6 (w : Int) k = k (p : Int) (s : Int) ((aem w : Nat) : Int) true := by
 rw [P.aah]
 rcases h with ⟨rfl, rfl, rfl⟩ | ⟨rfl, rfl, rfl⟩ | ⟨rfl, rfl, rfl⟩ | ⟨rfl, rfl, rfl⟩ <;> kernel_rfl
theorem blv {w p s : Nat} (h : Kind w p s) {ρ : Type} (k : Int → Int → Int → Option ρ) : P.ny (w : Int) k = k (p : Int) (s : Int) ((aem w : Nat) : Int) := by
 rw [P.aa4]
 rcases h with ⟨rfl, rfl, rfl⟩ | ⟨rfl, rfl, rfl⟩ | ⟨rfl, rfl, rfl⟩ | ⟨rfl, rfl, rfl⟩ <;> kernel_rfl
theorem aq5 (w : Nat) : aem w < 5 := by unfold aem; split <;> (try split) <;> (try split) <;> omega
theorem blg {w p s : Nat} (h : Kind w p s) (id : List Int) (q : Int) (hl : id.length = 16) {ρ : Type} (k : Int → List Int → Int → Int → Int → Int → Int → Option ρ) : P.zx (w : Int) id q k = k (w : Int) id q (p : Int) (s : Int) ((aem w : Nat) : Int) 0 := by
 rw [P.aku]; unfold P.afe
 rw [bnq h, jr, qx, bg (by rw [hl]; rfl)]
theorem bk5 {w p s : Nat} (h : Kind w p s) (id : List Int) (q a b c : Int) {ρ : Type} (k : Int → Option ρ) : P.o7 (w : Int) id q a b c k = k ((2 ^ w - 1 : Nat) : Int) := by
 rw [P.afl]
 rcases h with ⟨rfl, rfl, rfl⟩ | ⟨rfl, rfl, rfl⟩ | ⟨rfl, rfl, rfl⟩ | ⟨rfl, rfl, rfl⟩ <;> kernel_rfl
theorem bj7 {w p s : Nat} (h : Kind w p s) : IntKind.i64.wrap (IntKind.i64.wrap ((1 : Int) * (2 : Int) ^ min ((w : Int)).toNat 64) - (1 : Int)) = ((2 ^ w - 1 : Nat) : Int) := by
 rcases h with ⟨rfl, rfl, rfl⟩ | ⟨rfl, rfl, rfl⟩ | ⟨rfl, rfl, rfl⟩ | ⟨rfl, rfl, rfl⟩ <;> rfl
theorem pw {w p s : Nat} (h : Kind w p s) : 2 ^ w ≤ 256 ∧ 1 ≤ 2 ^ w ∧ p ≤ 265 ∧ 1 ≤ p := by
 rcases h with ⟨rfl, rfl, rfl⟩ | ⟨rfl, rfl, rfl⟩ | ⟨rfl, rfl, rfl⟩ | ⟨rfl, rfl, rfl⟩ <;> decide
def aus (f : Nat → List Int) (n : Nat) : List Int := ((List.range n).map f).flatten
theorem aoy (f : Nat → List Int) (n : Nat) : aus f (n + 1) = aus f n ++ f n := by simp [aus, List.range_succ]
theorem bxg (id : List Int) (q : Nat) (l : List (List Int)) (hid : In 256 id) (h16 : id.length ≤ 300) (hq : q < 4294967296) (hl : In 256 l.flatten) (hc : l.length ≤ 1000) (hb : l.flatten.length ≤ 100000) {ρ : Type} (k : List Int → Option ρ) :
    P.ahw id (q : Int) l k = k (bbc id q 32896 [l.flatten]) := by
 rw [P.auz]; unfold P.alh
 have hf : [l.flatten].flatten = l.flatten := by simp
 rw [acg _ (by omega), show (4 : Int) = ((4 : Nat) : Int) from rfl, j5 q 4 (by omega) (by omega), show (2 : Int) = ((2 : Nat) : Int) from rfl, show (32896 : Int) = ((32896 : Nat) : Int) from rfl, j5 32896 2 (by omega) (by omega), qg l (by omega) (by omega), amu id q 32896 [l.flatten] hid h16 (by rw [hf]; exact hl) (by simp) (by rw [hf]; omega)]
theorem bde (x : List Int) : [x].flatten = x := by simp
def bkc (w p s : Nat) (id : List Int) (q : Nat) (c text : List Int) : List Int := boq w p s (bbc id q 33153 [c, text])
theorem bd8 {w p s : Nat} (h : Kind w p s) (id : List Int) (q : Nat) (c text : List Int) : (bkc w p s id q c text).length = p := bku h _ (ahy _ _ _ _)
theorem bg3 {w p s : Nat} (h : Kind w p s) (id : List Int) (q : Nat) (c text : List Int) (i : Nat) : ∃ d : Nat, (bkc w p s id q c text).getD i 0 = (d : Int) ∧ d ≤ 2 ^ w - 1 ∧ ((bkc w p s id q c text).getD i 0).toNat = d := by
 have hin : In (2 ^ w) (bkc w p s id q c text) := an3 _ _ _
 obtain ⟨d, h1, h2⟩ := bcs (w := w) hin i
 exact ⟨d, h1, by omega, by omega⟩
theorem bqx {c text : List Int} (hc : In 256 c) (ht : In 256 text) : In 256 [c, text].flatten := by
 have e : [c, text].flatten = c ++ text := by simp
 rw [e]; exact hc.app ht
theorem bll (c text : List Int) : [c, text].flatten.length = c.length + text.length := by simp
theorem bbl {w p s : Nat} (h : Kind w p s) (id : List Int) (q : Nat) (a b : Int) (cc : Int) (c text : List Int) (hid : In 256 id) (h16 : id.length = 16) (hq : q < 4294967296) (hc : In 256 c) (hcl : c.length = 32) (ht : In 256 text) (htl : text.length ≤ 300) {ρ : Type} (k : List Int → Option ρ) :
    P.lq (w : Int) id (q : Int) a b cc c text k = k (bkc w p s id q c text) := by
 rw [P.ac7]; unfold P.zy
 rw [show (33153 : Int) = ((33153 : Nat) : Int) from rfl, ax9 _ id q 33153 _ _ _ _ hid (by omega) hq (by omega) (bqx hc ht) (by simp) (by rw [bll]; omega), aou h _ (aoj _ _ _ _) (ahy _ _ _ _)]
 rfl
theorem bj6 (id : List Int) (q : Nat) (c text : List Int) (hid : In 256 id) (h16 : id.length = 16) (hq : q < 4294967296) (hc : In 256 c) (hcl : c.length = 32) (ht : In 256 text) (htl : text.length ≤ 300) {ρ : Type} (k : List Int → Option ρ) :
    P.abv id (q : Int) c text k = k (bbc id q 33153 [c, text]) := by
 rw [P.anj]; unfold P.ag6
 rw [acg _ (by omega), show (4 : Int) = ((4 : Nat) : Int) from rfl, j5 q 4 (by omega) (by omega), show (2 : Int) = ((2 : Nat) : Int) from rfl, show (33153 : Int) = ((33153 : Nat) : Int) from rfl, j5 33153 2 (by omega) (by omega), amu id q 33153 [c, text] hid (by omega) (bqx hc ht) (by simp) (by rw [bll]; omega)]
end Q
end

section
/- lmots: what a signature leads to. -/
namespace Q
open Go Go.Abs
set_option linter.unusedVariables false
set_option linter.unusedSimpArgs false
def ade (w p s : Nat) (id : List Int) (q : Nat) (text sig : List Int) (i : Nat) : List Int :=
 chS id q i ((bkc w p s id q ((sig.take 36).drop 4) text).getD i 0).toNat ((sig.drop (36 + 32 * i)).take 32) (2 ^ w - 1 - ((bkc w p s id q ((sig.take 36).drop 4) text).getD i 0).toNat)
def bn7 (w p s : Nat) (id : List Int) (q : Nat) (text sig : List Int) : List Int := bbc id q 32896 [aus (ade w p s id q text sig) p]
theorem ao6 (f : Nat → List Int) : ∀ n, (∀ i, i < n → (f i).length = 32) → (aus f n).length = 32 * n
 | 0, _ => by simp [aus]
 | n + 1, h => by rw [aoy, List.length_append, ao6 f n (fun i hi => h i (by omega)), h n (by omega)]; omega
theorem aty (f : Nat → List Int) : ∀ n, (∀ i, i < n → In 256 (f i)) → In 256 (aus f n)
 | 0, _ => by simp [aus, In]
 | n + 1, h => by rw [aoy]; exact (aty f n (fun i hi => h i (by omega))).app (h n (by omega))
theorem al8 {w p s : Nat} (id : List Int) (q : Nat) (text sig : List Int) (hsl : sig.length = 36 + 32 * p) (i : Nat) (hi : i < p) : (ade w p s id q text sig i).length = 32 := by
 unfold ade
 refine bcm _ _ _ _ _ ?_ _
 rw [List.length_take, List.length_drop]; omega
theorem awc {w p s : Nat} (id : List Int) (q : Nat) (text sig : List Int) (hs : In 256 sig) (i : Nat) : In 256 (ade w p s id q text sig i) := bh2 _ _ _ _ _ ((hs.drop _).take _) _
theorem bab {w p s : Nat} (h : Kind w p s) (id : List Int) (q : Nat) (text sig : List Int) (hid : In 256 id) (hq : q < 4294967296) (hl : id.length = 16) (ht : In 256 text) (htl : text.length ≤ 300) (hs : In 256 sig) (hsl : sig.length = 36 + 32 * p) (hcode : T 8 (sig.take 4).reverse = aem w) {ρ : Type} (k : List Int → Int → Option ρ) :
    P.jl (w : Int) id (q : Int) text sig k = k (bn7 w p s id q text sig) 0 := by
 rw [P.agc]; unfold P.acd
 obtain ⟨f1, f2, f3, f4⟩ := pw h
 have hcd := aq5 w
 have hcl : ((sig.take 36).drop 4).length = 32 := by rw [List.length_drop, List.length_take]; omega
 have hdl := bd8 h id q ((sig.take 36).drop 4) text
 have hce := fun i (hi : i ≤ p) => ao6 (ade w p s id q text sig) i (fun j hj => al8 id q text sig hsl j (by omega))
 simp only [show (4 : Int).toNat = 4 from rfl, show (36 : Int).toNat = 36 from rfl, show (32 : Int).toNat = 32 from rfl, List.drop_zero, toNat_cast]
 have hnum : ((T 8 (sig.take 4).reverse % 2 ^ 64 : Nat) : Int) = ((aem w : Nat) : Int) := by rw [hcode]; omega
 rw [blg h id q hl, bg (by rfl), je h, bg (by rw [hsl]), ah (by omega), iy _ (hs.take 4) (by rw [List.length_take]; omega), hnum, acg _ (by omega), bg (by rfl), ah (by omega), ah (by omega), ah (by omega),
  bbl h id q _ _ _ _ text hid hl hq ((hs.take 36).drop 4) hcl ht htl, hdl, List.take_of_length_le (show sig.length ≤ sig.length by omega), P.ajx]
 unfold P.af7 P.btl P.bpe P.byv
 refine ug (fun i => (sig.drop (36 + 32 * i), (p : Int), (i : Int), aus (ade w p s id q text sig) i, (w : Int), id, (q : Int), (p : Int), (s : Int), ((aem w : Nat) : Int), bkc w p s id q ((sig.take 36).drop 4) text)) p rfl (fun i hi next hn' => ?_) (fun next => ?_) (by omega)
 ·simp only [P.ac0, toNat_cast, show (32 : Int).toNat = 32 from rfl, List.drop_zero]
  rw [aoy] at hn'
  have e3 : IntKind.i64.wrap ((i : Int) + 1) = ((i + 1 : Nat) : Int) := by rw [oq (by omega) (by omega)]; omega
  obtain ⟨d, d1, d2, d3⟩ := bg3 h id q ((sig.take 36).drop 4) text i
  have hse : ade w p s id q text sig i = chS id q i d ((sig.drop (36 + 32 * i)).take 32) (2 ^ w - 1 - d) := by unfold ade; rw [d3]
  have hrl : (sig.drop (36 + 32 * i)).length = 32 * (p - i) := by rw [List.length_drop]; omega
  have htk : ((sig.drop (36 + 32 * i)).take 32).length = 32 := by rw [List.length_take]; omega
  have hcl2 := al8 (w := w) (s := s) id q text sig hsl i hi
  rw [hse] at hn' hcl2
  rw [ah (by omega), ah (by omega), ah (by rw [hdl]; omega), bk5 h, ah (by omega), d1, show ((2 ^ w - 1 : Nat) : Int) - (d : Int) = ((2 ^ w - 1 - d : Nat) : Int) by omega, bcv _ (by omega),
   bfb _ id q i d (2 ^ w - 1 - d) _ _ _ _ hid (by omega) hq (by omega) (by omega) ((hs.drop _).take _) htk, e3]
  rw [ah (by rw [hce i (by omega), hcl2]; omega), ah (by omega), ah (by omega), List.take_of_length_le (Nat.le_refl _), List.drop_drop, show 36 + 32 * i + 32 = 36 + 32 * (i + 1) by omega]
  exact hn'
 ·simp only [P.ac0]
  have he := hce p (Nat.le_refl _)
  rw [bf (by omega), show (32896 : Int) = ((32896 : Nat) : Int) from rfl, ax9 _ id q 32896 _ _ _ _ hid (by omega) hq (by omega) (by rw [bde]; exact aty _ p (fun i _ => awc id q text sig hs i)) (by simp) (by rw [bde]; omega)]
  rfl
theorem aiu {w p s : Nat} (h : Kind w p s) (id : List Int) (q : Nat) (text sig : List Int) (hid : In 256 id) (hq : q < 4294967296) (hl : id.length = 16) (ht : In 256 text) (htl : text.length ≤ 300) (hs : In 256 sig) (hsl : sig.length = 36 + 32 * p) (hcode : T 8 (sig.take 4).reverse = aem w) {ρ : Type} (k : List Int → Int → Option ρ) :
    P.u6 (w : Int) id (q : Int) text sig k = k (bn7 w p s id q text sig) 0 := by
 rw [P.aiv]; unfold P.adr
 obtain ⟨f1, f2, f3, f4⟩ := pw h
 have hcd := aq5 w
 have hcl : ((sig.take 36).drop 4).length = 32 := by rw [List.length_drop, List.length_take]; omega
 have hdl := bd8 h id q ((sig.take 36).drop 4) text
 simp only [show (4 : Int).toNat = 4 from rfl, show (36 : Int).toNat = 36 from rfl, List.drop_zero]
 have hnum : ((T 8 (sig.take 4).reverse % 2 ^ 64 : Nat) : Int) = ((aem w : Nat) : Int) := by rw [hcode]; omega
 rw [blv h, aya h, vk, bg (by rw [hl]; rfl), qp h, bg (by rw [hsl]), ah (by omega), oh _ (hs.take 4) (by rw [List.length_take]; omega), hnum, bg (by rfl), ah (by omega),
  bj6 id q _ text hid hl hq ((hs.take 36).drop 4) hcl ht htl, ar0 h _ (aoj _ _ _ _) (ahy _ _ _ _), P.akk]
 unfold P.ahj P.bsk P.bp9 P.bu7
 refine ug (fun i => ((w : Int), id, (q : Int), sig, (p : Int), (i : Int), (List.range i).map (ade w p s id q text sig), bkc w p s id q ((sig.take 36).drop 4) text)) p rfl (fun i hi next hn' => ?_) (fun next => ?_) (by omega)
 ·simp only [P.ada]
  rw [List.range_succ, List.map_append, List.map_singleton] at hn'
  have e3 : IntKind.i64.wrap ((i : Int) + 1) = ((i + 1 : Nat) : Int) := by rw [oq (by omega) (by omega)]; omega
  have e36 : IntKind.i64.wrap ((36 : Int) + IntKind.i64.wrap ((32 : Int) * (i : Int))) = ((36 + 32 * i : Nat) : Int) := by rw [oq (x := (32 : Int) * (i : Int)) (by omega) (by omega), oq (by omega) (by omega)]; omega
  have e68 : IntKind.i64.wrap ((68 : Int) + IntKind.i64.wrap ((32 : Int) * (i : Int))) = ((68 + 32 * i : Nat) : Int) := by rw [oq (x := (32 : Int) * (i : Int)) (by omega) (by omega), oq (by omega) (by omega)]; omega
  obtain ⟨d, d1, d2, d3⟩ := bg3 h id q ((sig.take 36).drop 4) text i
  have hse : ade w p s id q text sig i = chS id q i d ((sig.drop (36 + 32 * i)).take 32) (2 ^ w - 1 - d) := by unfold ade; rw [d3]
  have htk : ((sig.drop (36 + 32 * i)).take 32).length = 32 := by rw [List.length_take, List.length_drop]; omega
  have hdt : (sig.take (68 + 32 * i)).drop (36 + 32 * i) = (sig.drop (36 + 32 * i)).take 32 := by
   rw [List.drop_take, show 68 + 32 * i - (36 + 32 * i) = 32 by omega]
  rw [hse] at hn'
  rw [e36, e68, e3, bj7 h]
  simp only [toNat_cast]
  rw [hdt, ah (by omega), ah (by omega), ah (by rw [hdl]; omega), bf (by omega), ah (by omega), ah (by omega), ah (by omega), d1, oq (x := (d : Int)) (by omega) (by omega), bm8 id q i d (2 ^ w - 1) _ hid (by omega) hq (by omega) (by omega) (by omega) ((hs.drop _).take _) htk,
   ah (by rw [List.length_map, List.length_range]; omega)]
  exact hn'
 ·simp only [P.ada]
  have he := ao6 (ade w p s id q text sig) p (fun j hj => al8 id q text sig hsl j (by omega))
  have hin := aty (ade w p s id q text sig) p (fun i _ => awc id q text sig hs i)
  unfold aus at he hin
  rw [bf (by omega), bxg id q _ hid (by omega) hq hin (by rw [List.length_map, List.length_range]; omega) (by omega)]
  rfl
end Q
end

section
/- lms: kinds of trees. -/
namespace Q
open Go Go.Abs
set_option linter.unusedVariables false
set_option linter.unusedSimpArgs false
def abr (h : Nat) : Nat := if 1 ≤ h ∧ h ≤ 4 then 3758096384 + h else if 5 ≤ h ∧ h ≤ 25 ∧ h % 5 = 0 then 4 + h / 5 else 0
def hOf (c : Nat) : Nat := if 3758096384 < c ∧ c ≤ 3758096388 then c - 3758096384 else if 5 ≤ c ∧ c ≤ 9 then 5 * (c - 4) else 0
def wOf (c : Nat) : Nat := if c = 1 then 1 else if c = 2 then 2 else if c = 3 then 4 else if c = 4 then 8 else 0
theorem ays (h : Nat) (h0 : abr h ≠ 0) : hOf (abr h) = h := by
 unfold abr at h0 ⊢
 split
 ·rename_i hc
  unfold hOf
  rw [if_pos (by omega)]
  omega
 ·split
  ·rename_i hc
   unfold hOf
   rw [if_neg (by omega), if_pos (by omega)]
   omega
  ·rename_i h1 h2
   rw [if_neg h1, if_neg h2] at h0
   exact absurd rfl h0
theorem aog (c : Nat) (h0 : hOf c ≠ 0) : abr (hOf c) = c ∧ 1 ≤ hOf c ∧ hOf c ≤ 25 := by
 unfold hOf at h0 ⊢
 split
 ·rename_i hc
  refine ⟨?_, by omega, by omega⟩
  unfold abr
  rw [if_pos (by omega)]
  omega
 ·split
  ·rename_i h1 h2
   refine ⟨?_, by omega, by omega⟩
   unfold abr
   rw [if_neg (by omega), if_pos (by omega)]
   omega
  ·rename_i h1 h2
   rw [if_neg h1, if_neg h2] at h0
   exact absurd rfl h0
theorem bd6 (h : Nat) : abr h < 4294967296 := by
 unfold abr; split
 ·omega
 ·split <;> omega
theorem lg (c : Nat) (hc : c < 18446744073709551616) {ρ : Type} (k : Int → Option ρ) : P.lg (c : Int) k = k ((hOf c : Nat) : Int) := by
 rw [P.aof]; unfold P.ag4
 have rest : br (decide ((c : Int) ≥ (5 : Int))) (br (decide ((c : Int) ≤ (9 : Int))) (k (IntKind.i64.wrap ((5 : Int) * IntKind.i64.wrap (IntKind.u64.wrap ((c : Int) - (4 : Int)))))) (k (0 : Int))) (k (0 : Int)) = k (((if 5 ≤ c ∧ c ≤ 9 then 5 * (c - 4) else 0) : Nat) : Int) := by
  by_cases h5 : 5 ≤ c
  ·rw [ah (by omega)]
   by_cases h9 : c ≤ 9
   ·rw [ah (by omega), if_pos ⟨h5, h9⟩, show (c : Int) - 4 = ((c - 4 : Nat) : Int) by omega, acg _ (by omega), oq (x := ((c - 4 : Nat) : Int)) (by omega) (by omega), oq (by omega) (by omega)]
    congr 1
   ·rw [bf (by omega), if_neg (by omega)]; rfl
  ·rw [bf (by omega), if_neg (by omega)]; rfl
 unfold hOf
 by_cases h1 : 3758096384 < c
 ·rw [ah (by omega)]
  by_cases h2 : c ≤ 3758096388
  ·rw [ah (by omega), if_pos ⟨h1, h2⟩, show (c : Int) - 3758096384 = ((c - 3758096384 : Nat) : Int) by omega, acg _ (by omega), oq (by omega) (by omega)]
  ·rw [bf (by omega), if_neg (by omega)]
   exact rest
 ·rw [bf (by omega), if_neg (by omega)]
  exact rest
theorem uo (h : Nat) (hh : h ≤ 100) {ρ : Type} (k : Int → Option ρ) : P.uo (h : Int) k = k ((abr h : Nat) : Int) := by
 rw [P.al4]; unfold P.agp
 have rest : br (decide ((h : Int) ≥ (5 : Int))) (br (decide ((h : Int) ≤ (25 : Int))) (br ((h : Int).tmod (5 : Int) == (0 : Int)) (k (IntKind.u64.wrap (IntKind.i64.wrap ((4 : Int) + IntKind.i64.wrap ((h : Int).tdiv (5 : Int)))))) (k (0 : Int))) (k (0 : Int))) (k (0 : Int)) =
     k (((if 5 ≤ h ∧ h ≤ 25 ∧ h % 5 = 0 then 4 + h / 5 else 0) : Nat) : Int) := by
  by_cases h5 : 5 ≤ h
  ·rw [ah (by omega)]
   by_cases h9 : h ≤ 25
   ·rw [ah (by omega), show (5 : Int) = ((5 : Nat) : Int) from rfl, tmN]
    by_cases hm : h % 5 = 0
    ·rw [bq (by omega), if_pos ⟨h5, h9, hm⟩, Int.tdiv_eq_ediv_of_nonneg (by omega), show (h : Int) / ((5 : Nat) : Int) = ((h / 5 : Nat) : Int) by omega, oq (x := ((h / 5 : Nat) : Int)) (by omega) (by omega), oq (by omega) (by omega), show (4 : Int) + ((h / 5 : Nat) : Int) = ((4 + h / 5 : Nat) : Int) by omega, acg _ (by omega)]
    ·rw [ak (by omega), if_neg (by omega)]; rfl
   ·rw [bf (by omega), if_neg (by omega)]; rfl
  ·rw [bf (by omega), if_neg (by omega)]; rfl
 unfold abr
 by_cases h1 : 1 ≤ h
 ·rw [ah (by omega)]
  by_cases h2 : h ≤ 4
  ·rw [ah (by omega), if_pos ⟨h1, h2⟩, acg _ (by omega), show (3758096384 : Int) + (h : Int) = ((3758096384 + h : Nat) : Int) by omega, acg _ (by omega)]
  ·rw [bf (by omega), if_neg (by omega)]
   exact rest
 ·rw [bf (by omega), if_neg (by omega)]
  exact rest
theorem ku (c : Nat) (hc : c < 18446744073709551616) {ρ : Type} (k : Int → Option ρ) : P.ku (c : Int) k = k ((hOf c : Nat) : Int) := by
 rw [P.am0]; unfold P.agu
 rw [P.aqu]
 unfold P.amw P.bsp P.bp1
 by_cases h0 : hOf c = 0
 ·refine ug (fun i => ((c : Int), ((i + 1 : Nat) : Int))) 25 rfl (fun i hi next hn => ?_) (fun next => ?_) (by omega)
  ·simp only [P.acv]
   rw [ah (by omega), uo _ (by omega)]
   have key : ¬ (abr (i + 1) = c ∧ c ≠ 0) := by
    rintro ⟨h1, h2⟩
    have := ays (i + 1) (by omega)
    rw [h1] at this
    omega
   rw [oq (x := ((i + 1 : Nat) : Int) + 1) (by omega) (by omega), show ((i + 1 : Nat) : Int) + 1 = ((i + 1 + 1 : Nat) : Int) by omega]
   by_cases h1 : abr (i + 1) = c
   ·rw [bq (by omega), bg (by omega)]; exact hn
   ·rw [ak (by omega)]; exact hn
  ·simp only [P.acv]
   rw [bf (by omega), h0]
   rfl
 ·obtain ⟨g1, g2, g3⟩ := aog c h0
  refine ug (fun i => ((c : Int), ((i + 1 : Nat) : Int))) (hOf c - 1) rfl (fun i hi next hn => ?_) (fun next => ?_) (by omega)
  ·simp only [P.acv]
   rw [ah (by omega), uo _ (by omega)]
   have key : abr (i + 1) ≠ c := by
    intro h1
    have h2 : abr (i + 1) ≠ 0 := by
     intro h3
     have : c = 0 := by omega
     subst this
     exact h0 rfl
    have := ays (i + 1) h2
    rw [h1] at this
    omega
   rw [ak (by omega), oq (x := ((i + 1 : Nat) : Int) + 1) (by omega) (by omega), show ((i + 1 : Nat) : Int) + 1 = ((i + 1 + 1 : Nat) : Int) by omega]
   exact hn
  ·simp only [P.acv]
   have hc0 : c ≠ 0 := by
    rintro rfl
    exact h0 rfl
   rw [show hOf c - 1 + 1 = hOf c by omega, ah (by omega), uo _ (by omega), g1, bq rfl, d9 (by omega)]
   rfl
theorem ow (c : Nat) (hc : c < 18446744073709551616) {ρ : Type} (k : Int → Option ρ) : P.ow (c : Int) k = k ((wOf c : Nat) : Int) := by
 rw [P.aqk]; unfold P.aio
 by_cases h1 : c < 1
 ·rw [ah (by omega)]
  have : c = 0 := by omega
  subst this
  rfl
 ·rw [bf (by omega)]
  by_cases h4 : c > 4
  ·rw [ah (by omega)]
   unfold wOf
   rw [if_neg (by omega), if_neg (by omega), if_neg (by omega), if_neg (by omega)]
   rfl
  ·have : c = 1 ∨ c = 2 ∨ c = 3 ∨ c = 4 := by omega
   rw [bf (by omega)]
   rcases this with rfl | rfl | rfl | rfl <;> rw [bf (by decide)] <;> rfl
theorem ou (c : Nat) (hc : c < 18446744073709551616) {ρ : Type} (k : Int → Option ρ) : P.ou (c : Int) k = k ((wOf c : Nat) : Int) := by
 rw [P.aqe]; unfold P.ah8
 rw [P.asy]
 unfold P.aqa P.bsx P.bpb
 have kd : ∀ (j : Nat) {σ : Type} (k : Int → Int → Int → Option σ), ∃ a b : Int, P.ny (j : Int) k = k a b (((if j = 1 then 1 else if j = 2 then 2 else if j = 4 then 3 else if j = 8 then 4 else 0) : Nat) : Int) := by
  intro j σ k
  rw [P.aa4]; unfold P.af5
  by_cases a1 : j = 1
  ·subst a1; exact ⟨_, _, by rw [bq (by decide)]; rfl⟩
  ·by_cases a2 : j = 2
   ·subst a2; exact ⟨_, _, by rw [ak (by omega), bq (by decide)]; rfl⟩
   ·by_cases a4 : j = 4
    ·subst a4; exact ⟨_, _, by rw [ak (by omega), ak (by omega), bq (by decide)]; rfl⟩
    ·by_cases a8 : j = 8
     ·subst a8; exact ⟨_, _, by rw [ak (by omega), ak (by omega), ak (by omega), bq (by decide)]; rfl⟩
     ·exact ⟨_, _, by rw [ak (by omega), ak (by omega), ak (by omega), ak (by omega), if_neg a1, if_neg a2, if_neg a4, if_neg a8]; rfl⟩
 have step : ∀ (i : Nat), i < 8 → wOf c ≠ i + 1 → ∀ (nx : Int → Int → Option ρ) (k0 : Int → Int → Option ρ) (k1 : Int → Option ρ), P.ad2 (c : Int) ((i + 1 : Nat) : Int) nx k0 k1 = nx (c : Int) ((i + 1 + 1 : Nat) : Int) := by
  intro i hi hne nx k0 k1
  unfold P.ad2
  obtain ⟨a, b, hk⟩ := kd (i + 1) (fun (q0 q1 q2 : Int) => br (q2 == (c : Int)) (br (q2 != (0 : Int)) (k1 ((i + 1 : Nat) : Int)) (nx (c : Int) (IntKind.i64.wrap (((i + 1 : Nat) : Int) + (1 : Int))))) (nx (c : Int) (IntKind.i64.wrap (((i + 1 : Nat) : Int) + (1 : Int)))))
  rw [ah (by omega), hk, oq (x := ((i + 1 : Nat) : Int) + 1) (by omega) (by omega), show ((i + 1 : Nat) : Int) + 1 = ((i + 1 + 1 : Nat) : Int) by omega]
  generalize hm : (if i + 1 = 1 then 1 else if i + 1 = 2 then 2 else if i + 1 = 4 then 3 else if i + 1 = 8 then 4 else 0 : Nat) = m
  by_cases hc1 : m = c
  ·rw [bq (by omega)]
   by_cases hm0 : m = 0
   ·rw [bg (by omega)]
   ·exfalso
    apply hne
    subst hc1
    subst hm
    unfold wOf
    have : i = 0 ∨ i = 1 ∨ i = 2 ∨ i = 3 ∨ i = 4 ∨ i = 5 ∨ i = 6 ∨ i = 7 := by omega
    rcases this with rfl | rfl | rfl | rfl | rfl | rfl | rfl | rfl <;> first | rfl | exact absurd rfl hm0
  ·rw [ak (by omega)]
 by_cases h0 : wOf c = 0
 ·refine ug (fun i => ((c : Int), ((i + 1 : Nat) : Int))) 8 rfl (fun i hi next hn => ?_) (fun next => ?_) (by omega)
  ·exact (step i hi (by omega) _ _ _).trans hn
  ·simp only [P.ad2]
   rw [bf (by omega), h0]
   rfl
 ·have hw : (c = 1 ∧ wOf c = 1) ∨ (c = 2 ∧ wOf c = 2) ∨ (c = 3 ∧ wOf c = 4) ∨ (c = 4 ∧ wOf c = 8) := by
    revert h0
    unfold wOf
    split
    ·omega
    ·split
     ·omega
     ·split
      ·omega
      ·split <;> omega
  refine ug (fun i => ((c : Int), ((i + 1 : Nat) : Int))) (wOf c - 1) rfl (fun i hi next hn => ?_) (fun next => ?_) (by omega)
  ·exact (step i (by omega) (by omega) _ _ _).trans hn
  ·simp only [P.ad2]
   rw [show wOf c - 1 + 1 = wOf c by omega, ah (by omega)]
   obtain ⟨a, b, hk⟩ := kd (wOf c) (fun (q0 q1 q2 : Int) => br (q2 == (c : Int)) (br (q2 != (0 : Int)) (Sum.elim (fun (x : Int × Int) => k 0) (fun (x : Int) => k x) (.inr ((wOf c : Nat) : Int))) (next ((c : Int), IntKind.i64.wrap (((wOf c : Nat) : Int) + (1 : Int))))) (next ((c : Int), IntKind.i64.wrap (((wOf c : Nat) : Int) + (1 : Int)))))
   refine Eq.trans hk ?_
   rcases hw with ⟨rfl, h⟩ | ⟨rfl, h⟩ | ⟨rfl, h⟩ | ⟨rfl, h⟩ <;> rw [h, bq (by decide), d9 (by decide)] <;> rfl
end Q
end

section
/- lms: sums on the way up. -/
namespace Q
open Go Go.Abs
set_option linter.unusedVariables false
set_option linter.unusedSimpArgs false
theorem y7 (id : List Int) (n mk : Nat) (l : List (List Int)) (hid : In 256 id) (h16 : id.length ≤ 300) (hn : n < 18446744073709551616) (hm : mk < 18446744073709551616) (hl : In 256 l.flatten) (hc : l.length ≤ 1000000) (hb : l.flatten.length ≤ 900000) {ρ : Type} (k : List Int → Option ρ) :
    P.y7 id (n : Int) (mk : Int) l k = k (bbc id n mk l) := by
 rw [P.avo]; unfold P.ak0
 have hw := bbh 1
 have hf : [id, (bsw 8 4 n).reverse, (bsw 8 2 mk).reverse].flatten = id ++ (beN n 4 ++ beN mk 2) := by simp [beN]
 have hlen : (id ++ (beN n 4 ++ beN mk 2)).length = id.length + 6 := by simp [ayf]
 have hin : In 256 (id ++ (beN n 4 ++ beN mk 2)) := hid.app ((agn _ _).app (agn _ _))
 have hr := ahs 64 (by omega) (id ++ (beN n 4 ++ beN mk 2))
 have hr2 := ahs 64 (by omega) (rest 64 (id ++ (beN n 4 ++ beN mk 2)) ++ l.flatten)
 have hlt := Nat.mod_lt (rest 64 (id ++ (beN n 4 ++ beN mk 2)) ++ l.flatten).length (show 0 < 64 by omega)
 rw [ab7 (.inl rfl), show (4 : Int) = ((4 : Nat) : Int) from rfl, ni n 4 hn (by omega), show (2 : Int) = ((2 : Nat) : Int) from rfl, ni mk 2 hm (by omega), jq _ (by simp) (by rw [hf]; omega), hf,
  vw 1 _ [] _ _ hw.1 hw.2.1 In.nil hin (by rw [hlen, List.length_nil]; omega), List.nil_append, axu _ (by omega), show bsz 1 = 64 from rfl, jq l (by omega) (by omega),
  vw 1 _ _ _ _ (anz _ _ _) (ai6 _ _ _).2.1 (ak4 hin) hl (by omega), show bsz 1 = 64 from rfl, bdr _ _ (by omega), ab4 1 _ _ _ (anz _ _ _) (ai6 _ _ _).2.1 (ak4 ((ak4 hin).app hl)) (by rw [hr2]; exact hlt),
  bi4 _ _ _ (by simp only [List.length_append])]
 rfl
theorem uw (id : List Int) (n : Nat) (x : List Int) (hid : In 256 id) (h16 : id.length ≤ 300) (hn : n < 18446744073709551616) (hx : In 256 x) (hxl : x.length ≤ 1000) {ρ : Type} (k : List Int → Option ρ) : P.uw id (n : Int) x k = k (bbc id n 33410 [x]) := by
 rw [P.akx]; unfold P.afd
 rw [show (4 : Int) = ((4 : Nat) : Int) from rfl, j5 n 4 hn (by omega), show (2 : Int) = ((2 : Nat) : Int) from rfl, show (33410 : Int) = ((33410 : Nat) : Int) from rfl, j5 33410 2 (by omega) (by omega), amu id n 33410 [x] hid h16 (by simpa using hx) (by simp) (by simp; omega)]
theorem abu (id : List Int) (n : Nat) (x y : List Int) (hid : In 256 id) (h16 : id.length ≤ 300) (hn : n < 18446744073709551616) (hx : In 256 x) (hxl : x.length ≤ 1000) (hy : In 256 y) (hyl : y.length ≤ 1000) {ρ : Type} (k : List Int → Option ρ) : P.abu id (n : Int) x y k = k (bbc id n 33667 [x, y]) := by
 rw [P.ar9]; unfold P.ai7
 rw [show (4 : Int) = ((4 : Nat) : Int) from rfl, j5 n 4 hn (by omega), show (2 : Int) = ((2 : Nat) : Int) from rfl, show (33667 : Int) = ((33667 : Nat) : Int) from rfl, j5 33667 2 (by omega) (by omega), amu id n 33667 [x, y] hid h16 (by simpa using hx.app hy) (by simp) (by simp; omega)]
def baf (id : List Int) (n : Nat) (path c : List Int) : Nat → List Int
 | 0 => c
 | i + 1 => if n / 2 ^ i % 2 = 1 then bbc id (n / 2 ^ i / 2) 33667 [(path.drop (32 * i)).take 32, baf id n path c i] else bbc id (n / 2 ^ i / 2) 33667 [baf id n path c i, (path.drop (32 * i)).take 32]
theorem aw6 (id : List Int) (n : Nat) (path c : List Int) (hc : c.length = 32) (i : Nat) : (baf id n path c i).length = 32 := by
 cases i with
 | zero => exact hc
 | succ i => unfold baf; split <;> exact ahy _ _ _ _
theorem bbt (id : List Int) (n : Nat) (path c : List Int) (hc : In 256 c) (i : Nat) : In 256 (baf id n path c i) := by
 cases i with
 | zero => exact hc
 | succ i => unfold baf; split <;> exact aoj _ _ _ _
theorem blz {n h i : Nat} (h1 : 2 ^ h ≤ n) (h2 : n < 2 ^ (h + 1)) (hi : i < h) : n / 2 ^ i > 1 := by
 have e : 2 ^ h = 2 ^ (h - i) * 2 ^ i := by rw [← Nat.pow_add]; congr 1; omega
 have e2 : 2 ≤ 2 ^ (h - i) := by
  have : 2 ^ 1 ≤ 2 ^ (h - i) := Nat.pow_le_pow_right (by omega) (by omega)
  omega
 have : 2 ^ (h - i) ≤ n / 2 ^ i := (Nat.le_div_iff_mul_le (Nat.two_pow_pos i)).2 (by omega)
 omega
theorem bii {n h : Nat} (h1 : 2 ^ h ≤ n) (h2 : n < 2 ^ (h + 1)) : n / 2 ^ h = 1 := by
 rw [Nat.pow_succ] at h2
 have := (Nat.le_div_iff_mul_le (Nat.two_pow_pos h)).2 (show 1 * 2 ^ h ≤ n by omega)
 have := (Nat.div_lt_iff_lt_mul (Nat.two_pow_pos h)).2 (show n < 2 * 2 ^ h by omega)
 omega
theorem half (m : Nat) (hm : m < 18446744073709551616) : IntKind.u64.wrap (((m : Nat) : Int).tdiv 2) = ((m / 2 : Nat) : Int) := by
 rw [Int.tdiv_eq_ediv_of_nonneg (by omega), show (m : Int) / 2 = ((m / 2 : Nat) : Int) by omega, acg _ (by omega)]
theorem bh6 (id h4 c path : List Int) (n h : Nat) (hid : In 256 id) (h16 : id.length ≤ 300) (hc : In 256 c) (hcl : c.length = 32) (hp : In 256 path) (hpl : path.length = 32 * h) (hh : h ≤ 60) (h1 : 2 ^ h ≤ n) (h2 : n < 2 ^ (h + 1)) (hn : n < 18446744073709551616)
    {ρ : Type} (k0 : Int → List Int → List Int → List Int → List Int → Option ρ) : P.aht (n : Int) id h4 c path k0 = k0 1 id h4 (baf id n path c h) [] := by
 rw [P.aq4]
 unfold P.amq P.bs5 P.bpq P.bxz
 refine ug (fun i => (((n / 2 ^ i : Nat) : Int), id, h4, baf id n path c i, path.drop (32 * i))) h (by simp [baf]) (fun i hi next hn' => ?_) (fun next => ?_) (by omega)
 ·simp only [P.ain]
  have hw := blz h1 h2 hi
  have hlt : n / 2 ^ i < 18446744073709551616 := Nat.lt_of_le_of_lt (Nat.div_le_self _ _) hn
  have hpl' : (path.drop (32 * i)).length = 32 * h - 32 * i := by rw [List.length_drop, hpl]
  have hnx : n / 2 ^ (i + 1) = n / 2 ^ i / 2 := by rw [Nat.pow_succ, Nat.div_div_eq_div_mul]
  have hdr : (path.drop (32 * i)).drop 32 = path.drop (32 * (i + 1)) := by rw [List.drop_drop]; congr 1
  have e32 : Int.toNat (32 : Int) = 32 := rfl
  have hx : In 256 ((path.drop (32 * i)).take 32) := (hp.drop _).take _
  have hxl : ((path.drop (32 * i)).take 32).length ≤ 32 := by rw [List.length_take]; omega
  have hcu := bbt id n path c hc i
  have hcul := aw6 id n path c hcl i
  rw [ah (by omega), ah (by omega), show (2 : Int) = ((2 : Nat) : Int) from rfl, tmN, show ((2 : Nat) : Int) = 2 from rfl, half _ hlt, e32, List.drop_zero, toNat_cast, List.take_length, hdr]
  by_cases hm : n / 2 ^ i % 2 = 1
  ·rw [bq (by omega), show (33667 : Int) = ((33667 : Nat) : Int) from rfl, y7 id _ 33667 _ hid h16 (by omega) (by omega) (by simpa using hx.app hcu) (by simp) (by simp; omega), ah (by omega), ah (by omega)]
   refine Eq.trans ?_ hn'
   simp only [baf, if_pos hm, hnx]
  ·rw [ak (by omega), show (33667 : Int) = ((33667 : Nat) : Int) from rfl, y7 id _ 33667 _ hid h16 (by omega) (by omega) (by simpa using hcu.app hx) (by simp) (by simp; omega), ah (by omega), ah (by omega)]
   refine Eq.trans ?_ hn'
   simp only [baf, if_neg hm, hnx]
 ·simp only [P.ain]
  rw [bii h1 h2, bf (by omega), List.drop_eq_nil_of_le (by omega)]
  rfl
theorem bdx (v0 id c path : List Int) (n h : Nat) (hid : In 256 id) (h16 : id.length ≤ 300) (hc : In 256 c) (hcl : c.length = 32) (hp : In 256 path) (hpl : path.length = 32 * h) (hh : h ≤ 60) (h1 : 2 ^ h ≤ n) (h2 : n < 2 ^ (h + 1)) (hn : n < 18446744073709551616)
    {ρ : Type} (k0 : List Int → List Int → Int → List Int → List Int → Option ρ) : P.ag1 v0 id (n : Int) c path k0 = k0 v0 id 1 (baf id n path c h) [] := by
 rw [P.aoo]
 unfold P.akq P.bso P.boy P.bwt
 refine ug (fun i => (v0, id, ((n / 2 ^ i : Nat) : Int), baf id n path c i, path.drop (32 * i))) h (by simp [baf]) (fun i hi next hn' => ?_) (fun next => ?_) (by omega)
 ·simp only [P.agy]
  have hw := blz h1 h2 hi
  have hlt : n / 2 ^ i < 18446744073709551616 := Nat.lt_of_le_of_lt (Nat.div_le_self _ _) hn
  have hpl' : (path.drop (32 * i)).length = 32 * h - 32 * i := by rw [List.length_drop, hpl]
  have hnx : n / 2 ^ (i + 1) = n / 2 ^ i / 2 := by rw [Nat.pow_succ, Nat.div_div_eq_div_mul]
  have hdr : (path.drop (32 * i)).drop 32 = path.drop (32 * (i + 1)) := by rw [List.drop_drop]; congr 1
  have e32 : Int.toNat (32 : Int) = 32 := rfl
  have hx : In 256 ((path.drop (32 * i)).take 32) := (hp.drop _).take _
  have hxl : ((path.drop (32 * i)).take 32).length ≤ 32 := by rw [List.length_take]; omega
  have hcu := bbt id n path c hc i
  have hcul := aw6 id n path c hcl i
  rw [ah (by omega), show (2 : Int) = ((2 : Nat) : Int) from rfl, tmN, show ((2 : Nat) : Int) = 2 from rfl, half _ hlt, e32, List.drop_zero, toNat_cast, List.take_length, hdr]
  by_cases hm : n / 2 ^ i % 2 = 1
  ·rw [ak (by omega), ah (by omega), abu id _ _ _ hid h16 (by omega) hx (by omega) hcu (by omega), ah (by omega), ah (by omega)]
   refine Eq.trans ?_ hn'
   simp only [baf, if_pos hm, hnx]
  ·rw [bq (by omega), ah (by omega), abu id _ _ _ hid h16 (by omega) hcu (by omega) hx (by omega), ah (by omega), ah (by omega)]
   refine Eq.trans ?_ hn'
   simp only [baf, if_neg hm, hnx]
 ·simp only [P.agy]
  rw [bii h1 h2, bf (by omega), List.drop_eq_nil_of_le (by omega)]
  rfl
end Q
end

section
/- lms: signatures, and what verifies them. -/
namespace Q
open Go Go.Abs
set_option linter.unusedVariables false
set_option linter.unusedSimpArgs false
def nm (b : List Int) (i j : Nat) : Nat := T 8 ((b.take j).drop i).reverse
theorem ase (b : List Int) (i j : Nat) (h : j - i ≤ 4) : nm b i j < 4294967296 := by
 unfold nm
 have h1 := bmu 8 ((b.take j).drop i).reverse
 have h2 : 8 * ((b.take j).drop i).reverse.length ≤ 32 := by simp only [List.length_reverse, List.length_drop, List.length_take]; omega
 have h3 : 2 ^ (8 * ((b.take j).drop i).reverse.length) ≤ 2 ^ 32 := Nat.pow_le_pow_right (by omega) h2
 omega
theorem za (b : List Int) (hb : In 256 b) (i j : Nat) (hj : j - i ≤ 4) {ρ : Type} (k : Int → Option ρ) : P.iy (((b.take j).drop i)) k = k ((nm b i j : Nat) : Int) := by
 have := ase b i j hj
 rw [iy _ ((hb.take j).drop i) (by simp only [List.length_drop, List.length_take]; omega)]
 unfold nm at this ⊢
 rw [Nat.mod_eq_of_lt (by omega)]
theorem og (b : List Int) (hb : In 256 b) (i j : Nat) (hj : j - i ≤ 4) {ρ : Type} (k : Int → Option ρ) : P.oh (((b.take j).drop i)) k = k ((nm b i j : Nat) : Int) := by
 have := ase b i j hj
 rw [oh _ ((hb.take j).drop i) (by simp only [List.length_drop, List.length_take]; omega)]
 unfold nm at this ⊢
 rw [Nat.mod_eq_of_lt (by omega)]
def pOf (w : Nat) : Nat := if w = 1 then 265 else if w = 2 then 133 else if w = 4 then 67 else 34
def sOf (w : Nat) : Nat := if w = 1 then 7 else if w = 2 then 6 else if w = 4 then 4 else 0
theorem aq9 {c : Nat} (h : wOf c ≠ 0) : Kind (wOf c) (pOf (wOf c)) (sOf (wOf c)) ∧ aem (wOf c) = c ∧ wOf c ≤ 8 ∧ pOf (wOf c) ≤ 265 := by
 have hc : c = 1 ∨ c = 2 ∨ c = 3 ∨ c = 4 := by
  revert h
  unfold wOf
  split
  ·omega
  ·split
   ·omega
   ·split
    ·omega
    ·split <;> omega
 rcases hc with rfl | rfl | rfl | rfl <;> simp [wOf, pOf, sOf, Kind, aem]
theorem aln {w p s : Nat} (h : Kind w p s) {ρ : Type} (k : Int → Option ρ) : P.pq (w : Int) k = k ((aem w : Nat) : Int) := by
 rw [P.afg]; unfold P.ab3
 rcases h with ⟨rfl, _, _⟩ | ⟨rfl, _, _⟩ | ⟨rfl, _, _⟩ | ⟨rfl, _, _⟩ <;> simp [aem]
theorem bft (h : Nat) (h1 : ¬ (1 ≤ h ∧ h ≤ 4)) (h2 : h ≠ 5) (h3 : h ≠ 10) (h4 : h ≠ 15) (h5 : h ≠ 20) (h6 : h ≠ 25) : abr h = 0 := by
 unfold abr
 rw [if_neg h1, if_neg (by omega)]
theorem y5 (h : Nat) (hh : h ≤ 1000) {ρ : Type} (k : Int → Option ρ) : P.y5 (h : Int) k = k ((abr h : Nat) : Int) := by
 rw [P.ala]; unfold P.af6
 by_cases a1 : h = 1
 ·subst a1; rw [bq (by decide), bq (by decide)]; rfl
 by_cases a2 : h = 2
 ·subst a2; rw [ak (by decide), bq (by decide), bq (by decide)]; rfl
 by_cases a3 : h = 3
 ·subst a3; rw [ak (by decide), ak (by decide), bq (by decide), bq (by decide)]; rfl
 by_cases a4 : h = 4
 ·subst a4; rw [ak (by decide), ak (by decide), ak (by decide), bq (by decide)]; rfl
 rw [ak (by omega), ak (by omega), ak (by omega), ak (by omega)]
 by_cases b1 : h = 5
 ·subst b1; rw [bq (by decide), bq (by decide)]; rfl
 by_cases b2 : h = 10
 ·subst b2; rw [ak (by decide), bq (by decide), bq (by decide)]; rfl
 by_cases b3 : h = 15
 ·subst b3; rw [ak (by decide), ak (by decide), bq (by decide), bq (by decide)]; rfl
 by_cases b4 : h = 20
 ·subst b4; rw [ak (by decide), ak (by decide), ak (by decide), bq (by decide), bq (by decide)]; rfl
 by_cases b5 : h = 25
 ·subst b5; rw [ak (by decide), ak (by decide), ak (by decide), ak (by decide), bq (by decide)]; rfl
 rw [ak (by omega), ak (by omega), ak (by omega), ak (by omega), ak (by omega), bft h (by omega) b1 b2 b3 b4 b5]
 rfl
theorem bb9 {w p s h : Nat} (hk : Kind w p s) (hp : p ≤ 265) (hh : abr h ≠ 0) (h25 : h ≤ 25) {ρ : Type} (k : Int → Option ρ) : P.ae3 (h : Int) (w : Int) k = k ((4 + (36 + 32 * p) + 4 + 32 * h : Nat) : Int) := by
 rw [P.arz]; unfold P.aj4
 have hcw : aem w ≠ 0 := by unfold aem; split <;> (try split) <;> (try split) <;> omega
 rw [P.aol]; unfold P.ah0
 rw [y5 h (by omega), d9 (by omega), aln hk, show (((aem w : Nat) : Int) != 0) = true by rw [bne_iff_ne]; omega]
 dsimp only
 rw [jr, qx, je hk,
  oq (x := (4 : Int) + ((36 + 32 * p : Nat) : Int)) (by omega) (by omega), oq (x := (4 : Int) + ((36 + 32 * p : Nat) : Int) + 4) (by omega) (by omega), oq (x := (32 : Int) * (h : Int)) (by omega) (by omega), oq (by omega) (by omega)]
 congr 1
def biv {ρ : Type} (b : List Int) (k : List Int → Int → Int → List Int → Int → Option ρ) : Option ρ :=
 if b.length < 8 then k [] 0 0 [] 1 else
 if wOf (nm b 4 8) = 0 then k [] 0 0 [] 9 else
 if b.length < 4 + (36 + 32 * pOf (wOf (nm b 4 8))) + 4 then k [] 0 0 [] 1 else
 if hOf (nm b (4 + (36 + 32 * pOf (wOf (nm b 4 8)))) (4 + (36 + 32 * pOf (wOf (nm b 4 8))) + 4)) = 0 then k [] 0 0 [] 9 else
 if b.length < 4 + (36 + 32 * pOf (wOf (nm b 4 8))) + 4 + 32 * hOf (nm b (4 + (36 + 32 * pOf (wOf (nm b 4 8)))) (4 + (36 + 32 * pOf (wOf (nm b 4 8))) + 4)) then k [] 0 0 [] 1 else
 k (b.take (4 + (36 + 32 * pOf (wOf (nm b 4 8))) + 4 + 32 * hOf (nm b (4 + (36 + 32 * pOf (wOf (nm b 4 8)))) (4 + (36 + 32 * pOf (wOf (nm b 4 8))) + 4))))
  ((hOf (nm b (4 + (36 + 32 * pOf (wOf (nm b 4 8)))) (4 + (36 + 32 * pOf (wOf (nm b 4 8))) + 4)) : Nat) : Int) ((wOf (nm b 4 8) : Nat) : Int)
  (b.drop (4 + (36 + 32 * pOf (wOf (nm b 4 8))) + 4 + 32 * hOf (nm b (4 + (36 + 32 * pOf (wOf (nm b 4 8)))) (4 + (36 + 32 * pOf (wOf (nm b 4 8))) + 4)))) 0
theorem zq (b : List Int) (hb : In 256 b) (hn : b.length ≤ 1000000) {ρ : Type} (k : List Int → Int → Int → List Int → Int → Option ρ) : P.zq b k = biv b k := by
 rw [P.au8]; unfold P.alj biv
 by_cases h8 : b.length < 8
 ·rw [ah (by omega), if_pos h8]
 ·rw [bf (by omega), if_neg h8, ah (by omega), show Int.toNat (8 : Int) = 8 from rfl, za b hb 4 8 (by omega), ow _ (by have := ase b 4 8 (by omega); omega)]
  generalize hc : nm b 4 8 = c
  by_cases hw : wOf c = 0
  ·rw [hw, bq (by omega), if_pos rfl]
  ·obtain ⟨hk, hcw, hw8, hp⟩ := aq9 hw
   rw [ak (by omega), if_neg hw, je hk]
   generalize hpp : pOf (wOf c) = p at hk hp ⊢
   generalize hww : wOf c = w at hk hw hw8 hcw ⊢
   rw [oq (x := (4 : Int) + ((36 + 32 * p : Nat) : Int)) (by omega) (by omega), oq (x := (4 : Int) + ((36 + 32 * p : Nat) : Int) + 4) (by omega) (by omega)]
   by_cases hl : b.length < 4 + (36 + 32 * p) + 4
   ·rw [ah (by omega), if_pos hl]
   ·rw [bf (by omega), if_neg hl, ah (by omega), ah (by omega), ah (by omega), show ((4 : Int) + ((36 + 32 * p : Nat) : Int)).toNat = 4 + (36 + 32 * p) by omega, show ((4 : Int) + ((36 + 32 * p : Nat) : Int) + 4).toNat = 4 + (36 + 32 * p) + 4 by omega,
      za b hb _ _ (by omega), lg _ (by have := ase b (4 + (36 + 32 * p)) (4 + (36 + 32 * p) + 4) (by omega); omega)]
    generalize nm b (4 + (36 + 32 * p)) (4 + (36 + 32 * p) + 4) = ch
    by_cases hh : hOf ch = 0
    ·rw [hh, bq (by omega), if_pos rfl]
    ·obtain ⟨g1, g2, g3⟩ := aog ch hh
     have hch : abr (hOf ch) ≠ 0 := by
      rw [g1]
      rintro rfl
      exact hh rfl
     rw [ak (by omega), if_neg hh, bb9 hk hp hch g3]
     by_cases hl2 : b.length < 4 + (36 + 32 * p) + 4 + 32 * hOf ch
     ·rw [ah (by omega), if_pos hl2]
     ·rw [bf (by omega), if_neg hl2, ah (by omega), ah (by omega), toNat_cast, List.drop_zero, jq _ (by simp) (by simp; omega), ah (by omega), ah (by omega), ah (by omega), toNat_cast, List.take_length, jq _ (by simp) (by simp; omega)]
      simp only [List.flatten_cons, List.flatten_nil, List.append_nil]
theorem zm (b : List Int) (hb : In 256 b) (hn : b.length ≤ 1000000) {ρ : Type} (k : List Int → Int → Int → List Int → Int → Option ρ) : P.zm b k = biv b k := by
 rw [P.avq]; unfold P.ak9 biv
 by_cases h8 : b.length < 8
 ·rw [ah (by omega), if_pos h8]
 ·rw [bf (by omega), if_neg h8, ah (by omega), show Int.toNat (8 : Int) = 8 from rfl, og b hb 4 8 (by omega), ou _ (by have := ase b 4 8 (by omega); omega)]
  generalize hc : nm b 4 8 = c
  by_cases hw : wOf c = 0
  ·rw [hw, bq (by omega), if_pos rfl]
  ·obtain ⟨hk, hcw, hw8, hp⟩ := aq9 hw
   rw [ak (by omega), if_neg hw, qp hk]
   generalize hpp : pOf (wOf c) = p at hk hp ⊢
   generalize hww : wOf c = w at hk hw hw8 hcw ⊢
   rw [oq (x := (4 : Int) + ((36 + 32 * p : Nat) : Int)) (by omega) (by omega), oq (x := (4 : Int) + ((36 + 32 * p : Nat) : Int) + 4) (by omega) (by omega)]
   by_cases hl : b.length < 4 + (36 + 32 * p) + 4
   ·rw [ah (by omega), if_pos hl]
   ·rw [bf (by omega), if_neg hl, ah (by omega), ah (by omega), ah (by omega), show ((4 : Int) + ((36 + 32 * p : Nat) : Int)).toNat = 4 + (36 + 32 * p) by omega, show ((4 : Int) + ((36 + 32 * p : Nat) : Int) + 4).toNat = 4 + (36 + 32 * p) + 4 by omega,
      og b hb _ _ (by omega), ku _ (by have := ase b (4 + (36 + 32 * p)) (4 + (36 + 32 * p) + 4) (by omega); omega)]
    generalize nm b (4 + (36 + 32 * p)) (4 + (36 + 32 * p) + 4) = ch
    by_cases hh : hOf ch = 0
    ·rw [hh, bq (by omega), if_pos rfl]
    ·obtain ⟨g1, g2, g3⟩ := aog ch hh
     rw [ak (by omega), if_neg hh, oq (x := (32 : Int) * ((hOf ch : Nat) : Int)) (by omega) (by omega), oq (x := (4 : Int) + ((36 + 32 * p : Nat) : Int) + 4 + 32 * ((hOf ch : Nat) : Int)) (by omega) (by omega)]
     by_cases hl2 : b.length < 4 + (36 + 32 * p) + 4 + 32 * hOf ch
     ·rw [ah (by omega), if_pos hl2]
     ·rw [bf (by omega), if_neg hl2, ah (by omega), ah (by omega), ah (by omega), ah (by omega), ah (by omega), toNat_cast, List.drop_zero, List.take_length, show ((4 : Int) + ((36 + 32 * p : Nat) : Int) + 4 + 32 * ((hOf ch : Nat) : Int)).toNat = 4 + (36 + 32 * p) + 4 + 32 * hOf ch by omega]
theorem ax1 {w p s h : Nat} (hk : Kind w p s) (h25 : h ≤ 25) {ρ : Type} (k : List Int → Option ρ) : P.ae1 (h : Int) (w : Int) k = k (beN (abr h) 4 ++ beN (aem w) 4) := by
 rw [P.asb]; unfold P.aja
 have h1 := bd6 h
 have h2 := aq5 w
 rw [y5 h (by omega), show (4 : Int) = ((4 : Nat) : Int) from rfl, ni _ 4 (by omega) (by omega), aln hk, ni _ 4 (by omega) (by omega), jq _ (by simp) (by simp)]
 simp only [List.flatten_cons, List.flatten_nil, List.append_nil]
 rfl
theorem amg {w p s h : Nat} (hk : Kind w p s) (h25 : h ≤ 25) {ρ : Type} (k : List Int → Option ρ) : P.ae5 (h : Int) (w : Int) k = k (beN (abr h) 4 ++ beN (aem w) 4) := by
 rw [P.ar3]; unfold P.ajv
 have h1 := bd6 h
 have h2 := aq5 w
 rw [blv hk, uo h (by omega), show (4 : Int) = ((4 : Nat) : Int) from rfl, j5 _ 4 (by omega) (by omega), j5 _ 4 (by omega) (by omega), ah (by simp)]
 rfl
end Q
end
