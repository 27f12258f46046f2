/-
  HssSigns, part 22: an interpreter of my own over abstract values, the pure functions, the walks and the plain law.
-/

import Derived.Test.YtmipokjdajiimaaGreatDoorHssSignsU
import Derived.Test.YtmipokjdajiimaaGreatDoorHssSignsK
import Derived.Test.YtmipokjdajiimaaGreatDoorHssSignsL
import Derived.Test.YtmipokjdajiimaaGreatDoorHssSignsI

section
/- SHA-2: blocks one behind the other, words of 32 bits. -/
namespace Q
open Go Go.Abs
set_option linter.unusedVariables false
set_option linter.unusedSimpArgs false
def thr {w : Nat} (p : Par w) (v : List (BitVec w)) (b : List Int) : Nat → List (BitVec w)
 | 0 => v
 | i + 1 => awv p (thr p v b i) ((b.drop ((2 * w) * i)).take (2 * w))
theorem alv {w : Nat} (p : Par w) (v : List (BitVec w)) (hv : v.length = 8) (b : List Int) : ∀ i, (thr p v b i).length = 8
 | 0 => hv
 | i + 1 => bj3 _ _ _
def toV (w : Nat) (l : List Int) : List (BitVec w) := (List.range 8).map fun i => BitVec.ofInt w (l.getD i 0)
theorem akr (w : Nat) (l : List Int) : (toV w l).length = 8 := by simp [toV]
theorem bqt (w : Nat) (l : List Int) (hl : l.length = 8) (hi : In (2 ^ w) l) : cv (toV w l) = l := by
 unfold cv toV
 rw [List.map_map]
 refine List.ext_getElem (by simp [hl]) (fun i h1 h2 => ?_)
 have hp : ((2 : Int) ^ w) = ((2 ^ w : Nat) : Int) := by simp
 have := hi.getD i (by rw [hp]; have := p2 w; omega)
 rw [getD_lt h2] at this
 simp only [List.getElem_map, List.getElem_range, Function.comp, getD_lt h2, BitVec.toNat_ofInt]
 rw [hp] at this
 rw [Int.emod_eq_of_lt this.1 this.2]
 omega
theorem bra {w : Nat} (l : List (BitVec w)) : In (2 ^ w) (cv l) := by
 intro x hx
 obtain ⟨y, _, rfl⟩ := List.mem_map.1 hx
 have := y.isLt
 have hp : ((2 : Int) ^ w) = ((2 ^ w : Nat) : Int) := by simp
 rw [hp]
 omega
theorem bva {w : Nat} (l : List (BitVec w)) (hl : l.length = 8) : toV w (cv l) = l := by
 unfold toV
 refine List.ext_getElem (by simp [hl]) (fun i h1 h2 => ?_)
 simp only [List.getElem_map, List.getElem_range, afr, ofI, getD_lt h2]
theorem bax (x : Int) : IntKind.u32.wrap x = ((BitVec.ofInt 32 x).toNat : Int) := by
 rw [btk, BitVec.toNat_ofInt]; omega
def rest (n : Nat) (b : List Int) : List Int := b.drop (n * (b.length / n))
theorem bw7 (words b : List Int) (rd : Int) (t0 t1 t2 t3 h1 h2 : List Int) (hi : In 18446744073709551616 words) {ρ : Type} (k0 : List Int → List Int → Int → Int → Int → List Int → List Int → List Int → List Int → List Int → List Int → List Int → Option ρ) :
    P.abg b words 0 32 rd t0 t1 t2 t3 h1 h2 (List.replicate 8 0) k0 = k0 b words 8 32 rd t0 t1 t2 t3 h1 h2 (cv (toV 32 words)) := by
 rw [P.aiy]
 unfold P.aff P.byi P.buv P.b2u
 refine qy (fun i => (b, words, (i : Int), 32, rd, t0, t1, t2, t3, h1, h2, cv ((List.range i).map fun i => BitVec.ofInt 32 (words.getD i 0)) ++ List.replicate (8 - i) 0)) 8 (by simp [cv]) (fun i hi' next hn' => ?_) (fun next => ?_) (by omega)
 ·simp only [P.abn, toNat_cast]
  have e4 : IntKind.i64.wrap ((i : Int) + 1) = ((i + 1 : Nat) : Int) := by rw [o9 (by omega) (by omega)]; omega
  have e5 : (cv ((List.range i).map fun i => BitVec.ofInt 32 (words.getD i 0)) ++ List.replicate (8 - i) (0 : Int)).set i ((BitVec.ofInt 32 (words.getD i 0)).toNat : Int) = cv ((List.range (i + 1)).map fun i => BitVec.ofInt 32 (words.getD i 0)) ++ List.replicate (8 - (i + 1)) 0 := by
   rw [List.set_append_right _ _ (by simp), uj, List.length_map, List.length_range, Nat.sub_self, show 8 - i = (8 - (i + 1)) + 1 by omega, List.replicate_succ, List.set_cons_zero, List.range_succ, List.map_append, ← afk, List.append_assoc]
   rfl
  rw [aj (by omega), aj (by omega), aj (by omega), aj (by omega), aj (by omega), bax, e5, e4]
  exact hn'
 ·simp only [P.abn]
  rw [bq (by omega)]
  simp [toV]
theorem bto (v : List (BitVec 32)) (hv : v.length = 8) (b : List Int) (hb : In 256 b) (hn : b.length ≤ 1000000) (h1 h2 : List Int) {ρ : Type} (k0 : List Int → Int → List Int → List Int → List Int → Int → Int → List Int → List Int → List Int → List Int → Option ρ) :
    P.abm b 64 (cv v) h2 h1 32 64 [7, 18, 3] [17, 19, 10] [2, 13, 22] [6, 11, 25] k0 =
     k0 (rest 64 b) 64 (cv (thr p32 v b (b.length / 64))) h2 h1 32 64 [7, 18, 3] [17, 19, 10] [2, 13, 22] [6, 11, 25] := by
 rw [P.ai6]
 unfold P.ae8 P.bxx P.bum P.b2f
 refine qy (fun i => (b.drop (64 * i), 64, cv (thr p32 v b i), h2, h1, 32, 64, [7, 18, 3], [17, 19, 10], [2, 13, 22], [6, 11, 25])) (b.length / 64) (by simp [thr]) (fun i hi next hn' => ?_) (fun next => ?_) (by omega)
 ·simp only [P.abw]
  have hlen : (b.drop (64 * i)).length = b.length - 64 * i := by simp
  have hge : 64 ≤ b.length - 64 * i := by omega
  simp only [hlen, show (64 : Int).toNat = 64 from rfl, toNat_cast, List.drop_zero]
  have hbl : ((b.drop (64 * i)).take 64).length = 16 * 4 := by rw [List.length_take, hlen]; omega
  rw [aj (by omega), aj (by omega), aj (by omega), bnh _ (alv _ _ hv _ _) _ ((hb.drop _).take _) hbl, aj (by omega), aj (by omega), aj (by omega),
   List.take_of_length_le (by rw [hlen]; omega), List.drop_drop, show 64 * i + 64 = 64 * (i + 1) by omega]
  exact hn'
 ·simp only [P.abw]
  have hlen : (b.drop (64 * (b.length / 64))).length = b.length - 64 * (b.length / 64) := by simp
  rw [bq (by rw [hlen]; omega)]
  rfl
theorem brd (v : List (BitVec 32)) (hv : v.length = 8) (b : List Int) (words h2 : List Int) (hl : words.length = 8) {ρ : Type} (k0 : List Int → List Int → Int → List Int → List Int → Option ρ) :
    P.aa4 b (cv v) 0 words h2 k0 = k0 b (cv v) 8 (cv v) h2 := by
 rw [P.aie]
 unfold P.aeh P.byn P.bu3 P.b3z
 refine qy (fun i => (b, cv v, (i : Int), (cv v).take i ++ words.drop i, h2)) 8 (by simp) (fun i hi next hn' => ?_) (fun next => ?_) (by omega)
 ·simp only [P.aax, toNat_cast]
  have e4 : IntKind.i64.wrap ((i : Int) + 1) = ((i + 1 : Nat) : Int) := by rw [o9 (by omega) (by omega)]; omega
  have e5 : ((cv v).take i ++ words.drop i).set i ((cv v).getD i 0) = (cv v).take (i + 1) ++ words.drop (i + 1) := by
   rw [List.set_append_right _ _ (by rw [List.length_take]; omega), List.length_take, uj, hv, Nat.min_eq_left (by omega), Nat.sub_self, List.drop_eq_getElem_cons (by omega), List.set_cons_zero, ← ai2 (cv v) 0 i (by rw [uj]; omega), List.append_assoc]
   rfl
  have e6 : IntKind.u64.wrap ((cv v).getD i 0) = (cv v).getD i 0 := by
   rw [afr]; exact ab0 _ (nlt _)
  rw [aj (by omega), aj (by omega), aj (by omega), aj (by omega), aj (by omega), e6, e5, e4]
  exact hn'
 ·simp only [P.aax]
  rw [bq (by omega), List.drop_eq_nil_of_le (by omega), List.append_nil, List.take_of_length_le (by rw [uj]; omega)]
  rfl
theorem bhc (words b : List Int) (hl : words.length = 8) (hi : In 18446744073709551616 words) (hb : In 256 b) (hn : b.length ≤ 1000000) {ρ : Type} (k : List Int → List Int → Option ρ) :
    P.oq 32 64 [7, 18, 3] [17, 19, 10] [2, 13, 22] [6, 11, 25] words b k = k (cv (thr p32 (toV 32 words) b (b.length / 64))) (rest 64 b) := by
 rw [P.ae9]
 unfold P.aa2
 refine (bw7 words b 64 [7, 18, 3] [17, 19, 10] [2, 13, 22] [6, 11, 25] words (List.replicate 8 0) hi _).trans ?_
 rw [show IntKind.i64.wrap ((32 : Int) * 2) = 64 from rfl, bto _ (akr _ _) b hb hn, brd _ (alv _ _ (akr _ _) _ _) _ _ _ hl]
theorem btz (v : List (BitVec 32)) (hv : v.length = 8) (b : List Int) (hb : In 256 b) (hn : b.length ≤ 1000000) (kd : Int) (tl : List Int) (sz : Int) (a1 : Int) (a2 : List Int) (a3 : Int) {ρ : Type} (k0 : Int → List Int → Int → List Int → List Int → Int → Int → List Int → Int → Option ρ) :
    P.amf 64 b kd (cv v) tl sz a1 a2 a3 k0 = k0 64 (rest 64 b) kd (cv (thr p32 v b (b.length / 64))) tl sz a1 a2 a3 := by
 rw [P.ao3]
 unfold P.asf P.bt2 P.btf P.byy
 refine qy (fun i => (64, b.drop (64 * i), kd, cv (thr p32 v b i), tl, sz, a1, a2, a3)) (b.length / 64) (by simp [thr]) (fun i hi next hn' => ?_) (fun next => ?_) (by omega)
 ·simp only [P.ai3]
  have hlen : (b.drop (64 * i)).length = b.length - 64 * i := by simp
  have hge : 64 ≤ b.length - 64 * i := by omega
  simp only [hlen, show (64 : Int).toNat = 64 from rfl, toNat_cast, List.drop_zero]
  have hbl : ((b.drop (64 * i)).take 64).length = 16 * 4 := by rw [List.length_take, hlen]; omega
  rw [aj (by omega), aj (by omega), aj (by omega), show ((64 : Int) == 128) = false from rfl, blq _ (alv _ _ hv _ _) _ ((hb.drop _).take _) hbl, aj (by omega), aj (by omega), aj (by omega),
   List.take_of_length_le (by rw [hlen]; omega), List.drop_drop, show 64 * i + 64 = 64 * (i + 1) by omega]
  exact hn'
 ·simp only [P.ai3]
  have hlen : (b.drop (64 * (b.length / 64))).length = b.length - 64 * (b.length / 64) := by simp
  rw [bq (by rw [hlen]; omega)]
  rfl
end Q
end

section
/- SHA-2: blocks one behind the other, words of 64 bits. -/
namespace Q
open Go Go.Abs
set_option linter.unusedVariables false
set_option linter.unusedSimpArgs false
theorem bwg (words b : List Int) (rd : Int) (t0 t1 t2 t3 h1 h2 : List Int) (hi : In 18446744073709551616 words) {ρ : Type} (k0 : List Int → List Int → Int → Int → Int → List Int → List Int → List Int → List Int → List Int → List Int → List Int → Option ρ) :
    P.aby b words 0 64 rd t0 t1 t2 t3 h1 h2 (List.replicate 8 0) k0 = k0 b words 8 64 rd t0 t1 t2 t3 h1 h2 (cv (toV 64 words)) := by
 rw [P.ai0]
 unfold P.afj P.byu P.bwv P.b43
 refine qy (fun i => (b, words, (i : Int), 64, rd, t0, t1, t2, t3, h1, h2, cv ((List.range i).map fun i => BitVec.ofInt 64 (words.getD i 0)) ++ List.replicate (8 - i) 0)) 8 (by simp [cv]) (fun i hi' next hn' => ?_) (fun next => ?_) (by omega)
 ·simp only [P.abb, toNat_cast]
  have e4 : IntKind.i64.wrap ((i : Int) + 1) = ((i + 1 : Nat) : Int) := by rw [o9 (by omega) (by omega)]; omega
  have e6 : words.getD i 0 = ((BitVec.ofInt 64 (words.getD i 0)).toNat : Int) := by
   have := hi.getD i (by omega)
   rw [BitVec.toNat_ofInt]
   omega
  have e5 : (cv ((List.range i).map fun i => BitVec.ofInt 64 (words.getD i 0)) ++ List.replicate (8 - i) (0 : Int)).set i ((BitVec.ofInt 64 (words.getD i 0)).toNat : Int) = cv ((List.range (i + 1)).map fun i => BitVec.ofInt 64 (words.getD i 0)) ++ List.replicate (8 - (i + 1)) 0 := by
   rw [List.set_append_right _ _ (by simp), uj, List.length_map, List.length_range, Nat.sub_self, show 8 - i = (8 - (i + 1)) + 1 by omega, List.replicate_succ, List.set_cons_zero, List.range_succ, List.map_append, ← afk, List.append_assoc]
   rfl
  rw [aj (by omega), aj (by omega), aj (by omega), aj (by omega), aj (by omega), e6, e5, e4]
  exact hn'
 ·simp only [P.abb]
  rw [bq (by omega)]
  simp [toV]
theorem bxb (v : List (BitVec 64)) (hv : v.length = 8) (b : List Int) (hb : In 256 b) (hn : b.length ≤ 1000000) (h1 h2 : List Int) {ρ : Type} (k0 : List Int → Int → List Int → List Int → List Int → Int → Int → List Int → List Int → List Int → List Int → Option ρ) :
    P.abx b 128 (cv v) h2 h1 64 80 [1, 8, 7] [19, 61, 6] [28, 34, 39] [14, 18, 41] k0 =
     k0 (rest 128 b) 128 (cv (thr p64 v b (b.length / 128))) h2 h1 64 80 [1, 8, 7] [19, 61, 6] [28, 34, 39] [14, 18, 41] := by
 rw [P.aix]
 unfold P.afd P.byq P.bu8 P.b4t
 refine qy (fun i => (b.drop (128 * i), 128, cv (thr p64 v b i), h2, h1, 64, 80, [1, 8, 7], [19, 61, 6], [28, 34, 39], [14, 18, 41])) (b.length / 128) (by simp [thr]) (fun i hi next hn' => ?_) (fun next => ?_) (by omega)
 ·simp only [P.abr]
  have hlen : (b.drop (128 * i)).length = b.length - 128 * i := by simp
  have hge : 128 ≤ b.length - 128 * i := by omega
  simp only [hlen, show (128 : Int).toNat = 128 from rfl, toNat_cast, List.drop_zero]
  have hbl : ((b.drop (128 * i)).take 128).length = 16 * 8 := by rw [List.length_take, hlen]; omega
  rw [aj (by omega), aj (by omega), aj (by omega), bkx _ (alv _ _ hv _ _) _ ((hb.drop _).take _) hbl, aj (by omega), aj (by omega), aj (by omega),
   List.take_of_length_le (by rw [hlen]; omega), List.drop_drop, show 128 * i + 128 = 128 * (i + 1) by omega]
  exact hn'
 ·simp only [P.abr]
  have hlen : (b.drop (128 * (b.length / 128))).length = b.length - 128 * (b.length / 128) := by simp
  rw [bq (by rw [hlen]; omega)]
  rfl
theorem bsf (v : List (BitVec 64)) (hv : v.length = 8) (b : List Int) (words h2 : List Int) (hl : words.length = 8) {ρ : Type} (k0 : List Int → List Int → Int → List Int → List Int → Option ρ) :
    P.aay b (cv v) 0 words h2 k0 = k0 b (cv v) 8 (cv v) h2 := by
 rw [P.aia]
 unfold P.aei P.byc P.buo P.b5j
 refine qy (fun i => (b, cv v, (i : Int), (cv v).take i ++ words.drop i, h2)) 8 (by simp) (fun i hi next hn' => ?_) (fun next => ?_) (by omega)
 ·simp only [P.aa1, toNat_cast]
  have e4 : IntKind.i64.wrap ((i : Int) + 1) = ((i + 1 : Nat) : Int) := by rw [o9 (by omega) (by omega)]; omega
  have e5 : ((cv v).take i ++ words.drop i).set i ((cv v).getD i 0) = (cv v).take (i + 1) ++ words.drop (i + 1) := by
   rw [List.set_append_right _ _ (by rw [List.length_take]; omega), List.length_take, uj, hv, Nat.min_eq_left (by omega), Nat.sub_self, List.drop_eq_getElem_cons (by omega), List.set_cons_zero, ← ai2 (cv v) 0 i (by rw [uj]; omega), List.append_assoc]
   rfl
  rw [aj (by omega), aj (by omega), aj (by omega), aj (by omega), aj (by omega), e5, e4]
  exact hn'
 ·simp only [P.aa1]
  rw [bq (by omega), List.drop_eq_nil_of_le (by omega), List.append_nil, List.take_of_length_le (by rw [uj]; omega)]
  rfl
theorem bg2 (words b : List Int) (hl : words.length = 8) (hi : In 18446744073709551616 words) (hb : In 256 b) (hn : b.length ≤ 1000000) {ρ : Type} (k : List Int → List Int → Option ρ) :
    P.oh 64 80 [1, 8, 7] [19, 61, 6] [28, 34, 39] [14, 18, 41] words b k = k (cv (thr p64 (toV 64 words) b (b.length / 128))) (rest 128 b) := by
 rw [P.afp]
 unfold P.aaz
 refine (bwg words b 80 [1, 8, 7] [19, 61, 6] [28, 34, 39] [14, 18, 41] words (List.replicate 8 0) hi _).trans ?_
 rw [show IntKind.i64.wrap ((64 : Int) * 2) = 128 from rfl, bxb _ (akr _ _) b hb hn, bsf _ (alv _ _ (akr _ _) _ _) _ _ _ hl]
theorem bwt (v : List (BitVec 64)) (hv : v.length = 8) (b : List Int) (hb : In 256 b) (hn : b.length ≤ 1000000) (kd : Int) (tl : List Int) (sz : Int) (a1 : Int) (a2 : List Int) (a3 : Int) {ρ : Type} (k0 : Int → List Int → Int → List Int → List Int → Int → Int → List Int → Int → Option ρ) :
    P.amf 128 b kd (cv v) tl sz a1 a2 a3 k0 = k0 128 (rest 128 b) kd (cv (thr p64 v b (b.length / 128))) tl sz a1 a2 a3 := by
 rw [P.ao3]
 unfold P.asf P.bt2 P.btf P.byy
 refine qy (fun i => (128, b.drop (128 * i), kd, cv (thr p64 v b i), tl, sz, a1, a2, a3)) (b.length / 128) (by simp [thr]) (fun i hi next hn' => ?_) (fun next => ?_) (by omega)
 ·simp only [P.ai3]
  have hlen : (b.drop (128 * i)).length = b.length - 128 * i := by simp
  have hge : 128 ≤ b.length - 128 * i := by omega
  simp only [hlen, show (128 : Int).toNat = 128 from rfl, toNat_cast, List.drop_zero]
  have hbl : ((b.drop (128 * i)).take 128).length = 16 * 8 := by rw [List.length_take, hlen]; omega
  rw [aj (by omega), aj (by omega), aj (by omega), show ((128 : Int) == 128) = true from rfl, bk6 _ (alv _ _ hv _ _) _ ((hb.drop _).take _) hbl, aj (by omega), aj (by omega), aj (by omega),
   List.take_of_length_le (by rw [hlen]; omega), List.drop_drop, show 128 * i + 128 = 128 * (i + 1) by omega]
  exact hn'
 ·simp only [P.ai3]
  have hlen : (b.drop (128 * (b.length / 128))).length = b.length - 128 * (b.length / 128) := by simp
  rw [bq (by rw [hlen]; omega)]
  rfl
end Q
end

section
/- Are two rows of bytes the same. -/
namespace Q
open Go Go.Abs
set_option linter.unusedVariables false
set_option linter.unusedSimpArgs false
end Q
end

section
/- SHA-2: sums that go on, and their ends. -/
namespace Q
open Go Go.Abs
set_option linter.unusedVariables false
set_option linter.unusedSimpArgs false
def bsz (kind : Int) : Nat := if kind = 1 then 64 else 128
theorem aqz (kind : Int) : (kind = 1 ∧ bsz kind = 64) ∨ (kind ≠ 1 ∧ bsz kind = 128) := by
 unfold bsz
 by_cases h : kind = 1
 ·exact .inl ⟨h, if_pos h⟩
 ·exact .inr ⟨h, if_neg h⟩
theorem qm (kind : Int) {ρ : Type} (k : Int → Option ρ) : P.qm kind k = k ((bsz kind : Nat) : Int) := by
 rw [P.akf]; unfold P.aep
 rcases aqz kind with ⟨h, e⟩ | ⟨h, e⟩
 ·rw [d9 h, e]; rfl
 ·rw [dh h, e]; rfl
theorem wz (kind : Int) {ρ : Type} (k : Int → Option ρ) : P.wz kind k = k ((bsz kind : Nat) : Int) := by
 rw [P.ato]; unfold P.aj9
 rcases aqz kind with ⟨h, e⟩ | ⟨h, e⟩
 ·rw [d9 h, e]; rfl
 ·rw [dh h, e]; rfl
def ax5 (kind : Int) (words all : List Int) : List Int :=
 if kind = 1 then cv (thr p32 (toV 32 words) all (all.length / 64)) else cv (thr p64 (toV 64 words) all (all.length / 128))
theorem amm (kind : Int) (words all : List Int) : (ax5 kind words all).length = 8 := by
 unfold ax5
 split <;> rw [uj, alv _ _ (akr _ _)]
def Wok (kind : Int) (words : List Int) : Prop := words.length = 8 ∧ In 18446744073709551616 words ∧ (kind = 1 → In 4294967296 words)
theorem aj8 (kind : Int) (words all : List Int) : Wok kind (ax5 kind words all) := by
 refine ⟨amm _ _ _, ?_, fun h => ?_⟩
 ·unfold ax5
  split
  ·intro x hx
   have := bra _ x hx
   omega
  ·intro x hx
   have := bra _ x hx
   omega
 ·unfold ax5
  rw [if_pos h]
  intro x hx
  have := bra _ x hx
  omega
theorem ah1 (n : Nat) (hn : 0 < n) (b : List Int) : (rest n b).length = b.length % n := by
 unfold rest
 rw [List.length_drop]
 have := Nat.div_add_mod b.length n
 omega
theorem al2 {n : Nat} {b : List Int} (h : In 256 b) : In 256 (rest n b) := h.drop _
theorem abp {ρ : Type} (k : Int → Int → List Int → List Int → List Int → List Int → Option ρ) : P.abp k = k 32 64 [7, 18, 3] [17, 19, 10] [2, 13, 22] [6, 11, 25] := by rw [P.atn]; rfl
theorem abj {ρ : Type} (k : Int → Int → List Int → List Int → List Int → List Int → Option ρ) : P.abj k = k 64 80 [1, 8, 7] [19, 61, 6] [28, 34, 39] [14, 18, 41] := by rw [P.as0]; rfl
theorem sw (kind : Int) (words tail : List Int) (size : Int) (b : List Int) (hl : words.length = 8) (hi : In 18446744073709551616 words) (ht : In 256 tail) (hb : In 256 b) (hn : tail.length + b.length ≤ 1000000) {ρ : Type} (k : Int → List Int → List Int → Int → Option ρ) :
    P.sw kind words tail size b k = k kind (ax5 kind words (tail ++ b)) (rest (bsz kind) (tail ++ b)) (IntKind.u64.wrap (size + IntKind.u64.wrap (b.length : Int))) := by
 rw [P.azc]; unfold P.aoe
 have hf : [tail, b].flatten = tail ++ b := by simp
 have hall : (tail ++ b).length ≤ 1000000 := by rw [List.length_append]; exact hn
 have hin : In 256 (tail ++ b) := ht.app hb
 have hr : ∀ n, (rest n (tail ++ b)).length ≤ 1000000 := fun n => by unfold rest; rw [List.length_drop]; omega
 rw [iy _ (by simp) (by rw [hf]; omega), hf]
 rcases aqz kind with ⟨h, e⟩ | ⟨h, e⟩
 ·rw [d9 h, abp, e]
  rw [bhc words _ hl hi hin hall]
  unfold P.og ax5
  have := hr 64
  rw [aj (by omega), if_pos h]
 ·rw [dh h, abj, e]
  rw [bg2 words _ hl hi hin hall]
  unfold P.og ax5
  have := hr 128
  rw [aj (by omega), if_neg h]
theorem abf (kind : Int) (words tail : List Int) (size : Int) (b : List Int) (hw : Wok kind words) (ht : In 256 tail) (hb : In 256 b) (hn : tail.length + b.length ≤ 1000000) {ρ : Type} (k : Int → List Int → List Int → Int → Option ρ) :
    P.abf kind words tail size b k = k kind (ax5 kind words (tail ++ b)) (rest (bsz kind) (tail ++ b)) (IntKind.u64.wrap (size + IntKind.u64.wrap (b.length : Int))) := by
 rw [P.ay3]; unfold P.ant
 obtain ⟨hl, hi, h1⟩ := hw
 have hf : [tail, b].flatten = tail ++ b := by simp
 have hall : (tail ++ b).length ≤ 1000000 := by rw [List.length_append]; exact hn
 have hin : In 256 (tail ++ b) := ht.app hb
 rw [wz, kr _ (by simp) (by rw [hf]; omega), hf]
 rcases aqz kind with ⟨h, e⟩ | ⟨h, e⟩
 ·have hv := bqt 32 words hl (h1 h)
  rw [e]
  conv => lhs; rw [← hv]
  rw [show ((64 : Nat) : Int) = 64 from rfl, btz _ (akr _ _) _ hin hall]
  unfold ax5
  rw [if_pos h]
 ·have hv := bqt 64 words hl hi
  rw [e]
  conv => lhs; rw [← hv]
  rw [show ((128 : Nat) : Int) = 128 from rfl, bwt _ (akr _ _) _ hin hall]
  unfold ax5
  rw [if_neg h]
def bjv (kind : Int) (tl : Nat) : Nat := if kind = 1 then (119 - tl) % 64 else (239 - tl) % 128 + 8
def pad (kind : Int) (tl : Nat) (size : Nat) : List Int := 128 :: List.replicate (bjv kind tl) 0 ++ (bsw 8 8 (size * 8 % 2 ^ 64)).reverse
def bgp (n : Nat) (words : List Int) (i : Nat) : List Int := ((List.range i).map fun j => (bsw 8 n (words.getD j 0).toNat).reverse).flatten
theorem apw (n : Nat) (words : List Int) (i : Nat) : bgp n words (i + 1) = bgp n words i ++ (bsw 8 n (words.getD i 0).toNat).reverse := by simp [bgp, List.range_succ]
theorem ahw (n : Nat) (words : List Int) : ∀ i, (bgp n words i).length = n * i
 | 0 => by simp [bgp]
 | i + 1 => by rw [apw, List.length_append, ahw n words i, List.length_reverse, ab1, Nat.mul_succ]
theorem bgc (n : Nat) (words : List Int) : ∀ i, In 256 (bgp n words i)
 | 0 => by simp [bgp, In]
 | i + 1 => by rw [apw]; exact (bgc n words i).app (be5 8 n _).rev
def bmz (kind : Int) (words tail : List Int) (size : Nat) : List Int :=
 let o := bgp (bsz kind / 16) (ax5 kind words (tail ++ pad kind tail.length size)) 8
 if kind = 2 then o.take 48 else o
theorem bq7 (kind : Int) (words tail : List Int) (size : Nat) : In 256 (bmz kind words tail size) := by
 unfold bmz
 simp only
 split
 ·exact (bgc _ _ _).take _
 ·exact bgc _ _ _
theorem bov (kind : Int) (words tail : List Int) (size : Nat) : (bmz kind words tail size).length = if kind = 1 then 32 else if kind = 2 then 48 else 64 := by
 unfold bmz
 simp only
 rcases aqz kind with ⟨h, e⟩ | ⟨h, e⟩
 ·rw [if_neg (by omega), if_pos h, ahw, e]
 ·rw [if_neg h, e]
  split
  ·rw [List.length_take, ahw]; decide
  ·rw [ahw]
theorem tmN (a b : Nat) : ((a : Nat) : Int).tmod (b : Int) = ((a % b : Nat) : Int) := by
 rw [Int.tmod_eq_emod_of_nonneg (by omega)]; rfl
theorem bm5 (kind : Int) (tl size : Nat) : In 256 (pad kind tl size) := by
 unfold pad
 refine In.app ?_ (be5 8 8 _).rev
 intro x hx
 rcases List.mem_cons.1 hx with rfl | hx
 ·omega
 ·rw [List.mem_replicate] at hx; omega
theorem bnv (kind : Int) (tl size : Nat) : (pad kind tl size).length = bjv kind tl + 9 := by
 unfold pad; simp
theorem bln (kind : Int) (tl : Nat) : bjv kind tl ≤ 200 := by
 unfold bjv; split <;> omega
theorem bo7 (n : Nat) (hn : n = 64 ∨ n = 128) (words : List Int) (hw : In 18446744073709551616 words) (a : Int) (b : List Int) (c : Int) (d : List Int) {ρ : Type} (k0 : Int → List Int → Int → List Int → Int → List Int → Int → List Int → Option ρ) :
    P.an6 (n : Int) words 0 [] a b c d k0 = k0 (n : Int) words 8 (bgp (n / 16) words 8) a b c d := by
 rw [P.ax7]
 unfold P.awe P.bxr P.bvr P.b1v
 have e16 : IntKind.i64.wrap ((n : Int).tdiv 16) = ((n / 16 : Nat) : Int) := by rcases hn with rfl | rfl <;> rfl
 refine qy (fun i => ((n : Int), words, (i : Int), bgp (n / 16) words i, a, b, c, d)) 8 rfl (fun i hi next hn' => ?_) (fun next => ?_) (by omega)
 ·simp only [P.anq, toNat_cast]
  have h1 := hw.getD i (by omega)
  have e4 : IntKind.i64.wrap ((i : Int) + 1) = ((i + 1 : Nat) : Int) := by rw [o9 (by omega) (by omega)]; omega
  have e5 : words.getD i 0 = (((words.getD i 0).toNat : Nat) : Int) := by omega
  rw [apw] at hn'
  rw [aj (by omega), aj (by omega), aj (by omega), e16, e5, gu _ _ (by omega) (by omega), e4]
  rw [aj (by rw [ahw, List.length_reverse, ab1]; rcases hn with rfl | rfl <;> omega)]
  exact hn'
 ·simp only [P.anq]
  rw [bq (by omega)]
  rfl
theorem shl3 (size : Nat) : IntKind.u64.wrap ((size : Int) * (2 : Int) ^ 3) = ((size * 8 % 2 ^ 64 : Nat) : Int) := by
 rw [bn5]; omega
theorem aak (kind : Int) (words tail : List Int) (size : Nat) (hl : words.length = 8) (hi : In 18446744073709551616 words) (ht : In 256 tail) (hn : tail.length < bsz kind) {ρ : Type} (k : List Int → Option ρ) :
    P.aak kind words tail (size : Int) k = k (bmz kind words tail size) := by
 rw [P.az8]; unfold P.anz
 rw [qm]
 have hz : IntKind.i64.wrap (IntKind.i64.wrap ((IntKind.i64.wrap (IntKind.i64.wrap (IntKind.i64.wrap (IntKind.i64.wrap ((2 : Int) * ((bsz kind : Nat) : Int)) - (1 : Int)) - IntKind.i64.wrap (((bsz kind : Nat) : Int).tdiv (8 : Int))) - (tail.length : Int))).tmod ((bsz kind : Nat) : Int) + IntKind.i64.wrap (((bsz kind : Nat) : Int).tdiv (8 : Int))) - (8 : Int)) = ((bjv kind tail.length : Nat) : Int) := by
  unfold bjv
  rcases aqz kind with ⟨h, e⟩ | ⟨h, e⟩
  ·rw [e] at hn ⊢
   rw [if_pos h, show IntKind.i64.wrap (IntKind.i64.wrap (IntKind.i64.wrap ((2 : Int) * ((64 : Nat) : Int)) - (1 : Int)) - IntKind.i64.wrap (((64 : Nat) : Int).tdiv (8 : Int))) = 119 from rfl, o9 (x := (119 : Int) - (tail.length : Int)) (by omega) (by omega),
    show (119 : Int) - (tail.length : Int) = ((119 - tail.length : Nat) : Int) by omega, tmN, show IntKind.i64.wrap (((64 : Nat) : Int).tdiv (8 : Int)) = 8 from rfl, o9 (x := ((((119 - tail.length) % 64 : Nat) : Int)) + 8) (by omega) (by omega), o9 (by omega) (by omega)]
   omega
  ·rw [e] at hn ⊢
   rw [if_neg h, show IntKind.i64.wrap (IntKind.i64.wrap (IntKind.i64.wrap ((2 : Int) * ((128 : Nat) : Int)) - (1 : Int)) - IntKind.i64.wrap (((128 : Nat) : Int).tdiv (8 : Int))) = 239 from rfl, o9 (x := (239 : Int) - (tail.length : Int)) (by omega) (by omega),
    show (239 : Int) - (tail.length : Int) = ((239 - tail.length : Nat) : Int) by omega, tmN, show IntKind.i64.wrap (((128 : Nat) : Int).tdiv (8 : Int)) = 16 from rfl, o9 (x := ((((239 - tail.length) % 128 : Nat) : Int)) + 16) (by omega) (by omega), o9 (by omega) (by omega)]
   omega
 have hb : bsz kind = 64 ∨ bsz kind = 128 := by rcases aqz kind with ⟨h, e⟩ | ⟨h, e⟩ <;> omega
 have hz2 := bln kind tail.length
 rw [hz]
 simp only [toNat_cast]
 rw [aj (by omega), aj (by omega), bq (by omega), aj (by omega), aj (by omega), shl3, show (8 : Int) = ((8 : Nat) : Int) from rfl, gu _ 8 (by omega) (by omega)]
 have hp : (List.replicate 1 (0 : Int)).set 0 (128 : Int) ++ List.replicate (bjv kind tail.length) (0 : Int) ++ (bsw 8 8 (size * 8 % 2 ^ 64)).reverse = pad kind tail.length size := rfl
 rw [aj (by
  show ((List.replicate (bjv kind tail.length) (0 : Int)).length + 0 + 1 + _) * 1 ≤ _
  rw [List.length_replicate, List.length_reverse, ab1]; omega), hp]
 have hpl := bnv kind tail.length size
 rw [sw kind words tail _ _ hl hi ht (bm5 _ _ _) (by omega), bo7 _ hb _ (aj8 _ _ _).2.1]
 unfold bmz
 simp only
 by_cases h2 : kind = 2
 ·have e : bsz kind = 128 := by unfold bsz; rw [if_neg (by omega)]
  rw [d9 h2, aj (by rw [ahw, e]; omega), if_pos h2]
  rfl
 ·rw [dh h2, if_neg h2]
theorem pads (n : Nat) (hn : n = 64 ∨ n = 128) (tl : Nat) (ht : tl < 200) (z m : Nat) (hm : m < n) (h1 : ∀ i, i < z → (tl + (1 + i)) % n ≠ m) (h2 : (tl + (1 + z)) % n = m) (hz : z ≤ 200) (c : Int) (kd : Int) (words tail : List Int) (size : Int) (hl : tail.length = tl) (d : Int) (hd : IntKind.i64.wrap ((n : Int) - d) = (m : Int)) :
    (d = 8 → ∀ {ρ : Type} (k0 : Int → Int → List Int → Int → List Int → List Int → Int → Option ρ), P.arp (n : Int) c [128] kd words tail size k0 = k0 (n : Int) c (128 :: List.replicate z 0) kd words tail size) ∧
    (d = 16 → ∀ {ρ : Type} (k0 : Int → Int → List Int → Int → List Int → List Int → Int → Option ρ), P.ars (n : Int) c [128] kd words tail size k0 = k0 (n : Int) c (128 :: List.replicate z 0) kd words tail size) := by
 have hlen : ∀ i : Nat, ((128 : Int) :: List.replicate i 0).length = 1 + i := fun i => by simp; omega
 have hc : ∀ i : Nat, i ≤ z → IntKind.i64.wrap (((tail.length : Nat) : Int) + ((((128 : Int) :: List.replicate i 0).length : Nat) : Int)) = ((tl + (1 + i) : Nat) : Int) := fun i hi => by
  rw [hlen, hl, o9 (by omega) (by omega)]; omega
 have hs : ∀ i : Nat, ((128 : Int) :: List.replicate i 0) ++ [(0 : Int)] = 128 :: List.replicate (i + 1) 0 := fun i => by
  rw [List.replicate_succ']; rfl
 constructor
 ·rintro rfl ρ k0
  rw [P.bb4]
  unfold P.ayz P.bym P.bud P.b4i
  refine qy (fun i => ((n : Int), c, 128 :: List.replicate i 0, kd, words, tail, size)) z rfl (fun i hi next hn' => ?_) (fun next => ?_) (by omega)
  ·simp only [P.asi]
   have := h1 i hi
   rw [hc i (by omega), tmN, hd, bq (by omega), gq (by omega), aj (by rw [hlen]; omega), hs]
   exact hn'
  ·simp only [P.asi]
   rw [hc z (by omega), tmN, hd, bq (by omega), h2, dz (by rfl)]
 ·rintro rfl ρ k0
  rw [P.bas]
  unfold P.azh P.byz P.bwl P.b0q
  refine qy (fun i => ((n : Int), c, 128 :: List.replicate i 0, kd, words, tail, size)) z rfl (fun i hi next hn' => ?_) (fun next => ?_) (by omega)
  ·simp only [P.arb]
   have := h1 i hi
   rw [hc i (by omega), tmN, hd, bq (by omega), gq (by omega), aj (by rw [hlen]; omega), hs]
   exact hn'
  ·simp only [P.arb]
   rw [hc z (by omega), tmN, hd, bq (by omega), h2, dz (by rfl)]
theorem bh2 (n : Nat) (hn : n = 64 ∨ n = 128) (words : List Int) (hw : In 18446744073709551616 words) (a : Int) (b : List Int) (c : Int) {ρ : Type} (k0 : Int → Int → List Int → Int → List Int → List Int → Int → Option ρ) :
    P.ajj (n : Int) 0 [] a words b c k0 = k0 (n : Int) 8 (bgp (n / 16) words 8) a words b c := by
 rw [P.ayb]
 unfold P.avw P.bxp P.bxi P.b2m
 have e16 : IntKind.i64.wrap ((n : Int).tdiv 16) = ((n / 16 : Nat) : Int) := by rcases hn with rfl | rfl <;> rfl
 refine qy (fun i => ((n : Int), (i : Int), bgp (n / 16) words i, a, words, b, c)) 8 rfl (fun i hi next hn' => ?_) (fun next => ?_) (by omega)
 ·simp only [P.an3, toNat_cast]
  have h1 := hw.getD i (by omega)
  have e4 : IntKind.i64.wrap ((i : Int) + 1) = ((i + 1 : Nat) : Int) := by rw [o9 (by omega) (by omega)]; omega
  have e5 : words.getD i 0 = (((words.getD i 0).toNat : Nat) : Int) := by omega
  rw [apw] at hn'
  rw [aj (by omega), aj (by omega), aj (by omega), e16, e5, gy _ _ (by omega) (by omega), e4]
  rw [aj (by rw [ahw, List.length_reverse, ab1]; rcases hn with rfl | rfl <;> omega)]
  exact hn'
 ·simp only [P.an3]
  rw [bq (by omega)]
  rfl
theorem bjc (kind : Int) (words tail : List Int) (size : Nat) {ρ : Type} (k : List Int → Option ρ) :
    (br (kind == (2 : Int)) (br (decide ((48 : Int) ≤ ((bgp (bsz kind / 16) (ax5 kind words (tail ++ pad kind tail.length size)) 8).length : Int))) (k (List.take ((48 : Int) - (0 : Int)).toNat (bgp (bsz kind / 16) (ax5 kind words (tail ++ pad kind tail.length size)) 8))) none)
     (k (bgp (bsz kind / 16) (ax5 kind words (tail ++ pad kind tail.length size)) 8))) = k (bmz kind words tail size) := by
 unfold bmz
 simp only
 by_cases h2 : kind = 2
 ·have e : bsz kind = 128 := by unfold bsz; rw [if_neg (by omega)]
  rw [d9 h2, aj (by rw [ahw, e]; omega), if_pos h2]
  rfl
 ·rw [dh h2, if_neg h2]
theorem ag4 (kind : Int) (words tail : List Int) (size : Nat) (hw : Wok kind words) (ht : In 256 tail) (hn : tail.length < bsz kind) (hs : size < 2305843009213693952) {ρ : Type} (k : List Int → Option ρ) :
    P.ag4 kind words tail (size : Int) k = k (bmz kind words tail size) := by
 rw [P.azj]; unfold P.aol
 have h8 : IntKind.u64.wrap ((size : Int) * 8) = ((size * 8 % 2 ^ 64 : Nat) : Int) := by rw [bn5]; omega
 have hpl := bnv kind tail.length size
 have hz2 := bln kind tail.length
 rw [wz, h8]
 rcases aqz kind with ⟨h, e⟩ | ⟨h, e⟩
 ·rw [e] at hn ⊢
  have hp := (pads 64 (.inl rfl) tail.length (by omega) (bjv kind tail.length) 56 (by omega) (fun i hi => by unfold bjv at hi; rw [if_pos h] at hi; omega) (by unfold bjv; rw [if_pos h]; omega) hz2 ((size * 8 % 2 ^ 64 : Nat) : Int) kind words tail (size : Int) rfl 8 rfl).1
  rw [hp rfl, dh (by decide), show (8 : Int) = ((8 : Nat) : Int) from rfl, gy _ 8 (by omega) (by omega), aj (by simp; omega)]
  have hpad : (128 : Int) :: List.replicate (bjv kind tail.length) 0 ++ (bsw 8 8 (size * 8 % 2 ^ 64)).reverse = pad kind tail.length size := rfl
  rw [hpad, abf kind words tail _ _ hw ht (bm5 _ _ _) (by omega), bh2 _ (.inl rfl) _ (aj8 _ _ _).2.1]
  have := bjc kind words tail size k
  rw [e] at this
  exact this
 ·rw [e] at hn ⊢
  have hp1 := (pads 128 (.inr rfl) tail.length (by omega) ((247 - tail.length) % 128) 120 (by omega) (fun i hi => by omega) (by omega) (by omega) ((size * 8 % 2 ^ 64 : Nat) : Int) kind words tail (size : Int) rfl 8 rfl).1
  have hp2 := (pads 128 (.inr rfl) tail.length (by omega) ((239 - tail.length) % 128) 112 (by omega) (fun i hi => by omega) (by omega) (by omega) ((size * 8 % 2 ^ 64 : Nat) : Int) kind words tail (size : Int) rfl 16 rfl).2
  have h61 : ((size : Nat) : Int).fdiv ((2 : Int) ^ 61) = ((0 : Nat) : Int) := by
   have := fdiv_pow size 61 61 (by omega)
   rw [Nat.div_eq_of_lt (by omega)] at this
   exact this
  rw [hp1 rfl, d9 (by rfl), hp2 rfl, h61, show (8 : Int) = ((8 : Nat) : Int) from rfl, gy _ 8 (by omega) (by omega), aj (by simp; omega), gy _ 8 (by omega) (by omega), aj (by simp; omega)]
  have hpad : (128 : Int) :: List.replicate ((239 - tail.length) % 128) 0 ++ (bsw 8 8 0).reverse ++ (bsw 8 8 (size * 8 % 2 ^ 64)).reverse = pad kind tail.length size := by
   unfold pad bjv
   rw [if_neg h, ← List.replicate_append_replicate]
   rfl
  rw [hpad, abf kind words tail _ _ hw ht (bm5 _ _ _) (by omega), bh2 _ (.inr rfl) _ (aj8 _ _ _).2.1]
  have := bjc kind words tail size k
  rw [e] at this
  exact this
def bqz (kind : Int) : List Int :=
 if kind = 1 then [1779033703, 3144134277, 1013904242, 2773480762, 1359893119, 2600822924, 528734635, 1541459225]
 else if kind = 2 then [14680500436340154072, 7105036623409894663, 10473403895298186519, 1526699215303891257, 7436329637833083697, 10282925794625328401, 15784041429090275239, 5167115440072839076]
 else [7640891576956012808, 13503953896175478587, 4354685564936845355, 11912009170470909681, 5840696475078001361, 11170449401992604703, 2270897969802886507, 6620516959819538809]
theorem baj (kind : Int) : Wok kind (bqz kind) := by
 unfold bqz Wok
 by_cases h1 : kind = 1
 ·simp only [if_pos h1]
  refine ⟨rfl, ?_, fun _ => ?_⟩
  ·unfold In; decide
  ·unfold In; decide
 ·by_cases h2 : kind = 2
  ·simp only [if_neg h1, if_pos h2]
   refine ⟨rfl, ?_, fun h => absurd h h1⟩
   unfold In; decide
  ·simp only [if_neg h1, if_neg h2]
   refine ⟨rfl, ?_, fun h => absurd h h1⟩
   unfold In; decide
def K3 (kind : Int) : Prop := kind = 1 ∨ kind = 2 ∨ kind = 3
theorem bgf {kind : Int} (h : K3 kind) {ρ : Type} (k : List Int → Bool → Option ρ) : P.ads kind k = k (bqz kind) true := by
 rw [P.aso]
 rcases h with rfl | rfl | rfl <;> kernel_rfl
theorem aah {kind : Int} (h : K3 kind) {ρ : Type} (k : Int → List Int → List Int → Int → Int → Option ρ) : P.aah kind k = k kind (bqz kind) [] 0 0 := by
 rw [P.ayo]; unfold P.ano
 rw [bgf h, jk, ny]
theorem ag2 {kind : Int} (h : K3 kind) {ρ : Type} (k : Int → List Int → List Int → Int → Int → Option ρ) : P.ag2 kind k = k kind (bqz kind) [] 0 0 := by
 rw [P.azo]; unfold P.aof bqz
 rcases h with rfl | rfl | rfl
 ·rw [d9 (by rfl)]; rfl
 ·rw [dh (by decide), d9 (by rfl)]; rfl
 ·rw [dh (by decide), dh (by decide), d9 (by rfl)]; rfl
theorem bbt (kind : Int) : 0 < bsz kind := by rcases aqz kind with ⟨h, e⟩ | ⟨h, e⟩ <;> omega
def brj (kind : Int) (b : List Int) : List Int := bmz kind (ax5 kind (bqz kind) b) (rest (bsz kind) b) b.length
theorem auu (b : List Int) (hn : b.length ≤ 1000000) : IntKind.u64.wrap ((0 : Int) + IntKind.u64.wrap (b.length : Int)) = ((b.length : Nat) : Int) := by
 rw [ab0 _ (by omega), Int.zero_add, ab0 _ (by omega)]
theorem ag6 {kind : Int} (h : K3 kind) (b : List Int) (hb : In 256 b) (hn : b.length ≤ 1000000) {ρ : Type} (k : List Int → Int → Option ρ) : P.ag6 kind b k = k (brj kind b) 0 := by
 rw [P.azv]; unfold P.an5
 have hw := baj kind
 have hr := ah1 _ (bbt kind) b
 have hlt := Nat.mod_lt b.length (bbt kind)
 rw [aah h, dz (by rfl), sw kind _ [] _ b hw.1 hw.2.1 In.nil hb (by simpa using hn), List.nil_append, auu b hn, aak kind _ _ _ (amm _ _ _) (aj8 _ _ _).2.1 (al2 hb) (by omega)]
 rfl
theorem agw {kind : Int} (h : K3 kind) (b : List Int) (hb : In 256 b) (hn : b.length ≤ 1000000) {ρ : Type} (k : List Int → Int → Option ρ) : P.agw kind b k = k (brj kind b) 0 := by
 rw [P.azx]; unfold P.anw
 have hw := baj kind
 have hr := ah1 _ (bbt kind) b
 have hlt := Nat.mod_lt b.length (bbt kind)
 rw [ag2 h, dz (by rfl), abf kind _ [] _ b hw In.nil hb (by simpa using hn), List.nil_append, auu b hn, ag4 kind _ _ _ (aj8 _ _ _) (al2 hb) (by omega) (by omega)]
 rfl
theorem br8 (kind : Int) (b : List Int) : In 256 (brj kind b) := bq7 _ _ _ _
theorem bpg (kind : Int) (b : List Int) : (brj kind b).length = if kind = 1 then 32 else if kind = 2 then 48 else 64 := bov _ _ _ _
end Q
end

section
/- SHA-2: bytes that are added one behind the other. -/
namespace Q
open Go Go.Abs
set_option linter.unusedVariables false
set_option linter.unusedSimpArgs false
theorem ay0 {w : Nat} (p : Par w) (v : List (BitVec w)) (a b : List Int) (m : Nat) (hm : (2 * w) * m = a.length) : ∀ i, thr p v (a ++ b) (m + i) = thr p (thr p v a m) b i ∧ thr p v (a ++ b) m = thr p v a m := by
 have key : ∀ i, i ≤ m → thr p v (a ++ b) i = thr p v a i := by
  intro i
  induction i with
  | zero => intro _; rfl
  | succ i ih =>
   intro hi
   have h1 : (2 * w) * i + 2 * w ≤ a.length := by
    rw [← hm, ← Nat.mul_succ]
    exact Nat.mul_le_mul (Nat.le_refl _) hi
   simp only [thr]
   rw [ih (by omega), List.drop_append_of_le_length (by omega), List.take_append_of_le_length (by rw [List.length_drop]; omega)]
 intro i
 refine ⟨?_, key m (Nat.le_refl _)⟩
 induction i with
 | zero => exact key m (Nat.le_refl _)
 | succ i ih =>
  rw [← Nat.add_assoc]
  simp only [thr]
  rw [ih, Nat.mul_add, hm, List.drop_append, List.drop_eq_nil_of_le (by omega), List.nil_append, Nat.add_sub_cancel_left]
theorem brb (words all : List Int) : ax5 1 words all = cv (thr p32 (toV 32 words) all (all.length / 64)) := if_pos rfl
theorem bp5 (words a b : List Int) : ax5 1 (ax5 1 words a) (rest 64 a ++ b) = ax5 1 words (a ++ b) := by
 have hlen := alv p32 (toV 32 words) (akr _ _) a (a.length / 64)
 rw [brb, brb, brb, bva _ hlen]
 have h0 : a = a.take (64 * (a.length / 64)) ++ rest 64 a := by unfold rest; rw [List.take_append_drop]
 have h1 : (a.take (64 * (a.length / 64))).length = 64 * (a.length / 64) := by rw [List.length_take]; omega
 have h2 := ah1 64 (by omega) a
 have e1 := ay0 p32 (toV 32 words) (a.take (64 * (a.length / 64))) (rest 64 a ++ b) (a.length / 64) h1.symm ((rest 64 a ++ b).length / 64)
 have e2 := ay0 p32 (toV 32 words) (a.take (64 * (a.length / 64))) (rest 64 a) (a.length / 64) h1.symm 0
 rw [← List.append_assoc, ← h0] at e1
 rw [← h0] at e2
 rw [e2.2, ← e1.1]
 congr 2
 rw [List.length_append, List.length_append, h2]
 omega
theorem bn9 (a b : List Int) : rest 64 (rest 64 a ++ b) = rest 64 (a ++ b) := by
 have h2 := ah1 64 (by omega) a
 have h3 : (a ++ b).drop (64 * (a.length / 64)) = rest 64 a ++ b := by unfold rest; rw [List.drop_append_of_le_length (by omega)]
 have hl : (rest 64 a ++ b).length = a.length % 64 + b.length := by rw [List.length_append, h2]
 have hq : (a ++ b).length / 64 = a.length / 64 + (rest 64 a ++ b).length / 64 := by
  rw [hl, List.length_append]; omega
 show (rest 64 a ++ b).drop (64 * ((rest 64 a ++ b).length / 64)) = (a ++ b).drop (64 * ((a ++ b).length / 64))
 rw [hq, Nat.mul_add, ← List.drop_drop, h3]
theorem bnj (a b : List Int) (n : Nat) (hn : n = (a ++ b).length) : bmz 1 (ax5 1 (ax5 1 (bqz 1) a) (rest 64 a ++ b)) (rest 64 (rest 64 a ++ b)) n = brj 1 (a ++ b) := by
 rw [bp5, bn9, hn]
 rfl
end Q
end

section
/- lmots: the digits as the program and as the document count them. -/
namespace Q
open Go Go.Abs
set_option linter.unusedVariables false
set_option linter.unusedSimpArgs false
theorem om {w p s : Nat} (h : Kind w p s) : ∃ t : Int, ∀ {ρ : Type} (k : Int → Int → Int → Option ρ), P.om (w : Int) k = k (p : Int) (s : Int) t := by
 rcases h with ⟨rfl, rfl, rfl⟩ | ⟨rfl, rfl, rfl⟩ | ⟨rfl, rfl, rfl⟩ | ⟨rfl, rfl, rfl⟩ 
 ·exact ⟨1, fun k => by rw [P.ac9]; kernel_rfl⟩
 ·exact ⟨2, fun k => by rw [P.ac9]; kernel_rfl⟩
 ·exact ⟨3, fun k => by rw [P.ac9]; kernel_rfl⟩
 ·exact ⟨4, fun k => by rw [P.ac9]; kernel_rfl⟩
theorem ng {w p s : Nat} (h : Kind w p s) : ∃ t : Int, ∀ {ρ : Type} (k : Int → Int → Int → Bool → Option ρ), P.ng (w : Int) k = k (p : Int) (s : Int) t true := by
 rcases h with ⟨rfl, rfl, rfl⟩ | ⟨rfl, rfl, rfl⟩ | ⟨rfl, rfl, rfl⟩ | ⟨rfl, rfl, rfl⟩ 
 ·exact ⟨1, fun k => by rw [P.aav]; kernel_rfl⟩
 ·exact ⟨2, fun k => by rw [P.aav]; kernel_rfl⟩
 ·exact ⟨3, fun k => by rw [P.aav]; kernel_rfl⟩
 ·exact ⟨4, fun k => by rw [P.aav]; kernel_rfl⟩
theorem ba1 (w : Int) : (∃ n p s : Nat, w = (n : Int) ∧ Kind n p s) ∨ (w ≠ 1 ∧ w ≠ 2 ∧ w ≠ 4 ∧ w ≠ 8) := by
 by_cases h1 : w = 1
 ·exact .inl ⟨1, 265, 7, h1, by simp [Kind]⟩
 ·by_cases h2 : w = 2
  ·exact .inl ⟨2, 133, 6, h2, by simp [Kind]⟩
  ·by_cases h4 : w = 4
   ·exact .inl ⟨4, 67, 4, h4, by simp [Kind]⟩
   ·by_cases h8 : w = 8
    ·exact .inl ⟨8, 34, 0, h8, by simp [Kind]⟩
    ·exact .inr ⟨h1, h2, h4, h8⟩
theorem bfw {w : Int} (h : w ≠ 1 ∧ w ≠ 2 ∧ w ≠ 4 ∧ w ≠ 8) {ρ : Type} (k : Int → Int → Int → Option ρ) : P.om w k = k 0 0 0 := by
 rw [P.ac9]; unfold P.al4
 rw [dh h.1, dh h.2.1, dh h.2.2.1, dh h.2.2.2]
theorem bch {w p s : Nat} (h : Kind w p s) : ((p : Int) == 0) = false := by
 rcases h with ⟨rfl, rfl, rfl⟩ | ⟨rfl, rfl, rfl⟩ | ⟨rfl, rfl, rfl⟩ | ⟨rfl, rfl, rfl⟩ <;> rfl
theorem bq0 {w p s : Nat} (h : Kind w p s) : IntKind.i64.wrap (Int.tdiv (256 : Int) (w : Int)) = ((256 / w : Nat) : Int) := by
 rcases h with ⟨rfl, rfl, rfl⟩ | ⟨rfl, rfl, rfl⟩ | ⟨rfl, rfl, rfl⟩ | ⟨rfl, rfl, rfl⟩ <;> rfl
theorem bf2 {w : Nat} {b : List Int} (hb : In (2 ^ w) b) (t : Nat) : ∃ x : Nat, b.getD t 0 = (x : Int) ∧ x < 2 ^ w := by
 have hp : ((2 : Int) ^ w) = ((2 ^ w : Nat) : Int) := by simp
 have := hb.getD t (by rw [hp]; have := p2 w; omega)
 rw [hp] at this
 exact ⟨(b.getD t 0).toNat, by omega, by omega⟩
theorem bqy {w p s : Nat} (hk : Kind w p s) (x : List Int) (i : Nat) : sumTo (ru x w ((256 / w : Nat) : Int)) i ≤ i * (2 ^ w - 1) := sumTo_le _ w (apj x w _) i
theorem aq9 {w p s : Nat} (hk : Kind w p s) (x : List Int) (hx : In 256 x) (hl : x.length = 32) {ρ : Type} (k : List Int → Int → Option ρ) : P.y7 (w : Int) x k = k (btj w p s x) 0 := by
 obtain ⟨t, ht⟩ := ng hk
 obtain ⟨f1, f2, f3, f4, f5, f6, f7, f8, f9, f10, f11⟩ := aem hk
 rw [P.al9]
 unfold P.af0
 have hn : (ru x w ((256 / w : Nat) : Int)).length = 256 / w := by
  rw [aen x w _ f1 (by omega) (by omega)]; simp
 rw [ht, jk, ny, dz (by omega), bq (by omega), bq0 hk, su _ _ _ hx (by omega), bq (by omega), hn]
 have hm : IntKind.u64.wrap (((256 / w : Nat) : Int)) = ((256 / w : Nat) : Int) := ab0 _ (by omega)
 simp only [toNat_cast]
 rw [hm, bny w (by omega), ← Int.natCast_mul, ab0 _ (by omega), P.apk]
 unfold P.alf P.byo P.buh P.b5l
 refine qy (fun i => ((w : Int), ((256 / w * (2 ^ w - 1) - sumTo (ru x w ((256 / w : Nat) : Int)) i : Nat) : Int), ((256 / w : Nat) : Int), (i : Int), (p : Int), (s : Int), t, ru x w ((256 / w : Nat) : Int))) (256 / w) (by simp [sumTo]) (fun i hi next hn' => ?_) (fun next => ?_) (by omega)
 ·obtain ⟨d, hd, hd2⟩ := bf2 (w := w) (apj x w ((256 / w : Nat) : Int)) i
  have hle := bqy hk x (i + 1)
  have hle2 : (i + 1) * (2 ^ w - 1) ≤ 256 / w * (2 ^ w - 1) := Nat.mul_le_mul hi (Nat.le_refl _)
  simp only [sumTo, hd, Int.toNat_natCast] at hn' hle
  simp only [P.aha, toNat_cast]
  rw [hd, ab0 d (by omega), show ((256 / w * (2 ^ w - 1) - sumTo (ru x w ((256 / w : Nat) : Int)) i : Nat) : Int) - (d : Int) = ((256 / w * (2 ^ w - 1) - (sumTo (ru x w ((256 / w : Nat) : Int)) i + d) : Nat) : Int) by omega, ab0 _ (by omega)]
  simp (disch := omega) only [aj, bq, gq, dz, d9, dh, jk, ny, um, o9, hn]
  exact hn'
 ·simp only [P.aha]
  have hleft : (256 / w * (2 ^ w - 1) - sumTo (ru x w ((256 / w : Nat) : Int)) (256 / w)) * 2 ^ s = left w s x := rfl
  have hlt := bng hk x
  have hn2 : (ru (bsw 8 2 (left w s x)).reverse w ((p - 256 / w : Nat) : Int)).length = p - 256 / w := by
   rw [aen _ w _ f1 (by omega) (by rw [Nat.sub_mul, Nat.mul_comm p w, f5]; simp; omega)]; simp
  rw [bq (by omega), bq (by omega)]
  simp only [toNat_cast]
  rw [mul_pow _ s 64 (by omega), hleft, ab0 _ (by omega), show (2 : Int) = ((2 : Nat) : Int) from rfl, gu _ 2 (by omega) (by omega), hn, o9 (by omega) (by omega), show (p : Int) - ((256 / w : Nat) : Int) = ((p - 256 / w : Nat) : Int) by omega,
   su _ _ _ (be5 8 2 _).rev (by simp), hn2, aj (by omega)]
  unfold btj
  rw [bjp hk x _ hl (by simp)]
theorem awo {w p s : Nat} (hk : Kind w p s) (x : List Int) (hx : In 256 x) (hl : x.length = 32) {ρ : Type} (k : List Int → Int → Option ρ) : P.ab8 (w : Int) x k = k (btj w p s x) 0 := by
 obtain ⟨t, ht⟩ := om hk
 obtain ⟨f1, f2, f3, f4, f5, f6, f7, f8, f9, f10, f11⟩ := aem hk
 rw [P.aow]
 unfold P.aiw
 have hn : (ru x w ((256 / w : Nat) : Int)).length = 256 / w := by
  rw [aen x w _ f1 (by omega) (by omega)]; simp
 rw [ht, bch hk, um, dz (by omega), bq (by omega), bq0 hk, vw _ _ _ hx (by omega), P.aug]
 unfold P.aqs P.bx2 P.bvo P.b38
 refine qy (fun i => ((w : Int), x, (p : Int), (s : Int), ((i * (2 ^ w - 1) - sumTo (ru x w ((256 / w : Nat) : Int)) i : Nat) : Int), (i : Int), ru x w ((256 / w : Nat) : Int))) (256 / w) (by simp [sumTo]) (fun i hi next hn' => ?_) (fun next => ?_) (by omega)
 ·obtain ⟨d, hd, hd2⟩ := bf2 (w := w) (apj x w ((256 / w : Nat) : Int)) i
  have hle := bqy hk x i
  have hle2 : (i + 1) * (2 ^ w - 1) ≤ 256 / w * (2 ^ w - 1) := Nat.mul_le_mul hi (Nat.le_refl _)
  have hs : (i + 1) * (2 ^ w - 1) = i * (2 ^ w - 1) + (2 ^ w - 1) := Nat.succ_mul i _
  simp only [sumTo, hd, Int.toNat_natCast] at hn'
  simp only [P.aj5, toNat_cast]
  rw [bny w (by omega), hd, ab0 d (by omega), ← Int.natCast_add, ab0 _ (by omega), show ((i * (2 ^ w - 1) - sumTo (ru x w ((256 / w : Nat) : Int)) i + (2 ^ w - 1) : Nat) : Int) - (d : Int) = (((i + 1) * (2 ^ w - 1) - (sumTo (ru x w ((256 / w : Nat) : Int)) i + d) : Nat) : Int) by omega, ab0 _ (by omega)]
  simp (disch := omega) only [aj, bq, gq, dz, d9, dh, jk, ny, um, o9, hn]
  exact hn'
 ·simp only [P.aj5]
  have hleft : (256 / w * (2 ^ w - 1) - sumTo (ru x w ((256 / w : Nat) : Int)) (256 / w)) * 2 ^ s = left w s x := rfl
  have hlt := bng hk x
  have hf : [x, (bsw 8 2 (left w s x)).reverse].flatten = x ++ (bsw 8 2 (left w s x)).reverse := by simp
  rw [bq (by rw [hn]; omega), bq (by omega)]
  simp only [toNat_cast]
  rw [mul_pow _ s 64 (by omega), hleft, ab0 _ (by omega), show (2 : Int) = ((2 : Nat) : Int) from rfl, gy _ 2 (by omega) (by omega), kr _ (by simp) (by rw [hf]; simp; omega), hf, vw _ _ _ (hx.app (be5 8 2 _).rev) (by simp; omega)]
  rfl
theorem lq {w p s : Nat} (hk : Kind w p s) {ρ : Type} (k : Int → Option ρ) : P.lq (w : Int) k = k ((36 + 32 * p : Nat) : Int) := by
 obtain ⟨t, ht⟩ := ng hk
 obtain ⟨f1, f2, f3, f4, f5, f6, f7, f8, f9, f10, f11⟩ := aem hk
 rw [P.aor]; unfold P.ah6
 rw [ht, jk, ny, o9 (x := (32 : Int) * (p : Int)) (by omega) (by omega), o9 (by omega) (by omega)]; rfl
theorem ac1 {w p s : Nat} (hk : Kind w p s) {ρ : Type} (k : Int → Option ρ) : P.ac1 (w : Int) k = k ((36 + 32 * p : Nat) : Int) := by
 obtain ⟨t, ht⟩ := om hk
 obtain ⟨f1, f2, f3, f4, f5, f6, f7, f8, f9, f10, f11⟩ := aem hk
 rw [P.an7]; unfold P.ahy
 rw [ht, bch hk, um, o9 (x := (32 : Int) * (p : Int)) (by omega) (by omega), o9 (by omega) (by omega)]; rfl
theorem bgq {w : Int} (h : w ≠ 1 ∧ w ≠ 2 ∧ w ≠ 4 ∧ w ≠ 8) {ρ : Type} (k : Int → Option ρ) : P.ac1 w k = k 0 := by
 rw [P.an7]; unfold P.ahy
 rw [bfw h]; kernel_rfl
theorem boy {w p s : Nat} (hk : Kind w p s) (x : List Int) (hl : x.length = 32) : (btj w p s x).length = p := by
 obtain ⟨f1, f2, f3, f4, f5, f6, f7, f8, f9, f10, f11⟩ := aem hk
 unfold btj
 rw [aen _ w p f1 (by omega) (by rw [Nat.mul_comm, f5]; simp; omega)]; simp
end Q
end

section
/- lmots: sums of a leaf. -/
namespace Q
open Go Go.Abs
set_option linter.unusedVariables false
set_option linter.unusedSimpArgs false
def beN (n s : Nat) : List Int := (bsw 8 s n).reverse
theorem adt (n s : Nat) : (beN n s).length = s := by simp [beN]
theorem am4 (n s : Nat) : In 256 (beN n s) := (be5 8 s n).rev
def bao (id : List Int) (q n : Nat) (l : List (List Int)) : List Int := brj 1 ((id ++ (beN q 4 ++ beN n 2)) ++ l.flatten)
theorem zi (id : List Int) (q n : Nat) (l : List (List Int)) : (bao id q n l).length = 32 := by
 unfold bao; rw [bpg, if_pos rfl]
theorem aod (id : List Int) (q n : Nat) (l : List (List Int)) : In 256 (bao id q n l) := br8 _ _
theorem bhr (a b : Nat) (h : a + b ≤ 1000000) : IntKind.u64.wrap (((a : Nat) : Int) + IntKind.u64.wrap ((b : Nat) : Int)) = ((a + b : Nat) : Int) := by
 rw [ab0 _ (by omega), ← Int.natCast_add, ab0 _ (by omega)]
theorem au2 (w : Int) (id : List Int) (q n : Nat) (d s c : Int) (l : List (List Int)) (hid : In 256 id) (h16 : id.length ≤ 300) (hq : q < 4294967296) (hn : n < 18446744073709551616) (hl : In 256 l.flatten) (hc : l.length ≤ 1000000) (hb : l.flatten.length ≤ 900000) {ρ : Type} (k : List Int → Option ρ) :
    P.iw w id (q : Int) d s c (n : Int) l k = k (bao id q n l) := by
 rw [P.ai1]; unfold P.adz
 have hw := baj 1
 have hf : [id, (bsw 8 4 q).reverse, (bsw 8 2 n).reverse].flatten = id ++ (beN q 4 ++ beN n 2) := by simp [beN]
 have hlen : (id ++ (beN q 4 ++ beN n 2)).length = id.length + 6 := by simp [adt]
 have hin : In 256 (id ++ (beN q 4 ++ beN n 2)) := hid.app ((am4 _ _).app (am4 _ _))
 have hr := ah1 64 (by omega) (id ++ (beN q 4 ++ beN n 2))
 have hr2 := ah1 64 (by omega) (rest 64 (id ++ (beN q 4 ++ beN n 2)) ++ l.flatten)
 have hlt := Nat.mod_lt (rest 64 (id ++ (beN q 4 ++ beN n 2)) ++ l.flatten).length (show 0 < 64 by omega)
 rw [aah (.inl rfl), ab0 _ (by omega), show (4 : Int) = ((4 : Nat) : Int) from rfl, gu q 4 (by omega) (by omega), show (2 : Int) = ((2 : Nat) : Int) from rfl, gu n 2 hn (by omega), fq _ (by simp) (by rw [hf]; omega), hf,
  sw 1 _ [] _ _ hw.1 hw.2.1 In.nil hin (by rw [hlen, List.length_nil]; omega), List.nil_append, auu _ (by omega), show bsz 1 = 64 from rfl, fq l (by omega) (by omega),
  sw 1 _ _ _ _ (amm _ _ _) (aj8 _ _ _).2.1 (al2 hin) hl (by omega), show bsz 1 = 64 from rfl, bhr _ _ (by omega), aak 1 _ _ _ (amm _ _ _) (aj8 _ _ _).2.1 (al2 ((al2 hin).app hl)) (by rw [hr2]; exact hlt),
  bnj _ _ _ (by simp only [List.length_append])]
 rfl
theorem H14 (l : List (List Int)) (hl : In 256 l.flatten) (hc : l.length ≤ 1000000) (hb : l.flatten.length ≤ 1000000) {ρ : Type} (k : List Int → Option ρ) : P.ad1 l k = k (brj 1 l.flatten) := by
 rw [P.bjd]; unfold P.au5
 rw [kr l (by omega) (by omega), agw (.inl rfl) _ hl hb]
theorem ahs (id : List Int) (q n : Nat) (l : List (List Int)) (hid : In 256 id) (h16 : id.length ≤ 300) (hl : In 256 l.flatten) (hc : l.length ≤ 900000) (hb : l.flatten.length ≤ 900000) {ρ : Type} (k : List Int → Option ρ) :
    P.ad1 (id :: (bsw 8 4 q).reverse :: (bsw 8 2 n).reverse :: l) k = k (bao id q n l) := by
 have hf : (id :: (bsw 8 4 q).reverse :: (bsw 8 2 n).reverse :: l).flatten = (id ++ (beN q 4 ++ beN n 2)) ++ l.flatten := by simp [beN]
 have hlen : (id ++ (beN q 4 ++ beN n 2)).length = id.length + 6 := by simp [adt]
 rw [H14 _ (by rw [hf]; exact (hid.app ((am4 _ _).app (am4 _ _))).app hl) (by simp only [List.length_cons]; omega) (by rw [hf, List.length_append, hlen]; omega), hf]
 rfl
def chS (id : List Int) (q i f : Nat) (y : List Int) : Nat → List Int
 | 0 => y
 | j + 1 => bao id q i [[((f + j : Nat) : Int)], chS id q i f y j]
theorem ba8 (id : List Int) (q i f : Nat) (y : List Int) (hy : y.length = 32) : ∀ j, (chS id q i f y j).length = 32
 | 0 => hy
 | j + 1 => zi _ _ _ _
theorem bkw (id : List Int) (q i f : Nat) (y : List Int) (hy : In 256 y) : ∀ j, In 256 (chS id q i f y j)
 | 0 => hy
 | j + 1 => aod _ _ _ _
def o7 (id : List Int) (q i : Nat) (seed : List Int) : List Int := bao id q i [[255], seed]
theorem adg (id : List Int) (q i : Nat) (seed : List Int) : In 256 (o7 id q i seed) := aod _ _ _ _
theorem ake (id : List Int) (q i : Nat) (seed : List Int) : (o7 id q i seed).length = 32 := zi _ _ _ _
theorem aw2 {b : Int} {y : List Int} (hb : 0 ≤ b ∧ b < 256) (hy : In 256 y) : In 256 [[b], y].flatten := by
 have e : [[b], y].flatten = [b] ++ y := by simp
 rw [e]
 refine In.app ?_ hy
 intro x hx
 simp only [List.mem_singleton] at hx
 subst hx; exact hb
theorem bbr (b : Int) (y : List Int) : [[b], y].flatten.length = y.length + 1 := by simp
theorem awq (w : Int) (id : List Int) (q i : Nat) (d s c : Int) (seed : List Int) (hid : In 256 id) (h16 : id.length ≤ 300) (hq : q < 4294967296) (hi : i < 18446744073709551616) (hs : In 256 seed) (hsl : seed.length ≤ 300) {ρ : Type} (k : List Int → Option ρ) :
    P.mo w id (q : Int) d s c (i : Int) seed k = k (o7 id q i seed) := by
 rw [P.ahp]; unfold P.ac3
 rw [au2 w id q i d s c _ hid h16 hq hi (aw2 (by omega) hs) (by simp) (by rw [bbr]; omega)]
 rfl
theorem ay5 (w : Int) (id : List Int) (q i f n : Nat) (d s c : Int) (y : List Int) (hid : In 256 id) (h16 : id.length ≤ 300) (hq : q < 4294967296) (hi : i < 100000) (hf : f + n ≤ 256) (hy : In 256 y) (hyl : y.length = 32) {ρ : Type} (k : List Int → Option ρ) :
    P.jy w id (q : Int) d s c (i : Int) (f : Int) (n : Int) y k = k (chS id q i f y n) := by
 rw [P.agx]; unfold P.acp
 rw [P.akl]
 unfold P.ahd P.bxn P.bvl P.b1f
 refine qy (fun j => ((i : Int), (f : Int), chS id q i f y j, (n : Int), (j : Int), w, id, (q : Int), d, s, c)) n rfl (fun j hj next hn' => ?_) (fun next => ?_) (by omega)
 ·simp only [P.ac4]
  have e1 : IntKind.u8.wrap (IntKind.u32.wrap ((f : Int) + (j : Int))) = ((f + j : Nat) : Int) := by
   rw [← Int.natCast_add, bjf _ (by omega), u8n _ (by omega)]
  have e2 : IntKind.u32.wrap ((j : Int) + 1) = ((j + 1 : Nat) : Int) := by rw [show ((j : Int) + 1) = ((j + 1 : Nat) : Int) by omega, bjf _ (by omega)]
  have hl := ba8 id q i f y hyl j
  rw [aj (by omega), ab0 _ (by omega), e1, e2, au2 w id q i d s c _ hid h16 hq (by omega) (aw2 (by omega) (bkw _ _ _ _ _ hy _)) (by simp) (by rw [bbr]; omega)]
  exact hn'
 ·simp only [P.ac4]
  rw [bq (by omega)]
theorem bmj (id : List Int) (q i : Nat) (seed : List Int) (hid : In 256 id) (h16 : id.length ≤ 300) (hq : q < 4294967296) (hi : i < 18446744073709551616) (hs : In 256 seed) (hsl : seed.length ≤ 300) {ρ : Type} (k : List Int → Option ρ) :
    P.acf id (q : Int) (i : Int) seed k = k (o7 id q i seed) := by
 rw [P.avc]; unfold P.ama
 rw [ab0 _ (by omega), ab0 _ (by omega), show (4 : Int) = ((4 : Nat) : Int) from rfl, gy q 4 (by omega) (by omega), show (2 : Int) = ((2 : Nat) : Int) from rfl, gy i 2 hi (by omega), ahs id q i [[255], seed] hid h16 (aw2 (by omega) hs) (by simp) (by rw [bbr]; omega)]
 rfl
theorem bml (id : List Int) (q i f t : Nat) (y : List Int) (hid : In 256 id) (h16 : id.length ≤ 300) (hq : q < 4294967296) (hi : i < 100000) (hft : f ≤ t) (ht : t ≤ 256) (hy : In 256 y) (hyl : y.length = 32) {ρ : Type} (k : List Int → Option ρ) :
    P.aaq id (q : Int) (i : Int) (f : Int) (t : Int) y k = k (chS id q i f y (t - f)) := by
 rw [P.as3]; unfold P.ajd
 rw [P.axc]
 unfold P.atw P.by3 P.bw8 P.bz0
 refine qy (fun j => (id, (q : Int), (i : Int), (t : Int), chS id q i f y j, ((f + j : Nat) : Int))) (t - f) rfl (fun j hj next hn' => ?_) (fun next => ?_) (by omega)
 ·simp only [P.akx]
  have e1 : IntKind.u8.wrap ((f + j : Nat) : Int) = ((f + j : Nat) : Int) := u8n _ (by omega)
  have e2 : IntKind.i64.wrap (((f + j : Nat) : Int) + 1) = ((f + (j + 1) : Nat) : Int) := by rw [o9 (by omega) (by omega)]; omega
  have hl := ba8 id q i f y hyl j
  rw [aj (by omega), ab0 _ (by omega), ab0 _ (by omega), e1, e2, show (4 : Int) = ((4 : Nat) : Int) from rfl, gy q 4 (by omega) (by omega), show (2 : Int) = ((2 : Nat) : Int) from rfl, gy i 2 (by omega) (by omega), ahs id q i [[((f + j : Nat) : Int)], chS id q i f y j] hid h16 (aw2 (by omega) (bkw _ _ _ _ _ hy _)) (by simp) (by rw [bbr]; omega)]
  exact hn'
 ·simp only [P.akx]
  rw [bq (by omega)]
end Q
end

section
/- lmots: keys, signatures, and what these lead to. -/
namespace Q
open Go Go.Abs
set_option linter.unusedVariables false
set_option linter.unusedSimpArgs false
def adi (w : Nat) : Nat := if w = 1 then 1 else if w = 2 then 2 else if w = 4 then 3 else 4
theorem brw {w p s : Nat} (h : Kind w p s) {ρ : Type} (k : Int → Int → Int → Bool → Option ρ) : P.ng (w : Int) k = k (p : Int) (s : Int) ((adi w : Nat) : Int) true := by
 rw [P.aav]
 rcases h with ⟨rfl, rfl, rfl⟩ | ⟨rfl, rfl, rfl⟩ | ⟨rfl, rfl, rfl⟩ | ⟨rfl, rfl, rfl⟩ <;> kernel_rfl
theorem bik {w p s : Nat} (h : Kind w p s) {ρ : Type} (k : Int → Int → Int → Option ρ) : P.om (w : Int) k = k (p : Int) (s : Int) ((adi w : Nat) : Int) := by
 rw [P.ac9]
 rcases h with ⟨rfl, rfl, rfl⟩ | ⟨rfl, rfl, rfl⟩ | ⟨rfl, rfl, rfl⟩ | ⟨rfl, rfl, rfl⟩ <;> kernel_rfl
theorem auw (w : Nat) : adi w < 5 := by unfold adi; split <;> (try split) <;> (try split) <;> omega
theorem boj {w p s : Nat} (h : Kind w p s) (id : List Int) (q : Int) (hl : id.length = 16) {ρ : Type} (k : Int → List Int → Int → Int → Int → Int → Int → Option ρ) : P.uy (w : Int) id q k = k (w : Int) id q (p : Int) (s : Int) ((adi w : Nat) : Int) 0 := by
 rw [P.am3]; unfold P.agn
 rw [brw h, jk, ny, dz (by rw [hl]; rfl)]
theorem bev {w p s : Nat} (h : Kind w p s) (id : List Int) (q : Int) (seed : List Int) (hl : id.length = 16) (hs : seed.length = 32) {ρ : Type} (k : Int → List Int → Int → Int → Int → Int → Int → Option ρ) : P.qz (w : Int) id q seed k = k (w : Int) id q (p : Int) (s : Int) ((adi w : Nat) : Int) 0 := by
 rw [P.akq]; unfold P.afu
 rw [boj h id q hl, d9 (by rfl), dz (by rw [hs]; rfl)]
theorem bhp {w p s : Nat} (h : Kind w p s) (id seed : List Int) (hl : id.length = 16) (hs : seed.length = 32) {ρ : Type} (k : Int → Option ρ) : P.aap (w : Int) id seed k = k 0 := by
 rw [P.asx]; unfold P.ajc
 rw [bik h, bch h, um, dz (by rw [hl]; rfl), dz (by rw [hs]; rfl)]
theorem boh {w p s : Nat} (h : Kind w p s) (id : List Int) (q a b c : Int) {ρ : Type} (k : Int → Option ρ) : P.mh (w : Int) id q a b c k = k ((2 ^ w - 1 : Nat) : Int) := by
 rw [P.ag3]
 rcases h with ⟨rfl, rfl, rfl⟩ | ⟨rfl, rfl, rfl⟩ | ⟨rfl, rfl, rfl⟩ | ⟨rfl, rfl, rfl⟩ <;> kernel_rfl
theorem bpd {w p s : Nat} (h : Kind w p s) : IntKind.i64.wrap (IntKind.i64.wrap ((1 : Int) * (2 : Int) ^ min ((w : Int)).toNat 64) - (1 : Int)) = ((2 ^ w - 1 : Nat) : Int) := by
 rcases h with ⟨rfl, rfl, rfl⟩ | ⟨rfl, rfl, rfl⟩ | ⟨rfl, rfl, rfl⟩ | ⟨rfl, rfl, rfl⟩ <;> rfl
theorem pw {w p s : Nat} (h : Kind w p s) : 2 ^ w ≤ 256 ∧ 1 ≤ 2 ^ w ∧ p ≤ 265 ∧ 1 ≤ p := by
 rcases h with ⟨rfl, rfl, rfl⟩ | ⟨rfl, rfl, rfl⟩ | ⟨rfl, rfl, rfl⟩ | ⟨rfl, rfl, rfl⟩ <;> decide
def agu (f : Nat → List Int) (n : Nat) : List Int := ((List.range n).map f).flatten
theorem adh (f : Nat → List Int) (n : Nat) : agu f (n + 1) = agu f n ++ f n := by simp [agu, List.range_succ]
theorem aea (f : Nat → List Int) (h : ∀ i, (f i).length = 32) : ∀ n, (agu f n).length = 32 * n
 | 0 => by simp [agu]
 | n + 1 => by rw [adh, List.length_append, aea f h n, h]; omega
theorem bam (f : Nat → List Int) (h : ∀ i, In 256 (f i)) : ∀ n, In 256 (agu f n)
 | 0 => by simp [agu, In]
 | n + 1 => by rw [adh]; exact (bam f h n).app (h n)
theorem b0g (id : List Int) (q : Nat) (l : List (List Int)) (hid : In 256 id) (h16 : id.length ≤ 300) (hq : q < 4294967296) (hl : In 256 l.flatten) (hc : l.length ≤ 1000) (hb : l.flatten.length ≤ 100000) {ρ : Type} (k : List Int → Option ρ) :
    P.ajr id (q : Int) l k = k (bao id q 32896 [l.flatten]) := by
 rw [P.ayu]; unfold P.anr
 have hf : [l.flatten].flatten = l.flatten := by simp
 rw [ab0 _ (by omega), show (4 : Int) = ((4 : Nat) : Int) from rfl, gy q 4 (by omega) (by omega), show (2 : Int) = ((2 : Nat) : Int) from rfl, show (32896 : Int) = ((32896 : Nat) : Int) from rfl, gy 32896 2 (by omega) (by omega), kr l (by omega) (by omega), ahs id q 32896 [l.flatten] hid h16 (by rw [hf]; exact hl) (by simp) (by rw [hf]; omega)]
def azy (w : Nat) (id : List Int) (q : Nat) (seed : List Int) (i : Nat) : List Int := chS id q i 0 (o7 id q i seed) (2 ^ w - 1)
theorem aro (w : Nat) (id : List Int) (q : Nat) (seed : List Int) (i : Nat) : (azy w id q seed i).length = 32 := ba8 _ _ _ _ _ (zi _ _ _ _) _
theorem bdn (w : Nat) (id : List Int) (q : Nat) (seed : List Int) (i : Nat) : In 256 (azy w id q seed i) := bkw _ _ _ _ _ (aod _ _ _ _) _
def btg (w p : Nat) (id : List Int) (q : Nat) (seed : List Int) : List Int := bao id q 32896 [agu (azy w id q seed) p]
theorem bh8 (x : List Int) : [x].flatten = x := by simp
theorem blx {w p s : Nat} (h : Kind w p s) (id : List Int) (q : Nat) (seed : List Int) (hid : In 256 id) (hq : q < 4294967296) (hsd : In 256 seed) (hl : id.length = 16) (hs : seed.length = 32) {ρ : Type} (k : List Int → Int → Option ρ) :
    P.y5 (w : Int) id (q : Int) seed k = k (btg w p id q seed) 0 := by
 rw [P.alz]; unfold P.afy
 obtain ⟨f1, f2, f3, f4⟩ := pw h
 have hel := aea _ (aro w id q seed)
 rw [bev h id q seed hl hs, dz (by rfl), P.aql]
 unfold P.ak0 P.bx3 P.bu9 P.bzt
 refine qy (fun i => (seed, (p : Int), (i : Int), agu (azy w id q seed) i, (w : Int), id, (q : Int), (p : Int), (s : Int), ((adi w : Nat) : Int))) p rfl (fun i hi next hn' => ?_) (fun next => ?_) (by omega)
 ·simp only [P.ag1]
  rw [adh] at hn'
  have e3 : IntKind.i64.wrap ((i : Int) + 1) = ((i + 1 : Nat) : Int) := by rw [o9 (by omega) (by omega)]; omega
  have hpl : (o7 id q i seed).length = 32 := zi _ _ _ _
  have := aro w id q seed i
  rw [aj (by omega), boh h, ab0 _ (by omega), awq _ id q i _ _ _ seed hid (by omega) hq (by omega) hsd (by omega), show (0 : Int) = ((0 : Nat) : Int) from rfl, ay5 _ id q i 0 (2 ^ w - 1) _ _ _ _ hid (by omega) hq (by omega) (by omega) (adg id q i seed) hpl, e3]
  rw [aj (by rw [hel]; show (_ + (azy w id q seed i).length) * 1 ≤ _; rw [this]; omega)]
  exact hn'
 ·simp only [P.ag1]
  have he := hel p
  rw [bq (by omega), show (32896 : Int) = ((32896 : Nat) : Int) from rfl, au2 _ id q 32896 _ _ _ _ hid (by omega) hq (by omega) (by rw [bh8]; exact bam _ (bdn w id q seed) p) (by simp) (by rw [bh8]; omega)]
  rfl
theorem bbl {w p s : Nat} (h : Kind w p s) (id : List Int) (q : Nat) (seed : List Int) (hid : In 256 id) (hq : q < 4294967296) (hsd : In 256 seed) (hl : id.length = 16) (hs : seed.length = 32) {ρ : Type} (k : List Int → Int → Option ρ) :
    P.ab9 (w : Int) id (q : Int) seed k = k (btg w p id q seed) 0 := by
 rw [P.aqx]; unfold P.aii
 obtain ⟨f1, f2, f3, f4⟩ := pw h
 have hel := aea _ (aro w id q seed)
 rw [bhp h id seed hl hs, dz (by rfl), bik h, P.aul]
 unfold P.ao9 P.byw P.bw4 P.b2d
 refine qy (fun i => ((w : Int), id, (q : Int), seed, (p : Int), (i : Int), (List.range i).map (azy w id q seed))) p rfl (fun i hi next hn' => ?_) (fun next => ?_) (by omega)
 ·simp only [P.ajy]
  rw [List.range_succ, List.map_append, List.map_singleton] at hn'
  have e3 : IntKind.i64.wrap ((i : Int) + 1) = ((i + 1 : Nat) : Int) := by rw [o9 (by omega) (by omega)]; omega
  have hpl : (o7 id q i seed).length = 32 := zi _ _ _ _
  rw [aj (by omega), bq (by omega), bmj id q i seed hid (by omega) hq (by omega) hsd (by omega), bpd h, show (0 : Int) = ((0 : Nat) : Int) from rfl, bml id q i 0 (2 ^ w - 1) _ hid (by omega) hq (by omega) (by omega) (by omega) (adg id q i seed) hpl, e3,
   aj (by rw [List.length_map, List.length_range]; omega)]
  exact hn'
 ·simp only [P.ajy]
  have he := hel p
  unfold agu at he
  rw [bq (by omega), b0g id q _ hid (by omega) hq (bam _ (bdn w id q seed) p) (by rw [List.length_map, List.length_range]; omega) (by omega)]
  rfl
def bqa (w p s : Nat) (id : List Int) (q : Nat) (c text : List Int) : List Int := btj w p s (bao id q 33153 [c, text])
theorem bil {w p s : Nat} (h : Kind w p s) (id : List Int) (q : Nat) (c text : List Int) : (bqa w p s id q c text).length = p := boy h _ (zi _ _ _ _)
theorem bmb {w p s : Nat} (h : Kind w p s) (id : List Int) (q : Nat) (c text : List Int) (i : Nat) : ∃ d : Nat, (bqa w p s id q c text).getD i 0 = (d : Int) ∧ d ≤ 2 ^ w - 1 ∧ ((bqa w p s id q c text).getD i 0).toNat = d := by
 have hin : In (2 ^ w) (bqa w p s id q c text) := apj _ _ _
 obtain ⟨d, h1, h2⟩ := bf2 (w := w) hin i
 exact ⟨d, h1, by omega, by omega⟩
def apz (w p s : Nat) (id : List Int) (q : Nat) (seed text : List Int) (i : Nat) : List Int :=
 chS id q i 0 (o7 id q i seed) ((bqa w p s id q (o7 id q 65533 seed) text).getD i 0).toNat
theorem amo (w p s : Nat) (id : List Int) (q : Nat) (seed text : List Int) (i : Nat) : (apz w p s id q seed text i).length = 32 := ba8 _ _ _ _ _ (zi _ _ _ _) _
def bhy (w p s : Nat) (id : List Int) (q : Nat) (seed text : List Int) : List Int := (beN (adi w) 4 ++ o7 id q 65533 seed) ++ agu (apz w p s id q seed text) p
theorem ba6 (w p s : Nat) (id : List Int) (q : Nat) (seed text : List Int) : (bhy w p s id q seed text).length = 36 + 32 * p := by
 have hc : (o7 id q 65533 seed).length = 32 := zi _ _ _ _
 unfold bhy
 rw [List.length_append, List.length_append, adt, hc, aea _ (amo w p s id q seed text)]
theorem bxd {c text : List Int} (hc : In 256 c) (ht : In 256 text) : In 256 [c, text].flatten := by
 have e : [c, text].flatten = c ++ text := by simp
 rw [e]; exact hc.app ht
theorem bqf (c text : List Int) : [c, text].flatten.length = c.length + text.length := by simp
theorem bfp {w p s : Nat} (h : Kind w p s) (id : List Int) (q : Nat) (a b : Int) (cc : Int) (c text : List Int) (hid : In 256 id) (h16 : id.length = 16) (hq : q < 4294967296) (hc : In 256 c) (hcl : c.length = 32) (ht : In 256 text) (htl : text.length ≤ 300) {ρ : Type} (k : List Int → Option ρ) :
    P.jv (w : Int) id (q : Int) a b cc c text k = k (bqa w p s id q c text) := by
 rw [P.aee]; unfold P.aal
 rw [show (33153 : Int) = ((33153 : Nat) : Int) from rfl, au2 _ id q 33153 _ _ _ _ hid (by omega) hq (by omega) (bxd hc ht) (by simp) (by rw [bqf]; omega), aq9 h _ (aod _ _ _ _) (zi _ _ _ _)]
 rfl
theorem bpc (id : List Int) (q : Nat) (c text : List Int) (hid : In 256 id) (h16 : id.length = 16) (hq : q < 4294967296) (hc : In 256 c) (hcl : c.length = 32) (ht : In 256 text) (htl : text.length ≤ 300) {ρ : Type} (k : List Int → Option ρ) :
    P.ace id (q : Int) c text k = k (bao id q 33153 [c, text]) := by
 rw [P.apr]; unfold P.aic
 rw [ab0 _ (by omega), show (4 : Int) = ((4 : Nat) : Int) from rfl, gy q 4 (by omega) (by omega), show (2 : Int) = ((2 : Nat) : Int) from rfl, show (33153 : Int) = ((33153 : Nat) : Int) from rfl, gy 33153 2 (by omega) (by omega), ahs id q 33153 [c, text] hid (by omega) (bxd hc ht) (by simp) (by rw [bqf]; omega)]
theorem bri {w p s : Nat} (h : Kind w p s) (id : List Int) (q : Nat) (seed text : List Int) (hid : In 256 id) (hq : q < 4294967296) (hsd : In 256 seed) (hl : id.length = 16) (hs : seed.length = 32) (ht : In 256 text) (htl : text.length ≤ 300) {ρ : Type} (k : List Int → Int → Option ρ) :
    P.tq (w : Int) id (q : Int) seed text k = k (bhy w p s id q seed text) 0 := by
 rw [P.apa]; unfold P.aio
 obtain ⟨f1, f2, f3, f4⟩ := pw h
 have hel := aea _ (amo w p s id q seed text)
 have hcl : (o7 id q 65533 seed).length = 32 := zi _ _ _ _
 have hcd := auw w
 have hf : [(bsw 8 4 (adi w)).reverse, o7 id q 65533 seed].flatten = beN (adi w) 4 ++ o7 id q 65533 seed := by simp [beN]
 have hfl : (beN (adi w) 4 ++ o7 id q 65533 seed).length = 36 := by rw [List.length_append, adt, hcl]
 have hdl := bil h id q (o7 id q 65533 seed) text
 rw [bev h id q seed hl hs, dz (by rfl), show (65533 : Int) = ((65533 : Nat) : Int) from rfl, awq _ id q 65533 _ _ _ seed hid (by omega) hq (by omega) hsd (by omega), ab0 _ (by omega), show (4 : Int) = ((4 : Nat) : Int) from rfl, gu (adi w) 4 (by omega) (by omega),
  fq _ (by simp) (by rw [hf, hfl]; omega), hf, bfp h id q _ _ _ _ text hid hl hq (adg id q 65533 seed) hcl ht htl, hdl, P.aum]
 unfold P.ap0 P.bxt P.btw P.by6
 refine qy (fun i => (seed, (p : Int), (i : Int), (beN (adi w) 4 ++ o7 id q 65533 seed) ++ agu (apz w p s id q seed text) i, (w : Int), id, (q : Int), (p : Int), (s : Int), ((adi w : Nat) : Int), bqa w p s id q (o7 id q 65533 seed) text)) p (by simp [agu]) (fun i hi next hn' => ?_) (fun next => ?_) (by omega)
 ·simp only [P.ajq, toNat_cast]
  rw [adh, ← List.append_assoc] at hn'
  have e3 : IntKind.i64.wrap ((i : Int) + 1) = ((i + 1 : Nat) : Int) := by rw [o9 (by omega) (by omega)]; omega
  have hpl : (o7 id q i seed).length = 32 := zi _ _ _ _
  obtain ⟨d, d1, d2, d3⟩ := bmb h id q (o7 id q 65533 seed) text i
  have hse : apz w p s id q seed text i = chS id q i 0 (o7 id q i seed) d := by unfold apz; rw [d3]
  have := amo w p s id q seed text i
  rw [hse] at hn' this
  rw [aj (by omega), aj (by omega), aj (by rw [hdl]; omega), ab0 _ (by omega), awq _ id q i _ _ _ seed hid (by omega) hq (by omega) hsd (by omega), d1, show (0 : Int) = ((0 : Nat) : Int) from rfl, ay5 _ id q i 0 d _ _ _ _ hid (by omega) hq (by omega) (by omega) (adg id q i seed) hpl, e3]
  rw [aj (by rw [List.length_append, hfl, hel, this]; omega)]
  exact hn'
 ·simp only [P.ajq]
  rw [bq (by omega)]
  rfl
theorem bga {w p s : Nat} (h : Kind w p s) (id : List Int) (q : Nat) (seed text : List Int) (hid : In 256 id) (hq : q < 4294967296) (hsd : In 256 seed) (hl : id.length = 16) (hs : seed.length = 32) (ht : In 256 text) (htl : text.length ≤ 300) {ρ : Type} (k : List Int → Int → Option ρ) :
    P.agf (w : Int) id (q : Int) seed text k = k (bhy w p s id q seed text) 0 := by
 rw [P.avb]; unfold P.alk
 obtain ⟨f1, f2, f3, f4⟩ := pw h
 have hel := aea _ (amo w p s id q seed text)
 have hcl : (o7 id q 65533 seed).length = 32 := zi _ _ _ _
 have hcd := auw w
 have hdl := bil h id q (o7 id q 65533 seed) text
 rw [bhp h id seed hl hs, dz (by rfl), bik h, show (65533 : Int) = ((65533 : Nat) : Int) from rfl, bmj id q 65533 seed hid (by omega) hq (by omega) hsd (by omega), bpc id q _ text hid hl hq (adg id q 65533 seed) hcl ht htl,
  awo h _ (aod _ _ _ _) (zi _ _ _ _), show (4 : Int) = ((4 : Nat) : Int) from rfl, gy (adi w) 4 (by omega) (by omega), P.aya]
 unfold P.aw8 P.bx6 P.bw5 P.b3r
 refine qy (fun i => (id, (q : Int), seed, (i : Int), [beN (adi w) 4, o7 id q 65533 seed] ++ (List.range i).map (apz w p s id q seed text), bqa w p s id q (o7 id q 65533 seed) text)) p rfl (fun i hi next hn' => ?_) (fun next => ?_) (by omega)
 ·simp only [P.ank, toNat_cast]
  rw [List.range_succ, List.map_append, List.map_singleton, ← List.append_assoc] at hn'
  have e3 : IntKind.i64.wrap ((i : Int) + 1) = ((i + 1 : Nat) : Int) := by rw [o9 (by omega) (by omega)]; omega
  have hpl : (o7 id q i seed).length = 32 := zi _ _ _ _
  obtain ⟨d, d1, d2, d3⟩ := bmb h id q (o7 id q 65533 seed) text i
  have hse : apz w p s id q seed text i = chS id q i 0 (o7 id q i seed) d := by unfold apz; rw [d3]
  rw [hse] at hn'
  rw [hdl, aj (by omega), aj (by omega), aj (by omega), bmj id q i seed hid (by omega) hq (by omega) hsd (by omega), d1, o9 (x := (d : Int)) (by omega) (by omega), show (0 : Int) = ((0 : Nat) : Int) from rfl, bml id q i 0 d _ hid (by omega) hq (by omega) (by omega) (by omega) (adg id q i seed) hpl, e3,
   aj (by rw [List.length_append, List.length_map, List.length_range]; simp; omega)]
  exact hn'
 ·simp only [P.ank]
  have he := hel p
  have hf : ([beN (adi w) 4, o7 id q 65533 seed] ++ (List.range p).map (apz w p s id q seed text)).flatten = bhy w p s id q seed text := by
   unfold bhy agu; simp
  rw [hdl, bq (by omega), kr _ (by rw [List.length_append, List.length_map, List.length_range]; simp; omega) (by rw [hf, ba6]; omega), hf]
end Q
end

section
/- lmots: what a signature leads to. -/
namespace Q
open Go Go.Abs
set_option linter.unusedVariables false
set_option linter.unusedSimpArgs false
end Q
end

section
/- lms: kinds of trees. -/
namespace Q
open Go Go.Abs
set_option linter.unusedVariables false
set_option linter.unusedSimpArgs false
def aa8 (h : Nat) : Nat := if 1 ≤ h ∧ h ≤ 4 then 3758096384 + h else if 5 ≤ h ∧ h ≤ 25 ∧ h % 5 = 0 then 4 + h / 5 else 0
def hOf (c : Nat) : Nat := if 3758096384 < c ∧ c ≤ 3758096388 then c - 3758096384 else if 5 ≤ c ∧ c ≤ 9 then 5 * (c - 4) else 0
def wOf (c : Nat) : Nat := if c = 1 then 1 else if c = 2 then 2 else if c = 3 then 4 else if c = 4 then 8 else 0
theorem bmg (c : Nat) (h0 : hOf c ≠ 0) : aa8 (hOf c) = c ∧ 1 ≤ hOf c ∧ hOf c ≤ 25 := by
 unfold hOf at h0 ⊢
 split
 ·rename_i hc
  refine ⟨?_, by omega, by omega⟩
  unfold aa8
  rw [if_pos (by omega)]
  omega
 ·split
  ·rename_i h1 h2
   refine ⟨?_, by omega, by omega⟩
   unfold aa8
   rw [if_neg (by omega), if_pos (by omega)]
   omega
  ·rename_i h1 h2
   rw [if_neg h1, if_neg h2] at h0
   exact absurd rfl h0
theorem aut (h : Nat) : aa8 h < 4294967296 := by
 unfold aa8; split
 ·omega
 ·split <;> omega
theorem uq (c : Nat) (hc : c < 18446744073709551616) {ρ : Type} (k : Int → Option ρ) : P.uq (c : Int) k = k ((hOf c : Nat) : Int) := by
 rw [P.ao7]; unfold P.air
 have rest : br (decide ((c : Int) ≥ (5 : Int))) (br (decide ((c : Int) ≤ (9 : Int))) (k (IntKind.i64.wrap ((5 : Int) * IntKind.i64.wrap (IntKind.u64.wrap ((c : Int) - (4 : Int)))))) (k (0 : Int))) (k (0 : Int)) = k (((if 5 ≤ c ∧ c ≤ 9 then 5 * (c - 4) else 0) : Nat) : Int) := by
  by_cases h5 : 5 ≤ c
  ·rw [aj (by omega)]
   by_cases h9 : c ≤ 9
   ·rw [aj (by omega), if_pos ⟨h5, h9⟩, show (c : Int) - 4 = ((c - 4 : Nat) : Int) by omega, ab0 _ (by omega), o9 (x := ((c - 4 : Nat) : Int)) (by omega) (by omega), o9 (by omega) (by omega)]
    congr 1
   ·rw [bq (by omega), if_neg (by omega)]; rfl
  ·rw [bq (by omega), if_neg (by omega)]; rfl
 unfold hOf
 by_cases h1 : 3758096384 < c
 ·rw [aj (by omega)]
  by_cases h2 : c ≤ 3758096388
  ·rw [aj (by omega), if_pos ⟨h1, h2⟩, show (c : Int) - 3758096384 = ((c - 3758096384 : Nat) : Int) by omega, ab0 _ (by omega), o9 (by omega) (by omega)]
  ·rw [bq (by omega), if_neg (by omega)]
   exact rest
 ·rw [bq (by omega), if_neg (by omega)]
  exact rest
theorem uw (h : Nat) (hh : h ≤ 100) {ρ : Type} (k : Int → Option ρ) : P.uw (h : Int) k = k ((aa8 h : Nat) : Int) := by
 rw [P.anx]; unfold P.ah2
 have rest : br (decide ((h : Int) ≥ (5 : Int))) (br (decide ((h : Int) ≤ (25 : Int))) (br ((h : Int).tmod (5 : Int) == (0 : Int)) (k (IntKind.u64.wrap (IntKind.i64.wrap ((4 : Int) + IntKind.i64.wrap ((h : Int).tdiv (5 : Int)))))) (k (0 : Int))) (k (0 : Int))) (k (0 : Int)) =
     k (((if 5 ≤ h ∧ h ≤ 25 ∧ h % 5 = 0 then 4 + h / 5 else 0) : Nat) : Int) := by
  by_cases h5 : 5 ≤ h
  ·rw [aj (by omega)]
   by_cases h9 : h ≤ 25
   ·rw [aj (by omega), show (5 : Int) = ((5 : Nat) : Int) from rfl, tmN]
    by_cases hm : h % 5 = 0
    ·rw [d9 (by omega), if_pos ⟨h5, h9, hm⟩, Int.tdiv_eq_ediv_of_nonneg (by omega), show (h : Int) / ((5 : Nat) : Int) = ((h / 5 : Nat) : Int) by omega, o9 (x := ((h / 5 : Nat) : Int)) (by omega) (by omega), o9 (by omega) (by omega), show (4 : Int) + ((h / 5 : Nat) : Int) = ((4 + h / 5 : Nat) : Int) by omega, ab0 _ (by omega)]
    ·rw [dh (by omega), if_neg (by omega)]; rfl
   ·rw [bq (by omega), if_neg (by omega)]; rfl
  ·rw [bq (by omega), if_neg (by omega)]; rfl
 unfold aa8
 by_cases h1 : 1 ≤ h
 ·rw [aj (by omega)]
  by_cases h2 : h ≤ 4
  ·rw [aj (by omega), if_pos ⟨h1, h2⟩, ab0 _ (by omega), show (3758096384 : Int) + (h : Int) = ((3758096384 + h : Nat) : Int) by omega, ab0 _ (by omega)]
  ·rw [bq (by omega), if_neg (by omega)]
   exact rest
 ·rw [bq (by omega), if_neg (by omega)]
  exact rest
theorem yx (c : Nat) (hc : c < 18446744073709551616) {ρ : Type} (k : Int → Option ρ) : P.yx (c : Int) k = k ((wOf c : Nat) : Int) := by
 rw [P.atf]; unfold P.ajl
 by_cases h1 : c < 1
 ·rw [aj (by omega)]
  have : c = 0 := by omega
  subst this
  rfl
 ·rw [bq (by omega)]
  by_cases h4 : c > 4
  ·rw [aj (by omega)]
   unfold wOf
   rw [if_neg (by omega), if_neg (by omega), if_neg (by omega), if_neg (by omega)]
   rfl
  ·have : c = 1 ∨ c = 2 ∨ c = 3 ∨ c = 4 := by omega
   rw [bq (by omega)]
   rcases this with rfl | rfl | rfl | rfl <;> rw [bq (by decide)] <;> rfl
end Q
end

section
/- lms: sums on the way up. -/
namespace Q
open Go Go.Abs
set_option linter.unusedVariables false
set_option linter.unusedSimpArgs false
theorem vg (id : List Int) (n mk : Nat) (l : List (List Int)) (hid : In 256 id) (h16 : id.length ≤ 300) (hn : n < 18446744073709551616) (hm : mk < 18446744073709551616) (hl : In 256 l.flatten) (hc : l.length ≤ 1000000) (hb : l.flatten.length ≤ 900000) {ρ : Type} (k : List Int → Option ρ) :
    P.vg id (n : Int) (mk : Int) l k = k (bao id n mk l) := by
 rw [P.azu]; unfold P.anh
 have hw := baj 1
 have hf : [id, (bsw 8 4 n).reverse, (bsw 8 2 mk).reverse].flatten = id ++ (beN n 4 ++ beN mk 2) := by simp [beN]
 have hlen : (id ++ (beN n 4 ++ beN mk 2)).length = id.length + 6 := by simp [adt]
 have hin : In 256 (id ++ (beN n 4 ++ beN mk 2)) := hid.app ((am4 _ _).app (am4 _ _))
 have hr := ah1 64 (by omega) (id ++ (beN n 4 ++ beN mk 2))
 have hr2 := ah1 64 (by omega) (rest 64 (id ++ (beN n 4 ++ beN mk 2)) ++ l.flatten)
 have hlt := Nat.mod_lt (rest 64 (id ++ (beN n 4 ++ beN mk 2)) ++ l.flatten).length (show 0 < 64 by omega)
 rw [aah (.inl rfl), show (4 : Int) = ((4 : Nat) : Int) from rfl, gu n 4 hn (by omega), show (2 : Int) = ((2 : Nat) : Int) from rfl, gu mk 2 hm (by omega), fq _ (by simp) (by rw [hf]; omega), hf,
  sw 1 _ [] _ _ hw.1 hw.2.1 In.nil hin (by rw [hlen, List.length_nil]; omega), List.nil_append, auu _ (by omega), show bsz 1 = 64 from rfl, fq l (by omega) (by omega),
  sw 1 _ _ _ _ (amm _ _ _) (aj8 _ _ _).2.1 (al2 hin) hl (by omega), show bsz 1 = 64 from rfl, bhr _ _ (by omega), aak 1 _ _ _ (amm _ _ _) (aj8 _ _ _).2.1 (al2 ((al2 hin).app hl)) (by rw [hr2]; exact hlt),
  bnj _ _ _ (by simp only [List.length_append])]
 rfl
theorem x9 (id : List Int) (n : Nat) (x : List Int) (hid : In 256 id) (h16 : id.length ≤ 300) (hn : n < 18446744073709551616) (hx : In 256 x) (hxl : x.length ≤ 1000) {ρ : Type} (k : List Int → Option ρ) : P.x9 id (n : Int) x k = k (bao id n 33410 [x]) := by
 rw [P.am1]; unfold P.ahg
 rw [show (4 : Int) = ((4 : Nat) : Int) from rfl, gy n 4 hn (by omega), show (2 : Int) = ((2 : Nat) : Int) from rfl, show (33410 : Int) = ((33410 : Nat) : Int) from rfl, gy 33410 2 (by omega) (by omega), ahs id n 33410 [x] hid h16 (by simpa using hx) (by simp) (by simp; omega)]
theorem adv (id : List Int) (n : Nat) (x y : List Int) (hid : In 256 id) (h16 : id.length ≤ 300) (hn : n < 18446744073709551616) (hx : In 256 x) (hxl : x.length ≤ 1000) (hy : In 256 y) (hyl : y.length ≤ 1000) {ρ : Type} (k : List Int → Option ρ) : P.adv id (n : Int) x y k = k (bao id n 33667 [x, y]) := by
 rw [P.axg]; unfold P.akv
 rw [show (4 : Int) = ((4 : Nat) : Int) from rfl, gy n 4 hn (by omega), show (2 : Int) = ((2 : Nat) : Int) from rfl, show (33667 : Int) = ((33667 : Nat) : Int) from rfl, gy 33667 2 (by omega) (by omega), ahs id n 33667 [x, y] hid h16 (by simpa using hx.app hy) (by simp) (by simp; omega)]
theorem bq2 {n h i : Nat} (h1 : 2 ^ h ≤ n) (h2 : n < 2 ^ (h + 1)) (hi : i < h) : n / 2 ^ i > 1 := by
 have e : 2 ^ h = 2 ^ (h - i) * 2 ^ i := by rw [← Nat.pow_add]; congr 1; omega
 have e2 : 2 ≤ 2 ^ (h - i) := by
  have : 2 ^ 1 ≤ 2 ^ (h - i) := Nat.pow_le_pow_right (by omega) (by omega)
  omega
 have : 2 ^ (h - i) ≤ n / 2 ^ i := (Nat.le_div_iff_mul_le (Nat.two_pow_pos i)).2 (by omega)
 omega
theorem bmr {n h : Nat} (h1 : 2 ^ h ≤ n) (h2 : n < 2 ^ (h + 1)) : n / 2 ^ h = 1 := by
 rw [Nat.pow_succ] at h2
 have := (Nat.le_div_iff_mul_le (Nat.two_pow_pos h)).2 (show 1 * 2 ^ h ≤ n by omega)
 have := (Nat.div_lt_iff_lt_mul (Nat.two_pow_pos h)).2 (show n < 2 * 2 ^ h by omega)
 omega
theorem half (m : Nat) (hm : m < 18446744073709551616) : IntKind.u64.wrap (((m : Nat) : Int).tdiv 2) = ((m / 2 : Nat) : Int) := by
 rw [Int.tdiv_eq_ediv_of_nonneg (by omega), show (m : Int) / 2 = ((m / 2 : Nat) : Int) by omega, ab0 _ (by omega)]
end Q
end

section
/- lms: signatures, and what verifies them. -/
namespace Q
open Go Go.Abs
set_option linter.unusedVariables false
set_option linter.unusedSimpArgs false
def nm (b : List Int) (i j : Nat) : Nat := T 8 ((b.take j).drop i).reverse
theorem bsa (b : List Int) (i j : Nat) (h : j - i ≤ 4) : nm b i j < 4294967296 := by
 unfold nm
 have h1 := bsm 8 ((b.take j).drop i).reverse
 have h2 : 8 * ((b.take j).drop i).reverse.length ≤ 32 := by simp only [List.length_reverse, List.length_drop, List.length_take]; omega
 have h3 : 2 ^ (8 * ((b.take j).drop i).reverse.length) ≤ 2 ^ 32 := Nat.pow_le_pow_right (by omega) h2
 omega
theorem bqj (b : List Int) (hb : In 256 b) (i j : Nat) (hj : j - i ≤ 4) {ρ : Type} (k : Int → Option ρ) : P.jo (((b.take j).drop i)) k = k ((nm b i j : Nat) : Int) := by
 have := bsa b i j hj
 rw [jo _ ((hb.take j).drop i) (by simp only [List.length_drop, List.length_take]; omega)]
 unfold nm at this ⊢
 rw [Nat.mod_eq_of_lt (by omega)]
def pOf (w : Nat) : Nat := if w = 1 then 265 else if w = 2 then 133 else if w = 4 then 67 else 34
def sOf (w : Nat) : Nat := if w = 1 then 7 else if w = 2 then 6 else if w = 4 then 4 else 0
theorem bp4 {c : Nat} (h : wOf c ≠ 0) : Kind (wOf c) (pOf (wOf c)) (sOf (wOf c)) ∧ adi (wOf c) = c ∧ wOf c ≤ 8 ∧ pOf (wOf c) ≤ 265 := by
 have hc : c = 1 ∨ c = 2 ∨ c = 3 ∨ c = 4 := by
  revert h
  unfold wOf
  split
  ·omega
  ·split
   ·omega
   ·split
    ·omega
    ·split <;> omega
 rcases hc with rfl | rfl | rfl | rfl <;> simp [wOf, pOf, sOf, Kind, adi]
theorem aom {w p s : Nat} (h : Kind w p s) {ρ : Type} (k : Int → Option ρ) : P.qc (w : Int) k = k ((adi w : Nat) : Int) := by
 rw [P.ahb]; unfold P.ac0
 rcases h with ⟨rfl, _, _⟩ | ⟨rfl, _, _⟩ | ⟨rfl, _, _⟩ | ⟨rfl, _, _⟩ <;> simp [adi]
theorem bkb (h : Nat) (h1 : ¬ (1 ≤ h ∧ h ≤ 4)) (h2 : h ≠ 5) (h3 : h ≠ 10) (h4 : h ≠ 15) (h5 : h ≠ 20) (h6 : h ≠ 25) : aa8 h = 0 := by
 unfold aa8
 rw [if_neg h1, if_neg (by omega)]
theorem o8 (h : Nat) (hh : h ≤ 1000) {ρ : Type} (k : Int → Option ρ) : P.o8 (h : Int) k = k ((aa8 h : Nat) : Int) := by
 rw [P.an4]; unfold P.ahl
 by_cases a1 : h = 1
 ·subst a1; rw [d9 (by decide), d9 (by decide)]; rfl
 by_cases a2 : h = 2
 ·subst a2; rw [dh (by decide), d9 (by decide), d9 (by decide)]; rfl
 by_cases a3 : h = 3
 ·subst a3; rw [dh (by decide), dh (by decide), d9 (by decide), d9 (by decide)]; rfl
 by_cases a4 : h = 4
 ·subst a4; rw [dh (by decide), dh (by decide), dh (by decide), d9 (by decide)]; rfl
 rw [dh (by omega), dh (by omega), dh (by omega), dh (by omega)]
 by_cases b1 : h = 5
 ·subst b1; rw [d9 (by decide), d9 (by decide)]; rfl
 by_cases b2 : h = 10
 ·subst b2; rw [dh (by decide), d9 (by decide), d9 (by decide)]; rfl
 by_cases b3 : h = 15
 ·subst b3; rw [dh (by decide), dh (by decide), d9 (by decide), d9 (by decide)]; rfl
 by_cases b4 : h = 20
 ·subst b4; rw [dh (by decide), dh (by decide), dh (by decide), d9 (by decide), d9 (by decide)]; rfl
 by_cases b5 : h = 25
 ·subst b5; rw [dh (by decide), dh (by decide), dh (by decide), dh (by decide), d9 (by decide)]; rfl
 rw [dh (by omega), dh (by omega), dh (by omega), dh (by omega), dh (by omega), bkb h (by omega) b1 b2 b3 b4 b5]
 rfl
theorem bfs {w p s h : Nat} (hk : Kind w p s) (hp : p ≤ 265) (hh : aa8 h ≠ 0) (h25 : h ≤ 25) {ρ : Type} (k : Int → Option ρ) : P.agc (h : Int) (w : Int) k = k ((4 + (36 + 32 * p) + 4 + 32 * h : Nat) : Int) := by
 rw [P.axy]; unfold P.ak3
 have hcw : adi w ≠ 0 := by unfold adi; split <;> (try split) <;> (try split) <;> omega
 rw [P.aru]; unfold P.akb
 rw [o8 h (by omega), gq (by omega), aom hk, show (((adi w : Nat) : Int) != 0) = true by rw [bne_iff_ne]; omega]
 dsimp only
 rw [jk, ny, lq hk,
  o9 (x := (4 : Int) + ((36 + 32 * p : Nat) : Int)) (by omega) (by omega), o9 (x := (4 : Int) + ((36 + 32 * p : Nat) : Int) + 4) (by omega) (by omega), o9 (x := (32 : Int) * (h : Int)) (by omega) (by omega), o9 (by omega) (by omega)]
 congr 1
def b1j {ρ : Type} (b : List Int) (k : List Int → Int → Int → List Int → Int → Option ρ) : Option ρ :=
 if b.length < 8 then k [] 0 0 [] 1 else
 if wOf (nm b 4 8) = 0 then k [] 0 0 [] 9 else
 if b.length < 4 + (36 + 32 * pOf (wOf (nm b 4 8))) + 4 then k [] 0 0 [] 1 else
 if hOf (nm b (4 + (36 + 32 * pOf (wOf (nm b 4 8)))) (4 + (36 + 32 * pOf (wOf (nm b 4 8))) + 4)) = 0 then k [] 0 0 [] 9 else
 if b.length < 4 + (36 + 32 * pOf (wOf (nm b 4 8))) + 4 + 32 * hOf (nm b (4 + (36 + 32 * pOf (wOf (nm b 4 8)))) (4 + (36 + 32 * pOf (wOf (nm b 4 8))) + 4)) then k [] 0 0 [] 1 else
 k (b.take (4 + (36 + 32 * pOf (wOf (nm b 4 8))) + 4 + 32 * hOf (nm b (4 + (36 + 32 * pOf (wOf (nm b 4 8)))) (4 + (36 + 32 * pOf (wOf (nm b 4 8))) + 4))))
  ((hOf (nm b (4 + (36 + 32 * pOf (wOf (nm b 4 8)))) (4 + (36 + 32 * pOf (wOf (nm b 4 8))) + 4)) : Nat) : Int) ((wOf (nm b 4 8) : Nat) : Int)
  (b.drop (4 + (36 + 32 * pOf (wOf (nm b 4 8))) + 4 + 32 * hOf (nm b (4 + (36 + 32 * pOf (wOf (nm b 4 8)))) (4 + (36 + 32 * pOf (wOf (nm b 4 8))) + 4)))) 0
theorem aeo (b : List Int) (hb : In 256 b) (hn : b.length ≤ 1000000) {ρ : Type} (k : List Int → Int → Int → List Int → Int → Option ρ) : P.aeo b k = b1j b k := by
 rw [P.azm]; unfold P.am9 b1j
 by_cases h8 : b.length < 8
 ·rw [aj (by omega), if_pos h8]
 ·rw [bq (by omega), if_neg h8, aj (by omega), show Int.toNat (8 : Int) = 8 from rfl, bqj b hb 4 8 (by omega), yx _ (by have := bsa b 4 8 (by omega); omega)]
  generalize hc : nm b 4 8 = c
  by_cases hw : wOf c = 0
  ·rw [hw, d9 (by omega), if_pos rfl]
  ·obtain ⟨hk, hcw, hw8, hp⟩ := bp4 hw
   rw [dh (by omega), if_neg hw, lq hk]
   generalize hpp : pOf (wOf c) = p at hk hp ⊢
   generalize hww : wOf c = w at hk hw hw8 hcw ⊢
   rw [o9 (x := (4 : Int) + ((36 + 32 * p : Nat) : Int)) (by omega) (by omega), o9 (x := (4 : Int) + ((36 + 32 * p : Nat) : Int) + 4) (by omega) (by omega)]
   by_cases hl : b.length < 4 + (36 + 32 * p) + 4
   ·rw [aj (by omega), if_pos hl]
   ·rw [bq (by omega), if_neg hl, aj (by omega), aj (by omega), aj (by omega), show ((4 : Int) + ((36 + 32 * p : Nat) : Int)).toNat = 4 + (36 + 32 * p) by omega, show ((4 : Int) + ((36 + 32 * p : Nat) : Int) + 4).toNat = 4 + (36 + 32 * p) + 4 by omega,
      bqj b hb _ _ (by omega), uq _ (by have := bsa b (4 + (36 + 32 * p)) (4 + (36 + 32 * p) + 4) (by omega); omega)]
    generalize nm b (4 + (36 + 32 * p)) (4 + (36 + 32 * p) + 4) = ch
    by_cases hh : hOf ch = 0
    ·rw [hh, d9 (by omega), if_pos rfl]
    ·obtain ⟨g1, g2, g3⟩ := bmg ch hh
     have hch : aa8 (hOf ch) ≠ 0 := by
      rw [g1]
      rintro rfl
      exact hh rfl
     rw [dh (by omega), if_neg hh, bfs hk hp hch g3]
     by_cases hl2 : b.length < 4 + (36 + 32 * p) + 4 + 32 * hOf ch
     ·rw [aj (by omega), if_pos hl2]
     ·rw [bq (by omega), if_neg hl2, aj (by omega), aj (by omega), toNat_cast, List.drop_zero, fq _ (by simp) (by simp; omega), aj (by omega), aj (by omega), aj (by omega), toNat_cast, List.take_length, fq _ (by simp) (by simp; omega)]
      simp only [List.flatten_cons, List.flatten_nil, List.append_nil]
theorem bsq {w p s h : Nat} (hk : Kind w p s) (h25 : h ≤ 25) {ρ : Type} (k : List Int → Option ρ) : P.ac2 (h : Int) (w : Int) k = k (beN (aa8 h) 4 ++ beN (adi w) 4) := by
 rw [P.awy]; unfold P.alm
 have h1 := aut h
 have h2 := auw w
 rw [o8 h (by omega), show (4 : Int) = ((4 : Nat) : Int) from rfl, gu _ 4 (by omega) (by omega), aom hk, gu _ 4 (by omega) (by omega), fq _ (by simp) (by simp)]
 simp only [List.flatten_cons, List.flatten_nil, List.append_nil]
 rfl
theorem bkv {w p s h : Nat} (hk : Kind w p s) (h25 : h ≤ 25) {ρ : Type} (k : List Int → Option ρ) : P.af6 (h : Int) (w : Int) k = k (beN (aa8 h) 4 ++ beN (adi w) 4) := by
 rw [P.axb]; unfold P.ak8
 have h1 := aut h
 have h2 := auw w
 rw [bik hk, uw h (by omega), show (4 : Int) = ((4 : Nat) : Int) from rfl, gy _ 4 (by omega) (by omega), gy _ 4 (by omega) (by omega), aj (by simp)]
 rfl
end Q
end

section
namespace Q
open Go Go.Abs
set_option linter.unusedVariables false
set_option linter.unusedSimpArgs false
end Q
end

section
/- hss: which keys can be, how many leaves, and the leaves of a number. -/
namespace Q
open Go Go.Abs
set_option linter.unusedVariables false
set_option linter.unusedSimpArgs false
theorem blb (h : Int) {ρ : Type} (k : Int → Option ρ) : P.o8 h k = k ((aa8 h.toNat : Nat) : Int) := by
 by_cases hh : 0 ≤ h ∧ h ≤ 1000
 ·obtain ⟨n, rfl⟩ : ∃ n : Nat, h = (n : Int) := ⟨h.toNat, by omega⟩
  rw [o8 n (by omega), toNat_cast]
 ·rw [P.an4]; unfold P.ahl
  have h0 : aa8 h.toNat = 0 := by unfold aa8; rw [if_neg (by omega), if_neg (by omega)]
  simp (disch := omega) only [dh]
  rw [h0]; rfl
theorem bky (h : Int) {ρ : Type} (k : Int → Option ρ) : P.uw h k = k ((aa8 h.toNat : Nat) : Int) := by
 by_cases hh : 0 ≤ h ∧ h ≤ 100
 ·obtain ⟨n, rfl⟩ : ∃ n : Nat, h = (n : Int) := ⟨h.toNat, by omega⟩
  rw [uw n (by omega), toNat_cast]
 ·rw [P.anx]; unfold P.ah2
  have h0 : aa8 h.toNat = 0 := by unfold aa8; rw [if_neg (by omega), if_neg (by omega)]
  rw [h0]
  by_cases h1 : h < 0
  ·simp (disch := omega) only [aj, bq]; rfl
  ·simp (disch := omega) only [aj, bq]; rfl
theorem bg8 {w : Int} (h : w ≠ 1 ∧ w ≠ 2 ∧ w ≠ 4 ∧ w ≠ 8) {ρ : Type} (k : Int → Option ρ) : P.qc w k = k 0 := by
 obtain ⟨h1, h2, h3, h4⟩ := h
 rw [P.ahb]; unfold P.ac0
 simp (disch := omega) only [dh]
def bgo (h w : Int) : Prop := aa8 h.toNat ≠ 0 ∧ (w = 1 ∨ w = 2 ∨ w = 4 ∨ w = 8)
theorem ar5 {h w : Int} (f : bgo h w) : 1 ≤ h ∧ h ≤ 25 := by
 have h0 := f.1
 unfold aa8 at h0
 split at h0
 ·omega
 ·split at h0
  ·omega
  ·exact absurd rfl h0
theorem aga (h w : Int) {ρ : Type} (k : Bool → Option ρ) : (bgo h w → P.acr h w k = k true) ∧ (¬ bgo h w → P.acr h w k = k false) := by
 rw [P.aru]; unfold P.akb
 rw [blb]
 constructor
 ·intro f
  rw [gq (by have := f.1; omega)]
  rcases ba1 w with ⟨n, p, s, rfl, h2⟩ | hn
  ·rw [aom h2, show (((adi n : Nat) : Int) != 0) = true by rw [bne_iff_ne]; have : adi n ≠ 0 := by { unfold adi; split <;> (try split) <;> (try split) <;> omega }; omega]
  ·have := f.2; omega
 ·intro f
  by_cases h0 : aa8 h.toNat = 0
  ·rw [dz (by omega)]
  ·rw [gq (by omega)]
   rcases ba1 w with ⟨n, p, s, rfl, h2⟩ | hn
   ·exact absurd ⟨h0, by rcases h2 with ⟨rfl, _⟩ | ⟨rfl, _⟩ | ⟨rfl, _⟩ | ⟨rfl, _⟩ <;> simp⟩ f
   ·rw [bg8 hn]; rfl
theorem ahq (h w : Int) {ρ : Type} (k : Bool → Option ρ) : (bgo h w → P.aev h w k = k true) ∧ (¬ bgo h w → P.aev h w k = k false) := by
 rw [P.bae]; unfold P.aok
 rw [bky]
 constructor
 ·intro f
  rw [gq (by have := f.1; omega)]
  rcases ba1 w with ⟨n, p, s, rfl, h2⟩ | hn
  ·rw [ac1 h2, show (((36 + 32 * p : Nat) : Int) != 0) = true by rw [bne_iff_ne]; omega]
  ·have := f.2; omega
 ·intro f
  by_cases h0 : aa8 h.toNat = 0
  ·rw [dz (by omega)]
  ·rw [gq (by omega)]
   rcases ba1 w with ⟨n, p, s, rfl, h2⟩ | hn
   ·exact absurd ⟨h0, by rcases h2 with ⟨rfl, _⟩ | ⟨rfl, _⟩ | ⟨rfl, _⟩ | ⟨rfl, _⟩ <;> simp⟩ f
   ·rw [bgq hn]; rfl
def hts (H : List Int) : List Nat := H.map Int.toNat
theorem blr (H : List Int) (j : Nat) : (hts H).getD j 0 = (H.getD j 0).toNat := by
 unfold hts
 rw [List.getD_eq_getElem?_getD, List.getD_eq_getElem?_getD, List.getElem?_map]
 cases H[j]? <;> rfl
theorem ahc (H : List Int) (i : Nat) (hi : i < H.length) : sm (hts (H.take (i + 1))) = sm (hts (H.take i)) + (H.getD i 0).toNat := by
 have : H.take (i + 1) = H.take i ++ [H.getD i 0] := (ai2 H 0 i hi).symm
 rw [this]
 unfold hts
 rw [List.map_append, bmv]
 simp [sm]
def OkT (H W : List Int) (j : Nat) : Prop := bgo (H.getD j 0) (W.getD j 0) ∧ H.getD j 0 ≤ 10
structure FitK (n : Nat) (H W id seed : List Int) : Prop where
 n1 : 1 ≤ n
 n8 : n ≤ 8
 t : ∀ j, j < n → OkT H W j
 s : sm (hts H) ≤ 60
 i : id.length = 16
 d : seed.length = 32
theorem blh {n : Nat} (H W : List Int) (hH : H.length = n) : ∀ i, i ≤ n → (∀ j, j < i → OkT H W j) → sm (hts (H.take i)) ≤ 10 * i
 | 0, _, _ => by simp [hts, sm]
 | i + 1, hi, h => by
  have h1 := blh H W hH i (by omega) (fun j hj => h j (by omega))
  have h2 := h i (by omega)
  rw [ahc H i (by omega)]
  have := h2.2
  omega
theorem bhm (n : Nat) (H W id seed : List Int) (hH : H.length = n) (i : Nat) (hi : i < n) (h8 : i < 8) (hall : ∀ j, j ≤ i → OkT H W j) {ρ : Type} (nx k0 : Int → Int → Nat → (List Int) → (List Int) → (List Int) → (List Int) → Option ρ) (k1 : Bool → Int → Int → Int → Int → Nat → (List Int) → (List Int) → (List Int) → (List Int) → Option ρ) :
    P.agl ((sm (hts (H.take i)) : Nat) : Int) (i : Int) n H W id seed nx k0 k1 = nx ((sm (hts (H.take (i + 1))) : Nat) : Int) ((i + 1 : Nat) : Int) n H W id seed := by
 have h1 := blh H W hH i (by omega) (fun j hj => hall j (by omega))
 have h2 := hall i (by omega)
 have h3 := ar5 h2.1
 have h4 := h2.2
 unfold P.agl
 rw [aj (by omega), aj (by omega), aj (by omega), bq (by omega), toNat_cast, (ahq _ _ _).1 h2.1, jk, ny, bq (by omega), o9 (by omega) (by omega), o9 (by omega) (by omega), ahc H i (by omega)]
 congr 1
 omega
theorem bs0 (n : Nat) (H W id seed : List Int) (s : Int) (i : Nat) (hi : i < n) (hb : 8 ≤ i ∨ ¬ OkT H W i) {ρ : Type} (nx k0 : Int → Int → Nat → (List Int) → (List Int) → (List Int) → (List Int) → Option ρ) (k1 : Bool → Int → Int → Int → Int → Nat → (List Int) → (List Int) → (List Int) → (List Int) → Option ρ) :
    P.agl s (i : Int) n H W id seed nx k0 k1 = k1 false (H.getD i 0) (W.getD i 0) 0 0 n H W id seed := by
 unfold P.agl
 rw [aj (by omega), aj (by omega), aj (by omega), toNat_cast]
 by_cases h8 : 8 ≤ i
 ·rw [aj (by omega)]
 ·rw [bq (by omega)]
  have hb : ¬ OkT H W i := hb.resolve_left h8
  by_cases hf : bgo (H.getD i 0) (W.getD i 0)
  ·rw [(ahq _ _ _).1 hf, jk, ny, aj]
   have : ¬ H.getD i 0 ≤ 10 := fun h => hb ⟨hf, h⟩
   omega
  ·rw [(ahq _ _ _).2 hf, jk, um]
theorem bid (n : Nat) (H W id seed : List Int) (hH : H.length = n) (i : Nat) (hi : i < n) (h8 : n ≤ 8) (hall : ∀ j, j ≤ i → OkT H W j) {ρ : Type} (nx k0 : Int → Nat → (List Int) → (List Int) → Int → Int → Nat → (List Int) → (List Int) → (List Int) → (List Int) → Option ρ) (k1 : Bool → Int → Int → Int → Int → Nat → (List Int) → (List Int) → (List Int) → (List Int) → Option ρ) :
    P.agk ((sm (hts (H.take i)) : Nat) : Int) n H W (n : Int) (i : Int) n H W id seed nx k0 k1 = nx ((sm (hts (H.take (i + 1))) : Nat) : Int) n H W (n : Int) ((i + 1 : Nat) : Int) n H W id seed := by
 have h1 := blh H W hH i (by omega) (fun j hj => hall j (by omega))
 have h2 := hall i (by omega)
 have h3 := ar5 h2.1
 have h4 := h2.2
 unfold P.agk
 rw [aj (by omega), aj (by omega), aj (by omega), toNat_cast, (aga _ _ _).1 h2.1, jk, ny, bq (by omega), o9 (by omega) (by omega), o9 (by omega) (by omega), ahc H i (by omega)]
 congr 1
 omega
theorem brq (n : Nat) (H W id seed : List Int) (s : Int) (i : Nat) (hi : i < n) (hb : ¬ OkT H W i) {ρ : Type} (nx k0 : Int → Nat → (List Int) → (List Int) → Int → Int → Nat → (List Int) → (List Int) → (List Int) → (List Int) → Option ρ) (k1 : Bool → Int → Int → Int → Int → Nat → (List Int) → (List Int) → (List Int) → (List Int) → Option ρ) :
    P.agk s n H W (n : Int) (i : Int) n H W id seed nx k0 k1 = k1 false (H.getD i 0) (W.getD i 0) 0 0 n H W id seed := by
 unfold P.agk
 rw [aj (by omega), aj (by omega), aj (by omega), toNat_cast]
 by_cases hf : bgo (H.getD i 0) (W.getD i 0)
 ·rw [(aga _ _ _).1 hf, jk, ny, aj]
  have : ¬ H.getD i 0 ≤ 10 := fun h => hb ⟨hf, h⟩
  omega
 ·rw [(aga _ _ _).2 hf, jk, um]
theorem aoi (n : Nat) (H W id seed : List Int) (m : Nat) (hm : m < n) (hb : 8 ≤ m ∨ ¬ OkT H W m) (hall : ∀ j, j < m → OkT H W j) (h8 : m ≤ 8) (hH : H.length = n) {ρ : Type} (k : Bool → Option ρ) : P.zm n H W id seed k = k false := by
 rw [P.arl]; unfold P.ajs
 rw [P.ao2]; unfold P.aq6 P.zk1 P.zs1 P.zu1
 refine qy (fun i => (((sm (hts (H.take i)) : Nat) : Int), (i : Int), n, H, W, id, seed)) m rfl (fun i hi next hnx => ?_) (fun next => ?_) (by omega)
 ·refine Eq.trans (bhm n H W id seed hH i (by omega) (by omega) (fun j hj => hall j (by omega)) _ _ _) hnx
 ·exact bs0 n H W id seed _ m hm hb _ _ _
theorem awn {n : Nat} (H : List Int) (hH : H.length = n) : H.take n = H := by rw [← hH, List.take_length]
theorem zq (n : Nat) (H W id seed : List Int) (hH : H.length = n) : ∃ b : Bool, (b = true ↔ FitK n H W id seed) ∧ (∀ {ρ : Type} (k : Bool → Option ρ), P.adb n H W id seed k = k b) ∧ ∀ {ρ : Type} (k : Bool → Option ρ), P.zm n H W id seed k = k b := by
 by_cases h8 : n > 8
 ·refine ⟨false, ⟨fun h => (by cases h), fun h => absurd h.n8 (by omega)⟩, fun k => ?_, fun k => ?_⟩
  ·rw [P.amg]; unfold P.ahh
   rw [aj (by omega)]
  ·rcases akw (OkT H W) 8 with h | ⟨m, m1, m2, m3⟩
   ·exact aoi n H W id seed 8 (by omega) (.inl (by omega)) h (by omega) hH k
   ·exact aoi n H W id seed m (by omega) (.inr m2) m3 (by omega) hH k
 ·rcases akw (OkT H W) n with h | ⟨m, m1, m2, m3⟩
  ·have hs := blh H W hH n (by omega) h
   rw [awn H hH] at hs
   refine ⟨decide (n ≥ 1) && (decide (sm (hts H) ≤ 60) && (decide (id.length = 16) && decide (seed.length = 32))), ?_, fun k => ?_, fun k => ?_⟩
   ·simp only [Bool.and_eq_true, decide_eq_true_eq]
    exact ⟨fun ⟨a, b, c, d⟩ => ⟨a, by omega, h, b, c, d⟩, fun f => ⟨f.n1, f.s, f.i, f.d⟩⟩
   ·rw [P.amg]; unfold P.ahh
    rw [bq (by omega), P.aqt]; unfold P.aq8 P.zk4 P.zs4 P.zu4
    refine qy (fun i => (((sm (hts (H.take i)) : Nat) : Int), n, H, W, (n : Int), (i : Int), n, H, W, id, seed)) n rfl (fun i hi next hnx => ?_) (fun next => ?_) (by omega)
    ·refine Eq.trans (bid n H W id seed hH i hi (by omega) (fun j hj => h j (by omega)) _ _ _) hnx
    ·simp only [P.agk]
     rw [bq (by omega)]
     simp only [Sum.elim_inl]
     rw [awn H hH]
     by_cases a1 : n ≥ 1
     ·rw [aj (by omega)]
      by_cases a2 : sm (hts H) ≤ 60
      ·rw [aj (by omega)]
       by_cases a3 : id.length = 16
       ·rw [d9 (by omega), decide_eq_true a1, decide_eq_true a2, decide_eq_true a3, Bool.true_and, Bool.true_and, Bool.true_and]
        by_cases a4 : seed.length = 32
        ·rw [a4]; rfl
        ·rw [decide_eq_false a4, show (((seed.length : Nat) : Int) == 32) = false by rw [beq_eq_false_iff_ne]; omega]
       ·rw [dh (by omega), decide_eq_true a1, decide_eq_true a2, decide_eq_false a3]; rfl
      ·rw [bq (by omega), decide_eq_true a1, decide_eq_false a2]; rfl
     ·rw [bq (by omega), decide_eq_false a1]; rfl
   ·rw [P.arl]; unfold P.ajs
    rw [P.ao2]; unfold P.aq6 P.zk1 P.zs1 P.zu1
    refine qy (fun i => (((sm (hts (H.take i)) : Nat) : Int), (i : Int), n, H, W, id, seed)) n rfl (fun i hi next hnx => ?_) (fun next => ?_) (by omega)
    ·refine Eq.trans (bhm n H W id seed hH i hi (by omega) (fun j hj => h j (by omega)) _ _ _) hnx
    ·simp only [P.agl]
     rw [bq (by omega)]
     simp only [Sum.elim_inl]
     rw [awn H hH]
     by_cases a1 : n ≥ 1
     ·rw [aj (by omega)]
      by_cases a2 : sm (hts H) ≤ 60
      ·rw [aj (by omega)]
       by_cases a3 : id.length = 16
       ·rw [d9 (by omega), decide_eq_true a1, decide_eq_true a2, decide_eq_true a3, Bool.true_and, Bool.true_and, Bool.true_and]
        by_cases a4 : seed.length = 32
        ·rw [a4]; rfl
        ·rw [decide_eq_false a4, show (((seed.length : Nat) : Int) == 32) = false by rw [beq_eq_false_iff_ne]; omega]
       ·rw [dh (by omega), decide_eq_true a1, decide_eq_true a2, decide_eq_false a3]; rfl
      ·rw [bq (by omega), decide_eq_true a1, decide_eq_false a2]; rfl
     ·rw [bq (by omega), decide_eq_false a1]; rfl
  ·refine ⟨false, ⟨fun h => (by cases h), fun h => absurd (h.t m m1) m2⟩, fun k => ?_, fun k => aoi n H W id seed m m1 (.inr m2) m3 (by omega) hH k⟩
   rw [P.amg]; unfold P.ahh
   rw [bq (by omega), P.aqt]; unfold P.aq8 P.zk4 P.zs4 P.zu4
   refine qy (fun i => (((sm (hts (H.take i)) : Nat) : Int), n, H, W, (n : Int), (i : Int), n, H, W, id, seed)) m rfl (fun i hi next hnx => ?_) (fun next => ?_) (by omega)
   ·refine Eq.trans (bid n H W id seed hH i (by omega) (by omega) (fun j hj => m3 j (by omega)) _ _ _) hnx
   ·exact brq n H W id seed _ m m1 m2 _ _ _
theorem ajv {n : Nat} {H W id seed : List Int} (hH : H.length = n) (f : FitK n H W id seed) {ρ : Type} (k : Int → Option ρ) : P.ab7 n H W id seed k = k ((sm (hts H) : Nat) : Int) := by
 rw [P.axf]; unfold P.akt
 rw [P.ax9]; unfold P.avx P.zk5 P.zs5 P.zu5
 have n8 := f.n8
 refine qy (fun i => (((sm (hts (H.take i)) : Nat) : Int), n, H, W, (n : Int), (i : Int))) n rfl (fun i hi next hnx => ?_) (fun next => ?_) (by omega)
 ·simp only [P.aoh]
  have h1 := blh H W hH i (by omega) (fun j hj => f.t j (by omega))
  have h2 := f.t i hi
  have h3 := ar5 h2.1
  have h4 := h2.2
  rw [aj (by omega), aj (by omega), aj (by omega), toNat_cast, o9 (by omega) (by omega), o9 (by omega) (by omega)]
  refine Eq.trans ?_ hnx
  rw [ahc H i (by omega)]
  congr 2
  omega
 ·simp only [P.aoh]
  rw [bq (by omega), awn H hH]
theorem arj {s : Nat} (h : s ≤ 60) : IntKind.u64.wrap ((1 : Int) * (2 : Int) ^ min ((s : Nat) : Int).toNat 64) = ((2 ^ s : Nat) : Int) := by
 have h2 : 2 ^ s ≤ 2 ^ 60 := Nat.pow_le_pow_right (by omega) h
 rw [toNat_cast, Nat.min_eq_left (by omega), Int.one_mul, show ((2 : Int) ^ s) = ((2 ^ s : Nat) : Int) by simp, ab0 _ (by omega)]
theorem bbx {n : Nat} {H W id seed : List Int} (hH : H.length = n) (f : FitK n H W id seed) {ρ : Type} (k : Int → Option ρ) : P.acg n H W id seed k = k ((2 ^ sm (hts H) : Nat) : Int) := by
 obtain ⟨b, hb, h1, _⟩ := zq n H W id seed hH
 have : b = true := hb.2 f
 subst this
 rw [P.aoy]; unfold P.ais
 rw [h1, jk, ny, ajv hH f, bq (by omega), arj f.s]
theorem apy {n : Nat} {H W id seed : List Int} (hH : H.length = n) (f : FitK n H W id seed) {ρ : Type} (k : Int → Option ρ) : P.ab2 n H W id seed k = k ((2 ^ sm (hts H) : Nat) : Int) := by
 obtain ⟨b, hb, _, h1⟩ := zq n H W id seed hH
 have : b = true := hb.2 f
 subst this
 rw [P.aot]; unfold P.ait
 rw [h1, jk, ny, P.at7]; unfold P.ap1 P.byx P.bvm P.by5
 have n8 := f.n8
 refine qy (fun i => (((2 ^ sm (hts (H.take i)) : Nat) : Int), (i : Int), n, H, W, id, seed)) n rfl (fun i hi next hnx => ?_) (fun next => ?_) (by omega)
 ·simp only [P.aj3]
  have h2 := f.t i hi
  have h3 := ar5 h2.1
  have h4 := h2.2
  have hs : sm (hts (H.take (i + 1))) ≤ 60 := by
   have := bnw (hts H) (i + 1)
   have e : (hts H).take (i + 1) = hts (H.take (i + 1)) := by unfold hts; rw [List.map_take]
   rw [e] at this
   have := f.s
   omega
  have hp : 2 ^ sm (hts (H.take (i + 1))) ≤ 2 ^ 60 := Nat.pow_le_pow_right (by omega) hs
  have he : ((2 ^ sm (hts (H.take i)) : Nat) : Int) * 2 ^ (min (H.getD i 0).toNat 64) = ((2 ^ sm (hts (H.take (i + 1))) : Nat) : Int) := by
   rw [ahc H i (by omega), Nat.min_eq_left (by omega), Nat.pow_add]
   simp
  rw [aj (by omega), aj (by omega), aj (by omega), toNat_cast, bq (by omega), he, ab0 _ (by omega), o9 (by omega) (by omega)]
  exact hnx
 ·simp only [P.aj3]
  rw [bq (by omega), awn H hH]
end Q
end

section
/- bits: Pack. -/
namespace Q
open Go Go.Abs
set_option linter.unusedVariables false
set_option linter.unusedSimpArgs false
theorem bj8 (x w : Nat) (hx : x < 4294967296) (h : w ≤ 24) : bits .and .u32 (x : Int) (IntKind.u32.wrap (IntKind.u32.wrap ((1 : Int) * (2 : Int) ^ min w 32) - (1 : Int))) = ((x % 2 ^ w : Nat) : Int) := by
 have h1 := p2 w
 have h2 : 2 ^ w ≤ 2 ^ 24 := bgk h
 rw [show (1 : Int) = ((1 : Nat) : Int) from rfl, mul_pow 1 w 32 (by omega), bjf _ (by omega), show ((1 * 2 ^ w : Nat) : Int) - ((1 : Nat) : Int) = ((2 ^ w - 1 : Nat) : Int) by omega, bjf _ (by omega), brl _ _ hx (by omega), Nat.and_two_pow_sub_one_eq_mod]
end Q
end
