/-
  LmsRight, part 18: an interpreter of my own over abstract values, the pure functions, the walks and the plain law.
-/

import Derived.Test.YtmipokjdajiimaaDoorLmsRightQ
import Derived.Test.YtmipokjdajiimaaDoorLmsRightK
import Derived.Test.YtmipokjdajiimaaDoorLmsRightI

section
/- lmots: keys, signatures, and what these lead to. -/
namespace Q
open Go Go.Abs
set_option linter.unusedVariables false
set_option linter.unusedSimpArgs false
def wh (w : Nat) : Nat := if w = 1 then 1 else if w = 2 then 2 else if w = 4 then 3 else 4
theorem bfk {w p s : Nat} (h : Kind w p s) {ρ : Type} (k : Int → Int → Int → Bool → Option ρ) : P.lu (w : Int) k = k (p : Int) (s : Int) ((wh w : Nat) : Int) true := by
 rw [P.zi]
 rcases h with ⟨rfl, rfl, rfl⟩ | ⟨rfl, rfl, rfl⟩ | ⟨rfl, rfl, rfl⟩ | ⟨rfl, rfl, rfl⟩ <;> kernel_rfl
theorem akm (w : Nat) : wh w < 5 := by unfold wh; split <;> (try split) <;> (try split) <;> omega
theorem axi {w p s : Nat} (h : Kind w p s) (id : List Int) (q : Int) (hl : id.length = 16) {ρ : Type} (k : Int → List Int → Int → Int → Int → Int → Int → Option ρ) : P.qz (w : Int) id q k = k (w : Int) id q (p : Int) (s : Int) ((wh w : Nat) : Int) 0 := by
 rw [P.ah5]; unfold P.aej
 rw [bfk h, su, abd, dh (by rw [hl]; rfl)]
theorem atd {w p s : Nat} (h : Kind w p s) (id : List Int) (q : Int) (seed : List Int) (hl : id.length = 16) (hs : seed.length = 32) {ρ : Type} (k : Int → List Int → Int → Int → Int → Int → Int → Option ρ) : P.pq (w : Int) id q seed k = k (w : Int) id q (p : Int) (s : Int) ((wh w : Nat) : Int) 0 := by
 rw [P.ahi]; unfold P.adp
 rw [axi h id q hl, dw (by rfl), dh (by rw [hs]; rfl)]
theorem axh {w p s : Nat} (h : Kind w p s) (id : List Int) (q a b c : Int) {ρ : Type} (k : Int → Option ρ) : P.ko (w : Int) id q a b c k = k ((2 ^ w - 1 : Nat) : Int) := by
 rw [P.ad8]
 rcases h with ⟨rfl, rfl, rfl⟩ | ⟨rfl, rfl, rfl⟩ | ⟨rfl, rfl, rfl⟩ | ⟨rfl, rfl, rfl⟩ <;> kernel_rfl
theorem pw {w p s : Nat} (h : Kind w p s) : 2 ^ w ≤ 256 ∧ 1 ≤ 2 ^ w ∧ p ≤ 265 ∧ 1 ≤ p := by
 rcases h with ⟨rfl, rfl, rfl⟩ | ⟨rfl, rfl, rfl⟩ | ⟨rfl, rfl, rfl⟩ | ⟨rfl, rfl, rfl⟩ <;> decide
def abx (f : Nat → List Int) (n : Nat) : List Int := ((List.range n).map f).flatten
theorem xq (f : Nat → List Int) (n : Nat) : abx f (n + 1) = abx f n ++ f n := by simp [abx, List.range_succ]
theorem aec (f : Nat → List Int) (h : ∀ i, (f i).length = 32) : ∀ n, (abx f n).length = 32 * n
 | 0 => by simp [abx]
 | n + 1 => by rw [xq, List.length_append, aec f h n, h]; omega
theorem akb (f : Nat → List Int) (h : ∀ i, In 256 (f i)) : ∀ n, In 256 (abx f n)
 | 0 => by simp [abx, In]
 | n + 1 => by rw [xq]; exact (akb f h n).app (h n)
theorem anf (f g : Nat → List Int) : ∀ n, (∀ i, i < n → f i = g i) → abx f n = abx g n
 | 0, _ => rfl
 | n + 1, h => by rw [xq, xq, anf f g n (fun i hi => h i (by omega)), h n (by omega)]
theorem ai6 (f : Nat → List Int) (h : ∀ i, (f i).length = 32) : ∀ n i, i < n → ((abx f n).drop (32 * i)).take 32 = f i
 | 0, i, hi => by omega
 | n + 1, i, hi => by
  rw [xq]
  have hl := aec f h n
  by_cases e : i = n
  ·subst e
   rw [List.drop_append, List.drop_eq_nil_of_le (by omega), List.nil_append, hl, Nat.sub_self, List.drop_zero, List.take_of_length_le (by rw [h]; omega)]
  ·rw [List.drop_append_of_le_length (by omega), List.take_append_of_le_length (by rw [List.length_drop]; omega), ai6 f h n i (by omega)]
def aqu (w : Nat) (id : List Int) (q : Nat) (seed : List Int) (i : Nat) : List Int := chS id q i 0 (uz id q i seed) (2 ^ w - 1)
theorem ap2 (w : Nat) (id : List Int) (q : Nat) (seed : List Int) (i : Nat) : (aqu w id q seed i).length = 32 := aqw _ _ _ _ _ (yt _ _ _ _) _
theorem az2 (w : Nat) (id : List Int) (q : Nat) (seed : List Int) (i : Nat) : In 256 (aqu w id q seed i) := axd _ _ _ _ _ (ad2 _ _ _ _) _
def bgn (w p : Nat) (id : List Int) (q : Nat) (seed : List Int) : List Int := atz id q 32896 [abx (aqu w id q seed) p]
theorem amx (x : List Int) : [x].flatten = x := by simp
theorem bbu {w p s : Nat} (h : Kind w p s) (id : List Int) (q : Nat) (seed : List Int) (hid : In 256 id) (hq : q < 4294967296) (hsd : In 256 seed) (hl : id.length = 16) (hs : seed.length = 32) {ρ : Type} (k : List Int → Int → Option ρ) :
    P.vw (w : Int) id (q : Int) seed k = k (bgn w p id q seed) 0 := by
 rw [P.aha]; unfold P.adl
 obtain ⟨f1, f2, f3, f4⟩ := pw h
 have hel := aec _ (ap2 w id q seed)
 rw [atd h id q seed hl hs, dh (by rfl), P.akj]
 unfold P.agv P.bkg P.bhs P.blh
 refine ac9 (fun i => (seed, (p : Int), (i : Int), abx (aqu w id q seed) i, (w : Int), id, (q : Int), (p : Int), (s : Int), ((wh w : Nat) : Int))) p rfl (fun i hi next hn' => ?_) (fun next => ?_) (by omega)
 ·simp only [P.aen]
  rw [xq] at hn'
  have e3 : IntKind.i64.wrap ((i : Int) + 1) = ((i + 1 : Nat) : Int) := by rw [aag (by omega) (by omega)]; omega
  have hpl : (uz id q i seed).length = 32 := yt _ _ _ _
  have := ap2 w id q seed i
  rw [au (by omega), axh h, agr _ (by omega), aoc _ id q i _ _ _ seed hid (by omega) hq (by omega) hsd (by omega), show (0 : Int) = ((0 : Nat) : Int) from rfl, akz _ id q i 0 (2 ^ w - 1) _ _ _ _ hid (by omega) hq (by omega) (by omega) (akw id q i seed) hpl, e3]
  rw [au (by rw [hel]; show (_ + (aqu w id q seed i).length) * 1 ≤ _; rw [this]; omega)]
  exact hn'
 ·simp only [P.aen]
  have he := hel p
  rw [dx (by omega), show (32896 : Int) = ((32896 : Nat) : Int) from rfl, ajw _ id q 32896 _ _ _ _ hid (by omega) hq (by omega) (by rw [amx]; exact akb _ (az2 w id q seed) p) (by simp) (by rw [amx]; omega)]
  rfl
def bcm (w p s : Nat) (id : List Int) (q : Nat) (c text : List Int) : List Int := bjg w p s (atz id q 33153 [c, text])
theorem ax4 {w p s : Nat} (h : Kind w p s) (id : List Int) (q : Nat) (c text : List Int) : (bcm w p s id q c text).length = p := beh h _ (yt _ _ _ _)
theorem avj {w p s : Nat} (h : Kind w p s) (id : List Int) (q : Nat) (c text : List Int) (i : Nat) : ∃ d : Nat, (bcm w p s id q c text).getD i 0 = (d : Int) ∧ d ≤ 2 ^ w - 1 ∧ ((bcm w p s id q c text).getD i 0).toNat = d := by
 have hin : In (2 ^ w) (bcm w p s id q c text) := ant _ _ _
 obtain ⟨d, h1, h2⟩ := azk (w := w) hin i
 exact ⟨d, h1, by omega, by omega⟩
def aln (w p s : Nat) (id : List Int) (q : Nat) (seed text : List Int) (i : Nat) : List Int :=
 chS id q i 0 (uz id q i seed) ((bcm w p s id q (uz id q 65533 seed) text).getD i 0).toNat
theorem ahm (w p s : Nat) (id : List Int) (q : Nat) (seed text : List Int) (i : Nat) : (aln w p s id q seed text i).length = 32 := aqw _ _ _ _ _ (yt _ _ _ _) _
theorem azn (w p s : Nat) (id : List Int) (q : Nat) (seed text : List Int) (i : Nat) : In 256 (aln w p s id q seed text i) := axd _ _ _ _ _ (ad2 _ _ _ _) _
def aoz (w p s : Nat) (id : List Int) (q : Nat) (seed text : List Int) : List Int := (beN (wh w) 4 ++ uz id q 65533 seed) ++ abx (aln w p s id q seed text) p
theorem ard (w p s : Nat) (id : List Int) (q : Nat) (seed text : List Int) : (aoz w p s id q seed text).length = 36 + 32 * p := by
 have hc : (uz id q 65533 seed).length = 32 := yt _ _ _ _
 unfold aoz
 rw [List.length_append, List.length_append, nu, hc, aec _ (ahm w p s id q seed text)]
theorem azt (w p s : Nat) (id : List Int) (q : Nat) (seed text : List Int) : In 256 (aoz w p s id q seed text) :=
 ((aeb _ _).app (ad2 _ _ _ _)).app (akb _ (azn w p s id q seed text) p)
theorem bld {c text : List Int} (hc : In 256 c) (ht : In 256 text) : In 256 [c, text].flatten := by
 have e : [c, text].flatten = c ++ text := by simp
 rw [e]; exact hc.app ht
theorem bjf (c text : List Int) : [c, text].flatten.length = c.length + text.length := by simp
theorem aow {w p s : Nat} (h : Kind w p s) (id : List Int) (q : Nat) (a b : Int) (cc : Int) (c text : List Int) (hid : In 256 id) (h16 : id.length = 16) (hq : q < 4294967296) (hc : In 256 c) (hcl : c.length = 32) (ht : In 256 text) (htl : text.length ≤ 300) {ρ : Type} (k : List Int → Option ρ) :
    P.jh (w : Int) id (q : Int) a b cc c text k = k (bcm w p s id q c text) := by
 rw [P.acd]; unfold P.yw
 rw [show (33153 : Int) = ((33153 : Nat) : Int) from rfl, ajw _ id q 33153 _ _ _ _ hid (by omega) hq (by omega) (bld hc ht) (by simp) (by rw [bjf]; omega), akx h _ (ad2 _ _ _ _) (yt _ _ _ _)]
 rfl
theorem bgz {w p s : Nat} (h : Kind w p s) (id : List Int) (q : Nat) (seed text : List Int) (hid : In 256 id) (hq : q < 4294967296) (hsd : In 256 seed) (hl : id.length = 16) (hs : seed.length = 32) (ht : In 256 text) (htl : text.length ≤ 300) {ρ : Type} (k : List Int → Int → Option ρ) :
    P.qh (w : Int) id (q : Int) seed text k = k (aoz w p s id q seed text) 0 := by
 rw [P.ajc]; unfold P.afj
 obtain ⟨f1, f2, f3, f4⟩ := pw h
 have hel := aec _ (ahm w p s id q seed text)
 have hcl : (uz id q 65533 seed).length = 32 := yt _ _ _ _
 have hcd := akm w
 have hf : [(bsw 8 4 (wh w)).reverse, uz id q 65533 seed].flatten = beN (wh w) 4 ++ uz id q 65533 seed := by simp [beN]
 have hfl : (beN (wh w) 4 ++ uz id q 65533 seed).length = 36 := by rw [List.length_append, nu, hcl]
 have hdl := ax4 h id q (uz id q 65533 seed) text
 rw [atd h id q seed hl hs, dh (by rfl), show (65533 : Int) = ((65533 : Nat) : Int) from rfl, aoc _ id q 65533 _ _ _ seed hid (by omega) hq (by omega) hsd (by omega), agr _ (by omega), show (4 : Int) = ((4 : Nat) : Int) from rfl, jg (wh w) 4 (by omega) (by omega),
  d9 _ (by simp) (by rw [hf, hfl]; omega), hf, aow h id q _ _ _ _ text hid hl hq (akw id q 65533 seed) hcl ht htl, hdl, P.amm]
 unfold P.akc P.bke P.bij P.bmh
 refine ac9 (fun i => (seed, (p : Int), (i : Int), (beN (wh w) 4 ++ uz id q 65533 seed) ++ abx (aln w p s id q seed text) i, (w : Int), id, (q : Int), (p : Int), (s : Int), ((wh w : Nat) : Int), bcm w p s id q (uz id q 65533 seed) text)) p (by simp [abx]) (fun i hi next hn' => ?_) (fun next => ?_) (by omega)
 ·simp only [P.af8, toNat_cast]
  rw [xq, ← List.append_assoc] at hn'
  have e3 : IntKind.i64.wrap ((i : Int) + 1) = ((i + 1 : Nat) : Int) := by rw [aag (by omega) (by omega)]; omega
  have hpl : (uz id q i seed).length = 32 := yt _ _ _ _
  obtain ⟨d, d1, d2, d3⟩ := avj h id q (uz id q 65533 seed) text i
  have hse : aln w p s id q seed text i = chS id q i 0 (uz id q i seed) d := by unfold aln; rw [d3]
  have := ahm w p s id q seed text i
  rw [hse] at hn' this
  rw [au (by omega), au (by omega), au (by rw [hdl]; omega), agr _ (by omega), aoc _ id q i _ _ _ seed hid (by omega) hq (by omega) hsd (by omega), d1, show (0 : Int) = ((0 : Nat) : Int) from rfl, akz _ id q i 0 d _ _ _ _ hid (by omega) hq (by omega) (by omega) (akw id q i seed) hpl, e3]
  rw [au (by rw [List.length_append, hfl, hel, this]; omega)]
  exact hn'
 ·simp only [P.af8]
  rw [dx (by omega)]
  rfl
end Q
end

section
/- lmots: what a signature leads to. -/
namespace Q
open Go Go.Abs
set_option linter.unusedVariables false
set_option linter.unusedSimpArgs false
def af7 (w p s : Nat) (id : List Int) (q : Nat) (text sig : List Int) (i : Nat) : List Int :=
 chS id q i ((bcm w p s id q ((sig.take 36).drop 4) text).getD i 0).toNat ((sig.drop (36 + 32 * i)).take 32) (2 ^ w - 1 - ((bcm w p s id q ((sig.take 36).drop 4) text).getD i 0).toNat)
def azj (w p s : Nat) (id : List Int) (q : Nat) (text sig : List Int) : List Int := atz id q 32896 [abx (af7 w p s id q text sig) p]
theorem aqi (f : Nat → List Int) : ∀ n, (∀ i, i < n → (f i).length = 32) → (abx f n).length = 32 * n
 | 0, _ => by simp [abx]
 | n + 1, h => by rw [xq, List.length_append, aqi f n (fun i hi => h i (by omega)), h n (by omega)]; omega
theorem au6 (f : Nat → List Int) : ∀ n, (∀ i, i < n → In 256 (f i)) → In 256 (abx f n)
 | 0, _ => by simp [abx, In]
 | n + 1, h => by rw [xq]; exact (au6 f n (fun i hi => h i (by omega))).app (h n (by omega))
theorem anz {w p s : Nat} (id : List Int) (q : Nat) (text sig : List Int) (hsl : sig.length = 36 + 32 * p) (i : Nat) (hi : i < p) : (af7 w p s id q text sig i).length = 32 := by
 unfold af7
 refine aqw _ _ _ _ _ ?_ _
 rw [List.length_take, List.length_drop]; omega
theorem azb {w p s : Nat} (id : List Int) (q : Nat) (text sig : List Int) (hs : In 256 sig) (i : Nat) : In 256 (af7 w p s id q text sig i) := axd _ _ _ _ _ ((hs.drop _).take _) _
theorem aun {w p s : Nat} (h : Kind w p s) (id : List Int) (q : Nat) (text sig : List Int) (hid : In 256 id) (hq : q < 4294967296) (hl : id.length = 16) (ht : In 256 text) (htl : text.length ≤ 300) (hs : In 256 sig) (hsl : sig.length = 36 + 32 * p) (hcode : T 8 (sig.take 4).reverse = wh w) {ρ : Type} (k : List Int → Int → Option ρ) :
    P.jq (w : Int) id (q : Int) text sig k = k (azj w p s id q text sig) 0 := by
 rw [P.ae6]; unfold P.abq
 obtain ⟨f1, f2, f3, f4⟩ := pw h
 have hcd := akm w
 have hcl : ((sig.take 36).drop 4).length = 32 := by rw [List.length_drop, List.length_take]; omega
 have hdl := ax4 h id q ((sig.take 36).drop 4) text
 have hce := fun i (hi : i ≤ p) => aqi (af7 w p s id q text sig) i (fun j hj => anz id q text sig hsl j (by omega))
 simp only [show (4 : Int).toNat = 4 from rfl, show (36 : Int).toNat = 36 from rfl, show (32 : Int).toNat = 32 from rfl, List.drop_zero, toNat_cast]
 have hnum : ((T 8 (sig.take 4).reverse % 2 ^ 64 : Nat) : Int) = ((wh w : Nat) : Int) := by rw [hcode]; omega
 rw [axi h id q hl, dh (by rfl), jf h, dh (by rw [hsl]), au (by omega), jl _ (hs.take 4) (by rw [List.length_take]; omega), hnum, agr _ (by omega), dh (by rfl), au (by omega), au (by omega), au (by omega),
  aow h id q _ _ _ _ text hid hl hq ((hs.take 36).drop 4) hcl ht htl, hdl, List.take_of_length_le (show sig.length ≤ sig.length by omega), P.agw]
 unfold P.ae5 P.bkn P.bim P.bny
 refine ac9 (fun i => (sig.drop (36 + 32 * i), (p : Int), (i : Int), abx (af7 w p s id q text sig) i, (w : Int), id, (q : Int), (p : Int), (s : Int), ((wh w : Nat) : Int), bcm w p s id q ((sig.take 36).drop 4) text)) p rfl (fun i hi next hn' => ?_) (fun next => ?_) (by omega)
 ·simp only [P.ab2, toNat_cast, show (32 : Int).toNat = 32 from rfl, List.drop_zero]
  rw [xq] at hn'
  have e3 : IntKind.i64.wrap ((i : Int) + 1) = ((i + 1 : Nat) : Int) := by rw [aag (by omega) (by omega)]; omega
  obtain ⟨d, d1, d2, d3⟩ := avj h id q ((sig.take 36).drop 4) text i
  have hse : af7 w p s id q text sig i = chS id q i d ((sig.drop (36 + 32 * i)).take 32) (2 ^ w - 1 - d) := by unfold af7; rw [d3]
  have hrl : (sig.drop (36 + 32 * i)).length = 32 * (p - i) := by rw [List.length_drop]; omega
  have htk : ((sig.drop (36 + 32 * i)).take 32).length = 32 := by rw [List.length_take]; omega
  have hcl2 := anz (w := w) (s := s) id q text sig hsl i hi
  rw [hse] at hn' hcl2
  rw [au (by omega), au (by omega), au (by rw [hdl]; omega), axh h, au (by omega), d1, show ((2 ^ w - 1 : Nat) : Int) - (d : Int) = ((2 ^ w - 1 - d : Nat) : Int) by omega, bcn _ (by omega),
   akz _ id q i d (2 ^ w - 1 - d) _ _ _ _ hid (by omega) hq (by omega) (by omega) ((hs.drop _).take _) htk, e3]
  rw [au (by rw [hce i (by omega), hcl2]; omega), au (by omega), au (by omega), List.take_of_length_le (Nat.le_refl _), List.drop_drop, show 36 + 32 * i + 32 = 36 + 32 * (i + 1) by omega]
  exact hn'
 ·simp only [P.ab2]
  have he := hce p (Nat.le_refl _)
  rw [dx (by omega), show (32896 : Int) = ((32896 : Nat) : Int) from rfl, ajw _ id q 32896 _ _ _ _ hid (by omega) hq (by omega) (by rw [amx]; exact au6 _ p (fun i _ => azb id q text sig hs i)) (by simp) (by rw [amx]; omega)]
  rfl
theorem bd6 {w p s : Nat} (h : Kind w p s) (id : List Int) (q : Nat) (seed text : List Int) : azj w p s id q text (aoz w p s id q seed text) = bgn w p id q seed := by
 have hcl := avr id q 65533 seed
 have hc : ((aoz w p s id q seed text).take 36).drop 4 = uz id q 65533 seed := by
  unfold aoz
  rw [List.take_append_of_le_length (by rw [List.length_append, nu, hcl]; omega), List.take_of_length_le (by rw [List.length_append, nu, hcl]; omega), List.drop_append, List.drop_eq_nil_of_le (by rw [nu]; omega), List.nil_append, nu, Nat.sub_self, List.drop_zero]
 unfold azj bgn
 congr 2
 refine anf _ _ p (fun i hi => ?_)
 have hp : ((aoz w p s id q seed text).drop (36 + 32 * i)).take 32 = aln w p s id q seed text i := by
  unfold aoz
  rw [List.drop_append, List.drop_eq_nil_of_le (by rw [List.length_append, nu, hcl]; omega), List.nil_append, List.length_append, nu, hcl, show 36 + 32 * i - (4 + 32) = 32 * i by omega]
  exact ai6 _ (ahm w p s id q seed text) p i hi
 obtain ⟨d, d1, d2, d3⟩ := avj h id q (uz id q 65533 seed) text i
 unfold af7 aqu
 rw [hc, hp, d3]
 unfold aln
 rw [d3]
 have := bas id q i 0 (uz id q i seed) d (2 ^ w - 1 - d)
 rw [Nat.zero_add] at this
 rw [← this, show d + (2 ^ w - 1 - d) = 2 ^ w - 1 by omega]
end Q
end

section
/- lms: kinds of trees. -/
namespace Q
open Go Go.Abs
set_option linter.unusedVariables false
set_option linter.unusedSimpArgs false
def qm (h : Nat) : Nat := if 1 ≤ h ∧ h ≤ 4 then 3758096384 + h else if 5 ≤ h ∧ h ≤ 25 ∧ h % 5 = 0 then 4 + h / 5 else 0
def hOf (c : Nat) : Nat := if 3758096384 < c ∧ c ≤ 3758096388 then c - 3758096384 else if 5 ≤ c ∧ c ≤ 9 then 5 * (c - 4) else 0
def wOf (c : Nat) : Nat := if c = 1 then 1 else if c = 2 then 2 else if c = 3 then 4 else if c = 4 then 8 else 0
theorem bbq (h : Nat) (h0 : qm h ≠ 0) : hOf (qm h) = h := by
 unfold qm at h0 ⊢
 split
 ·rename_i hc
  unfold hOf
  rw [if_pos (by omega)]
  omega
 ·split
  ·rename_i hc
   unfold hOf
   rw [if_neg (by omega), if_pos (by omega)]
   omega
  ·rename_i h1 h2
   rw [if_neg h1, if_neg h2] at h0
   exact absurd rfl h0
theorem bbc (c : Nat) (h0 : hOf c ≠ 0) : qm (hOf c) = c ∧ 1 ≤ hOf c ∧ hOf c ≤ 25 := by
 unfold hOf at h0 ⊢
 split
 ·rename_i hc
  refine ⟨?_, by omega, by omega⟩
  unfold qm
  rw [if_pos (by omega)]
  omega
 ·split
  ·rename_i h1 h2
   refine ⟨?_, by omega, by omega⟩
   unfold qm
   rw [if_neg (by omega), if_pos (by omega)]
   omega
  ·rename_i h1 h2
   rw [if_neg h1, if_neg h2] at h0
   exact absurd rfl h0
theorem amv (h : Nat) : qm h < 4294967296 := by
 unfold qm; split
 ·omega
 ·split <;> omega
theorem qj (c : Nat) (hc : c < 18446744073709551616) {ρ : Type} (k : Int → Option ρ) : P.qj (c : Int) k = k ((hOf c : Nat) : Int) := by
 rw [P.ajd]; unfold P.afd
 have rest : br (decide ((c : Int) ≥ (5 : Int))) (br (decide ((c : Int) ≤ (9 : Int))) (k (IntKind.i64.wrap ((5 : Int) * IntKind.i64.wrap (IntKind.u64.wrap ((c : Int) - (4 : Int)))))) (k (0 : Int))) (k (0 : Int)) = k (((if 5 ≤ c ∧ c ≤ 9 then 5 * (c - 4) else 0) : Nat) : Int) := by
  by_cases h5 : 5 ≤ c
  ·rw [au (by omega)]
   by_cases h9 : c ≤ 9
   ·rw [au (by omega), if_pos ⟨h5, h9⟩, show (c : Int) - 4 = ((c - 4 : Nat) : Int) by omega, agr _ (by omega), aag (x := ((c - 4 : Nat) : Int)) (by omega) (by omega), aag (by omega) (by omega)]
    congr 1
   ·rw [dx (by omega), if_neg (by omega)]; rfl
  ·rw [dx (by omega), if_neg (by omega)]; rfl
 unfold hOf
 by_cases h1 : 3758096384 < c
 ·rw [au (by omega)]
  by_cases h2 : c ≤ 3758096388
  ·rw [au (by omega), if_pos ⟨h1, h2⟩, show (c : Int) - 3758096384 = ((c - 3758096384 : Nat) : Int) by omega, agr _ (by omega), aag (by omega) (by omega)]
  ·rw [dx (by omega), if_neg (by omega)]
   exact rest
 ·rw [dx (by omega), if_neg (by omega)]
  exact rest
theorem um (c : Nat) (hc : c < 18446744073709551616) {ρ : Type} (k : Int → Option ρ) : P.um (c : Int) k = k ((wOf c : Nat) : Int) := by
 rw [P.al1]; unfold P.afz
 by_cases h1 : c < 1
 ·rw [au (by omega)]
  have : c = 0 := by omega
  subst this
  rfl
 ·rw [dx (by omega)]
  by_cases h4 : c > 4
  ·rw [au (by omega)]
   unfold wOf
   rw [if_neg (by omega), if_neg (by omega), if_neg (by omega), if_neg (by omega)]
   rfl
  ·have : c = 1 ∨ c = 2 ∨ c = 3 ∨ c = 4 := by omega
   rw [dx (by omega)]
   rcases this with rfl | rfl | rfl | rfl <;> rw [dx (by decide)] <;> rfl
end Q
end

section
/- lms: sums on the way up. -/
namespace Q
open Go Go.Abs
set_option linter.unusedVariables false
set_option linter.unusedSimpArgs false
theorem qg (id : List Int) (n mk : Nat) (l : List (List Int)) (hid : In 256 id) (h16 : id.length ≤ 300) (hn : n < 18446744073709551616) (hm : mk < 18446744073709551616) (hl : In 256 l.flatten) (hc : l.length ≤ 1000000) (hb : l.flatten.length ≤ 900000) {ρ : Type} (k : List Int → Option ρ) :
    P.qg id (n : Int) (mk : Int) l k = k (atz id n mk l) := by
 rw [P.aqr]; unfold P.aik
 have hw := bao 1
 have hf : [id, (bsw 8 4 n).reverse, (bsw 8 2 mk).reverse].flatten = id ++ (beN n 4 ++ beN mk 2) := by simp [beN]
 have hlen : (id ++ (beN n 4 ++ beN mk 2)).length = id.length + 6 := by simp [nu]
 have hin : In 256 (id ++ (beN n 4 ++ beN mk 2)) := hid.app ((aeb _ _).app (aeb _ _))
 have hr := ahk 64 (by omega) (id ++ (beN n 4 ++ beN mk 2))
 have hr2 := ahk 64 (by omega) (rest 64 (id ++ (beN n 4 ++ beN mk 2)) ++ l.flatten)
 have hlt := Nat.mod_lt (rest 64 (id ++ (beN n 4 ++ beN mk 2)) ++ l.flatten).length (show 0 < 64 by omega)
 rw [abj (.inl rfl), show (4 : Int) = ((4 : Nat) : Int) from rfl, jg n 4 hn (by omega), show (2 : Int) = ((2 : Nat) : Int) from rfl, jg mk 2 hm (by omega), d9 _ (by simp) (by rw [hf]; omega), hf,
  uf 1 _ [] _ _ hw.1 hw.2.1 In.nil hin (by rw [hlen, List.length_nil]; omega), List.nil_append, axt _ (by omega), show bsz 1 = 64 from rfl, d9 l (by omega) (by omega),
  uf 1 _ _ _ _ (ajl _ _ _) (an6 _ _ _).2.1 (alg hin) hl (by omega), show bsz 1 = 64 from rfl, ayc _ _ (by omega), abo 1 _ _ _ (ajl _ _ _) (an6 _ _ _).2.1 (alg ((alg hin).app hl)) (by rw [hr2]; exact hlt),
  bbz _ _ _ (by simp only [List.length_append])]
 rfl
def av2 (id : List Int) (n : Nat) (path c : List Int) : Nat → List Int
 | 0 => c
 | i + 1 => if n / 2 ^ i % 2 = 1 then atz id (n / 2 ^ i / 2) 33667 [(path.drop (32 * i)).take 32, av2 id n path c i] else atz id (n / 2 ^ i / 2) 33667 [av2 id n path c i, (path.drop (32 * i)).take 32]
theorem bee (id : List Int) (n : Nat) (path c : List Int) (hc : c.length = 32) (i : Nat) : (av2 id n path c i).length = 32 := by
 cases i with
 | zero => exact hc
 | succ i => unfold av2; split <;> exact yt _ _ _ _
theorem bg2 (id : List Int) (n : Nat) (path c : List Int) (hc : In 256 c) (i : Nat) : In 256 (av2 id n path c i) := by
 cases i with
 | zero => exact hc
 | succ i => unfold av2; split <;> exact ad2 _ _ _ _
theorem be5 {n h i : Nat} (h1 : 2 ^ h ≤ n) (h2 : n < 2 ^ (h + 1)) (hi : i < h) : n / 2 ^ i > 1 := by
 have e : 2 ^ h = 2 ^ (h - i) * 2 ^ i := by rw [← Nat.pow_add]; congr 1; omega
 have e2 : 2 ≤ 2 ^ (h - i) := by
  have : 2 ^ 1 ≤ 2 ^ (h - i) := Nat.pow_le_pow_right (by omega) (by omega)
  omega
 have : 2 ^ (h - i) ≤ n / 2 ^ i := (Nat.le_div_iff_mul_le (Nat.two_pow_pos i)).2 (by omega)
 omega
theorem avv {n h : Nat} (h1 : 2 ^ h ≤ n) (h2 : n < 2 ^ (h + 1)) : n / 2 ^ h = 1 := by
 rw [Nat.pow_succ] at h2
 have := (Nat.le_div_iff_mul_le (Nat.two_pow_pos h)).2 (show 1 * 2 ^ h ≤ n by omega)
 have := (Nat.div_lt_iff_lt_mul (Nat.two_pow_pos h)).2 (show n < 2 * 2 ^ h by omega)
 omega
theorem half (m : Nat) (hm : m < 18446744073709551616) : IntKind.u64.wrap (((m : Nat) : Int).tdiv 2) = ((m / 2 : Nat) : Int) := by
 rw [Int.tdiv_eq_ediv_of_nonneg (by omega), show (m : Int) / 2 = ((m / 2 : Nat) : Int) by omega, agr _ (by omega)]
theorem bch (id h4 c path : List Int) (n h : Nat) (hid : In 256 id) (h16 : id.length ≤ 300) (hc : In 256 c) (hcl : c.length = 32) (hp : In 256 path) (hpl : path.length = 32 * h) (hh : h ≤ 60) (h1 : 2 ^ h ≤ n) (h2 : n < 2 ^ (h + 1)) (hn : n < 18446744073709551616)
    {ρ : Type} (k0 : Int → List Int → List Int → List Int → List Int → Option ρ) : P.agc (n : Int) id h4 c path k0 = k0 1 id h4 (av2 id n path c h) [] := by
 rw [P.amk]
 unfold P.akl P.bkp P.bjn P.bk8
 refine ac9 (fun i => (((n / 2 ^ i : Nat) : Int), id, h4, av2 id n path c i, path.drop (32 * i))) h (by simp [av2]) (fun i hi next hn' => ?_) (fun next => ?_) (by omega)
 ·simp only [P.agi]
  have hw := be5 h1 h2 hi
  have hlt : n / 2 ^ i < 18446744073709551616 := Nat.lt_of_le_of_lt (Nat.div_le_self _ _) hn
  have hpl' : (path.drop (32 * i)).length = 32 * h - 32 * i := by rw [List.length_drop, hpl]
  have hnx : n / 2 ^ (i + 1) = n / 2 ^ i / 2 := by rw [Nat.pow_succ, Nat.div_div_eq_div_mul]
  have hdr : (path.drop (32 * i)).drop 32 = path.drop (32 * (i + 1)) := by rw [List.drop_drop]; congr 1
  have e32 : Int.toNat (32 : Int) = 32 := rfl
  have hx : In 256 ((path.drop (32 * i)).take 32) := (hp.drop _).take _
  have hxl : ((path.drop (32 * i)).take 32).length ≤ 32 := by rw [List.length_take]; omega
  have hcu := bg2 id n path c hc i
  have hcul := bee id n path c hcl i
  rw [au (by omega), au (by omega), show (2 : Int) = ((2 : Nat) : Int) from rfl, tmN, show ((2 : Nat) : Int) = 2 from rfl, half _ hlt, e32, List.drop_zero, toNat_cast, List.take_length, hdr]
  by_cases hm : n / 2 ^ i % 2 = 1
  ·rw [dw (by omega), show (33667 : Int) = ((33667 : Nat) : Int) from rfl, qg id _ 33667 _ hid h16 (by omega) (by omega) (by simpa using hx.app hcu) (by simp) (by simp; omega), au (by omega), au (by omega)]
   refine Eq.trans ?_ hn'
   simp only [av2, if_pos hm, hnx]
  ·rw [bn (by omega), show (33667 : Int) = ((33667 : Nat) : Int) from rfl, qg id _ 33667 _ hid h16 (by omega) (by omega) (by simpa using hcu.app hx) (by simp) (by simp; omega), au (by omega), au (by omega)]
   refine Eq.trans ?_ hn'
   simp only [av2, if_neg hm, hnx]
 ·simp only [P.agi]
  rw [avv h1 h2, dx (by omega), List.drop_eq_nil_of_le (by omega)]
  rfl
end Q
end

section
/- lms: signatures, and what verifies them. -/
namespace Q
open Go Go.Abs
set_option linter.unusedVariables false
set_option linter.unusedSimpArgs false
def nm (b : List Int) (i j : Nat) : Nat := T 8 ((b.take j).drop i).reverse
theorem bek (b : List Int) (i j : Nat) (h : j - i ≤ 4) : nm b i j < 4294967296 := by
 unfold nm
 have h1 := bi5 8 ((b.take j).drop i).reverse
 have h2 : 8 * ((b.take j).drop i).reverse.length ≤ 32 := by simp only [List.length_reverse, List.length_drop, List.length_take]; omega
 have h3 : 2 ^ (8 * ((b.take j).drop i).reverse.length) ≤ 2 ^ 32 := Nat.pow_le_pow_right (by omega) h2
 omega
theorem apn (b : List Int) (hb : In 256 b) (i j : Nat) (hj : j - i ≤ 4) {ρ : Type} (k : Int → Option ρ) : P.jl (((b.take j).drop i)) k = k ((nm b i j : Nat) : Int) := by
 have := bek b i j hj
 rw [jl _ ((hb.take j).drop i) (by simp only [List.length_drop, List.length_take]; omega)]
 unfold nm at this ⊢
 rw [Nat.mod_eq_of_lt (by omega)]
def pOf (w : Nat) : Nat := if w = 1 then 265 else if w = 2 then 133 else if w = 4 then 67 else 34
def sOf (w : Nat) : Nat := if w = 1 then 7 else if w = 2 then 6 else if w = 4 then 4 else 0
theorem bdk {c : Nat} (h : wOf c ≠ 0) : Kind (wOf c) (pOf (wOf c)) (sOf (wOf c)) ∧ wh (wOf c) = c ∧ wOf c ≤ 8 ∧ pOf (wOf c) ≤ 265 := by
 have hc : c = 1 ∨ c = 2 ∨ c = 3 ∨ c = 4 := by
  revert h
  unfold wOf
  split
  ·omega
  ·split
   ·omega
   ·split
    ·omega
    ·split <;> omega
 rcases hc with rfl | rfl | rfl | rfl <;> simp [wOf, pOf, sOf, Kind, wh]
theorem af6 {w p s : Nat} (h : Kind w p s) {ρ : Type} (k : Int → Option ρ) : P.om (w : Int) k = k ((wh w : Nat) : Int) := by
 rw [P.aei]; unfold P.abf
 rcases h with ⟨rfl, _, _⟩ | ⟨rfl, _, _⟩ | ⟨rfl, _, _⟩ | ⟨rfl, _, _⟩ <;> simp [wh]
theorem ayt (h : Nat) (h1 : ¬ (1 ≤ h ∧ h ≤ 4)) (h2 : h ≠ 5) (h3 : h ≠ 10) (h4 : h ≠ 15) (h5 : h ≠ 20) (h6 : h ≠ 25) : qm h = 0 := by
 unfold qm
 rw [if_neg h1, if_neg (by omega)]
theorem mg (h : Nat) (hh : h ≤ 1000) {ρ : Type} (k : Int → Option ρ) : P.mg (h : Int) k = k ((qm h : Nat) : Int) := by
 rw [P.aij]; unfold P.aez
 by_cases a1 : h = 1
 ·subst a1; rw [dw (by decide), dw (by decide)]; rfl
 by_cases a2 : h = 2
 ·subst a2; rw [bn (by decide), dw (by decide), dw (by decide)]; rfl
 by_cases a3 : h = 3
 ·subst a3; rw [bn (by decide), bn (by decide), dw (by decide), dw (by decide)]; rfl
 by_cases a4 : h = 4
 ·subst a4; rw [bn (by decide), bn (by decide), bn (by decide), dw (by decide)]; rfl
 rw [bn (by omega), bn (by omega), bn (by omega), bn (by omega)]
 by_cases b1 : h = 5
 ·subst b1; rw [dw (by decide), dw (by decide)]; rfl
 by_cases b2 : h = 10
 ·subst b2; rw [bn (by decide), dw (by decide), dw (by decide)]; rfl
 by_cases b3 : h = 15
 ·subst b3; rw [bn (by decide), bn (by decide), dw (by decide), dw (by decide)]; rfl
 by_cases b4 : h = 20
 ·subst b4; rw [bn (by decide), bn (by decide), bn (by decide), dw (by decide), dw (by decide)]; rfl
 by_cases b5 : h = 25
 ·subst b5; rw [bn (by decide), bn (by decide), bn (by decide), bn (by decide), dw (by decide)]; rfl
 rw [bn (by omega), bn (by omega), bn (by omega), bn (by omega), bn (by omega), ayt h (by omega) b1 b2 b3 b4 b5]
 rfl
theorem ai5 {w p s h : Nat} (hk : Kind w p s) (hp : p ≤ 265) (hh : qm h ≠ 0) (h25 : h ≤ 25) {ρ : Type} (k : Int → Option ρ) : P.y5 (h : Int) (w : Int) k = k ((4 + (36 + 32 * p) + 4 + 32 * h : Nat) : Int) := by
 rw [P.amz]; unfold P.agy
 have hcw : wh w ≠ 0 := by unfold wh; split <;> (try split) <;> (try split) <;> omega
 rw [P.afu]; unfold P.ach
 rw [mg h (by omega), jr (by omega), af6 hk, show (((wh w : Nat) : Int) != 0) = true by rw [bne_iff_ne]; omega]
 dsimp only
 rw [su, abd, jf hk,
  aag (x := (4 : Int) + ((36 + 32 * p : Nat) : Int)) (by omega) (by omega), aag (x := (4 : Int) + ((36 + 32 * p : Nat) : Int) + 4) (by omega) (by omega), aag (x := (32 : Int) * (h : Int)) (by omega) (by omega), aag (by omega) (by omega)]
 congr 1
def bj4 {ρ : Type} (b : List Int) (k : List Int → Int → Int → List Int → Int → Option ρ) : Option ρ :=
 if b.length < 8 then k [] 0 0 [] 1 else
 if wOf (nm b 4 8) = 0 then k [] 0 0 [] 9 else
 if b.length < 4 + (36 + 32 * pOf (wOf (nm b 4 8))) + 4 then k [] 0 0 [] 1 else
 if hOf (nm b (4 + (36 + 32 * pOf (wOf (nm b 4 8)))) (4 + (36 + 32 * pOf (wOf (nm b 4 8))) + 4)) = 0 then k [] 0 0 [] 9 else
 if b.length < 4 + (36 + 32 * pOf (wOf (nm b 4 8))) + 4 + 32 * hOf (nm b (4 + (36 + 32 * pOf (wOf (nm b 4 8)))) (4 + (36 + 32 * pOf (wOf (nm b 4 8))) + 4)) then k [] 0 0 [] 1 else
 k (b.take (4 + (36 + 32 * pOf (wOf (nm b 4 8))) + 4 + 32 * hOf (nm b (4 + (36 + 32 * pOf (wOf (nm b 4 8)))) (4 + (36 + 32 * pOf (wOf (nm b 4 8))) + 4))))
  ((hOf (nm b (4 + (36 + 32 * pOf (wOf (nm b 4 8)))) (4 + (36 + 32 * pOf (wOf (nm b 4 8))) + 4)) : Nat) : Int) ((wOf (nm b 4 8) : Nat) : Int)
  (b.drop (4 + (36 + 32 * pOf (wOf (nm b 4 8))) + 4 + 32 * hOf (nm b (4 + (36 + 32 * pOf (wOf (nm b 4 8)))) (4 + (36 + 32 * pOf (wOf (nm b 4 8))) + 4)))) 0
theorem abp (b : List Int) (hb : In 256 b) (hn : b.length ≤ 1000000) {ρ : Type} (k : List Int → Int → Int → List Int → Int → Option ρ) : P.abp b k = bj4 b k := by
 rw [P.aqb]; unfold P.aiq bj4
 by_cases h8 : b.length < 8
 ·rw [au (by omega), if_pos h8]
 ·rw [dx (by omega), if_neg h8, au (by omega), show Int.toNat (8 : Int) = 8 from rfl, apn b hb 4 8 (by omega), um _ (by have := bek b 4 8 (by omega); omega)]
  generalize hc : nm b 4 8 = c
  by_cases hw : wOf c = 0
  ·rw [hw, dw (by omega), if_pos rfl]
  ·obtain ⟨hk, hcw, hw8, hp⟩ := bdk hw
   rw [bn (by omega), if_neg hw, jf hk]
   generalize hpp : pOf (wOf c) = p at hk hp ⊢
   generalize hww : wOf c = w at hk hw hw8 hcw ⊢
   rw [aag (x := (4 : Int) + ((36 + 32 * p : Nat) : Int)) (by omega) (by omega), aag (x := (4 : Int) + ((36 + 32 * p : Nat) : Int) + 4) (by omega) (by omega)]
   by_cases hl : b.length < 4 + (36 + 32 * p) + 4
   ·rw [au (by omega), if_pos hl]
   ·rw [dx (by omega), if_neg hl, au (by omega), au (by omega), au (by omega), show ((4 : Int) + ((36 + 32 * p : Nat) : Int)).toNat = 4 + (36 + 32 * p) by omega, show ((4 : Int) + ((36 + 32 * p : Nat) : Int) + 4).toNat = 4 + (36 + 32 * p) + 4 by omega,
      apn b hb _ _ (by omega), qj _ (by have := bek b (4 + (36 + 32 * p)) (4 + (36 + 32 * p) + 4) (by omega); omega)]
    generalize nm b (4 + (36 + 32 * p)) (4 + (36 + 32 * p) + 4) = ch
    by_cases hh : hOf ch = 0
    ·rw [hh, dw (by omega), if_pos rfl]
    ·obtain ⟨g1, g2, g3⟩ := bbc ch hh
     have hch : qm (hOf ch) ≠ 0 := by
      rw [g1]
      rintro rfl
      exact hh rfl
     rw [bn (by omega), if_neg hh, ai5 hk hp hch g3]
     by_cases hl2 : b.length < 4 + (36 + 32 * p) + 4 + 32 * hOf ch
     ·rw [au (by omega), if_pos hl2]
     ·rw [dx (by omega), if_neg hl2, au (by omega), au (by omega), toNat_cast, List.drop_zero, d9 _ (by simp) (by simp; omega), au (by omega), au (by omega), au (by omega), toNat_cast, List.take_length, d9 _ (by simp) (by simp; omega)]
      simp only [List.flatten_cons, List.flatten_nil, List.append_nil]
theorem bal {w p s h : Nat} (hk : Kind w p s) (h25 : h ≤ 25) {ρ : Type} (k : List Int → Option ρ) : P.abe (h : Int) (w : Int) k = k (beN (qm h) 4 ++ beN (wh w) 4) := by
 rw [P.aod]; unfold P.ahh
 have h1 := amv h
 have h2 := akm w
 rw [mg h (by omega), show (4 : Int) = ((4 : Nat) : Int) from rfl, jg _ 4 (by omega) (by omega), af6 hk, jg _ 4 (by omega) (by omega), d9 _ (by simp) (by simp)]
 simp only [List.flatten_cons, List.flatten_nil, List.append_nil]
 rfl
end Q
end

section
namespace Q
open Go Go.Abs
set_option linter.unusedVariables false
set_option linter.unusedSimpArgs false
theorem adq (l : List (List Int)) (hl : l.length ≤ 100) {ρ : Type} (k : Bool → Option ρ) : (P.adq l k = k true ∧ ∀ i, i < l.length → (l.getD i []).length ≤ 300) ∨ P.adq l k = k false := by
 rw [P.apv]
 unfold P.aic
 rw [P.aru]
 unfold P.aqo P.zk1 P.zs1 P.zu1
 by_cases h : ∀ i, i < l.length → (l.getD i []).length ≤ 300
 ·refine .inl ⟨ac9 (fun i => (l, (l.length : Int), (i : Int))) l.length rfl (fun i hi next hn' => ?_) (fun next => ?_) (by omega), h⟩
  ·have := h i hi
   simp only [P.ahr, toNat_cast, Sum.elim_inl, Sum.elim_inr]
   simp (disch := omega) only [au, dx, jr, dh, dw, bn, su, abd, adu, aag]
   exact hn'
  ·simp only [P.ahr, toNat_cast, Sum.elim_inl, Sum.elim_inr]
   rw [dx (by omega)]
 ·refine .inr (bhx (P := fun x => ∃ j : Nat, x = (l, (l.length : Int), (j : Int)) ∧ ∃ i, j ≤ i ∧ i < l.length ∧ ¬ (l.getD i []).length ≤ 300) (μ := fun x => ((l.length : Int) - x.2.2).toNat) ?_ ⟨0, rfl, ?_⟩ (by simp only; omega))
  ·rintro _ ⟨j, rfl, i, hji, hi, hb⟩ next hn
   simp only [P.ahr, toNat_cast, Sum.elim_inl, Sum.elim_inr]
   by_cases hj : ((l.getD j []).length : Int) > 300
   ·simp (disch := omega) only [au, dx, jr, dh, dw, bn, su, abd, adu, aag]
   ·simp (disch := omega) only [au, dx, jr, dh, dw, bn, su, abd, adu, aag]
    exact hn _ ⟨j + 1, rfl, i, by by_cases e : j = i <;> (try subst e) <;> omega, hi, hb⟩ (by simp only; omega)
  ·have : ∃ i, ¬ (i < l.length → (l.getD i []).length ≤ 300) := Classical.not_forall.1 h
   obtain ⟨i, hi⟩ := this
   exact ⟨i, Nat.zero_le _, by by_cases e : i < l.length <;> simp_all, fun e => hi (fun _ => e)⟩
theorem bh5 (q h : Nat) : ((q : Int).fdiv ((2 : Int) ^ min ((h : Nat) : Int).toNat 64) != (0 : Int)) = decide (¬ q < 2 ^ min h 64) := by
 rw [toNat_cast, Int.fdiv_eq_ediv_of_nonneg _ (by exact Int.le_of_lt (Int.pow_pos (by omega))), show ((2 : Int) ^ min h 64) = ((2 ^ min h 64 : Nat) : Int) by simp, ← Int.natCast_ediv]
 by_cases hq : q < 2 ^ min h 64
 ·rw [decide_eq_false (by omega), Nat.div_eq_of_lt hq]; rfl
 ·rw [decide_eq_true hq, bne_iff_ne]
  have := (Nat.le_div_iff_mul_le (Nat.two_pow_pos (min h 64))).2 (show 1 * 2 ^ min h 64 ≤ q by omega)
  omega
theorem uj {ρ : Type} (k : Bool → Option ρ) : P.uj k = k true := by
 rw [P.alm]; unfold P.aga
 have hk : Kind 8 34 0 := by simp [Kind]
 have hs := ai5 (ρ := ρ) hk (by omega) (h := 5) (by decide) (by omega)
 have hv : ∀ (k : Int → Option ρ), P.lg [] [] [] k = k 10 := fun k => by
  rw [P.afy]; unfold P.abb
  rw [jr (by simp)]
 have f6 : ∀ (k : Bool → Option ρ), P.w9 6 8 k = k false := fun k => by
  rw [P.afu]; unfold P.ach
  rw [show (6 : Int) = ((6 : Nat) : Int) from rfl, mg 6 (by omega), dh (by decide)]
 have f5 : ∀ (k : Bool → Option ρ), P.w9 5 8 k = k true := fun k => by
  rw [P.afu]; unfold P.ach
  rw [show (5 : Int) = ((5 : Nat) : Int) from rfl, mg 5 (by omega), jr (by decide), show (8 : Int) = ((8 : Nat) : Int) from rfl, af6 hk]
  rfl
 rw [show (5 : Int) = ((5 : Nat) : Int) from rfl, show (8 : Int) = ((8 : Nat) : Int) from rfl, hs, dw (by decide), hv, dw rfl]
 show P.w9 6 8 _ = _
 rw [f6, su, adu]
 exact f5 k
end Q
end

section
/- hss: which keys can be, how many leaves, and the leaves of a number. -/
namespace Q
open Go Go.Abs
set_option linter.unusedVariables false
set_option linter.unusedSimpArgs false
theorem azy (h : Int) {ρ : Type} (k : Int → Option ρ) : P.mg h k = k ((qm h.toNat : Nat) : Int) := by
 by_cases hh : 0 ≤ h ∧ h ≤ 1000
 ·obtain ⟨n, rfl⟩ : ∃ n : Nat, h = (n : Int) := ⟨h.toNat, by omega⟩
  rw [mg n (by omega), toNat_cast]
 ·rw [P.aij]; unfold P.aez
  have h0 : qm h.toNat = 0 := by unfold qm; rw [if_neg (by omega), if_neg (by omega)]
  simp (disch := omega) only [bn]
  rw [h0]; rfl
theorem av9 {w : Int} (h : w ≠ 1 ∧ w ≠ 2 ∧ w ≠ 4 ∧ w ≠ 8) {ρ : Type} (k : Int → Option ρ) : P.om w k = k 0 := by
 obtain ⟨h1, h2, h3, h4⟩ := h
 rw [P.aei]; unfold P.abf
 simp (disch := omega) only [bn]
def bex (h w : Int) : Prop := qm h.toNat ≠ 0 ∧ (w = 1 ∨ w = 2 ∨ w = 4 ∨ w = 8)
theorem bei (h w : Int) {ρ : Type} (k : Bool → Option ρ) : (bex h w → P.w9 h w k = k true) ∧ (¬ bex h w → P.w9 h w k = k false) := by
 rw [P.afu]; unfold P.ach
 rw [azy]
 constructor
 ·intro f
  rw [jr (by have := f.1; omega)]
  rcases bbr w with ⟨n, p, s, rfl, h2⟩ | hn
  ·rw [af6 h2, show (((wh n : Nat) : Int) != 0) = true by rw [bne_iff_ne]; have : wh n ≠ 0 := by { unfold wh; split <;> (try split) <;> (try split) <;> omega }; omega]
  ·have := f.2; omega
 ·intro f
  by_cases h0 : qm h.toNat = 0
  ·rw [dh (by omega)]
  ·rw [jr (by omega)]
   rcases bbr w with ⟨n, p, s, rfl, h2⟩ | hn
   ·exact absurd ⟨h0, by rcases h2 with ⟨rfl, _⟩ | ⟨rfl, _⟩ | ⟨rfl, _⟩ | ⟨rfl, _⟩ <;> simp⟩ f
   ·rw [av9 hn]; rfl
def hts (H : List Int) : List Nat := H.map Int.toNat
def OkT (H W : List Int) (j : Nat) : Prop := bex (H.getD j 0) (W.getD j 0) ∧ H.getD j 0 ≤ 10
structure FitK (n : Nat) (H W id seed : List Int) : Prop where
 n1 : 1 ≤ n
 n8 : n ≤ 8
 t : ∀ j, j < n → OkT H W j
 s : sm (hts H) ≤ 60
 i : id.length = 16
 d : seed.length = 32
theorem avy {s : Nat} (h : s ≤ 60) : IntKind.u64.wrap ((1 : Int) * (2 : Int) ^ min ((s : Nat) : Int).toNat 64) = ((2 ^ s : Nat) : Int) := by
 have h2 : 2 ^ s ≤ 2 ^ 60 := Nat.pow_le_pow_right (by omega) h
 rw [toNat_cast, Nat.min_eq_left (by omega), Int.one_mul, show ((2 : Int) ^ s) = ((2 ^ s : Nat) : Int) by simp, agr _ (by omega)]
end Q
end

section
/- bits: Pack. -/
namespace Q
open Go Go.Abs
set_option linter.unusedVariables false
set_option linter.unusedSimpArgs false
end Q
end

section
/- hss: the leaves of a number. -/
namespace Q
open Go Go.Abs
set_option linter.unusedVariables false
set_option linter.unusedSimpArgs false
theorem awy (N s : Nat) (hs : s ≤ 64) : (N : Int).fdiv ((2 : Int) ^ min ((s : Nat) : Int).toNat 64) = ((N / 2 ^ s : Nat) : Int) := by
 rw [toNat_cast, fdiv_pow N s 64 hs]
end Q
end

section
/- The plain law of LmotsRight. -/
namespace Q
open Go Go.Abs
set_option linter.unusedVariables false
set_option linter.unusedSimpArgs false
end Q
end

section
/- lms: a tree's knots, its key, its signatures. -/
namespace Q
open Go Go.Abs
set_option linter.unusedVariables false
set_option linter.unusedSimpArgs false
def kn (w p : Nat) (id seed : List Int) (h : Nat) : Nat → Nat → List Int
 | 0, n => atz id n 33410 [bgn w p id (n - 2 ^ h) seed]
 | j + 1, n => atz id n 33667 [kn w p id seed h j (2 * n), kn w p id seed h j (2 * n + 1)]
theorem ah4 (w p : Nat) (id seed : List Int) (h j n : Nat) : (kn w p id seed h j n).length = 32 := by
 cases j <;> exact yt _ _ _ _
theorem avt (w p : Nat) (id seed : List Int) (h j n : Nat) : In 256 (kn w p id seed h j n) := by
 cases j <;> exact ad2 _ _ _ _
theorem bcu (w p : Nat) (id : List Int) (q : Nat) (seed : List Int) : (bgn w p id q seed).length = 32 := yt _ _ _ _
theorem bf9 (w p : Nat) (id : List Int) (q : Nat) (seed : List Int) : In 256 (bgn w p id q seed) := ad2 _ _ _ _
theorem aje {h : Nat} (h10 : h ≤ 10) : 2 ^ h ≤ 1024 := by
 have : 2 ^ h ≤ 2 ^ 10 := Nat.pow_le_pow_right (by omega) h10
 omega
theorem ara {w p s : Nat} (hk : Kind w p s) (id seed : List Int) (hid : In 256 id) (h16 : id.length = 16) (hsd : In 256 seed) (h32 : seed.length = 32) (h : Nat) (h10 : h ≤ 10) :
    ∀ (j n f : Nat), j ≤ h → 2 ^ (h - j) ≤ n → n < 2 ^ (h - j + 1) → j < f → ∀ {ρ : Type} (k : List Int → Option ρ), P.fq f (h : Int) (w : Int) id seed (n : Int) k = k (kn w p id seed h j n)
 | 0, n, f + 1, hj, h1, h2, hf, ρ, k => by
  have hp := aje h10
  rw [Nat.sub_zero] at h1 h2
  rw [Nat.pow_succ] at h2
  rw [P.ab6]; unfold P.y8
  rw [dx (by omega), avy (by omega), au (by omega), show (n : Int) - ((2 ^ h : Nat) : Int) = ((n - 2 ^ h : Nat) : Int) by omega, agr _ (by omega), bcn _ (by omega),
   bbu hk id _ seed hid (by omega) hsd h16 h32, show (33410 : Int) = ((33410 : Nat) : Int) from rfl, qg id n 33410 _ hid (by omega) (by omega) (by omega) (by simpa using bf9 _ _ _ _ _) (by simp) (by simp [bcu])]
  rfl
 | j + 1, n, f + 1, hj, h1, h2, hf, ρ, k => by
  have hp := aje h10
  obtain ⟨m, hm⟩ : ∃ m, h - (j + 1) = m := ⟨_, rfl⟩
  have hm1 : h - j = m + 1 := by omega
  rw [hm] at h1 h2
  have hle : 2 ^ (m + 1) ≤ 2 ^ h := Nat.pow_le_pow_right (by omega) (by omega)
  have e1 : 2 ^ (m + 1) = 2 ^ m * 2 := Nat.pow_succ ..
  have e2 : 2 ^ (m + 1 + 1) = 2 ^ (m + 1) * 2 := Nat.pow_succ ..
  rw [P.ab6]; unfold P.y8
  rw [dx (by omega), avy (by omega), dx (by omega), show (2 : Int) * (n : Int) = ((2 * n : Nat) : Int) by omega, agr _ (by omega), show ((2 * n : Nat) : Int) + 1 = ((2 * n + 1 : Nat) : Int) by omega, agr _ (by omega),
   ara hk id seed hid h16 hsd h32 h h10 j (2 * n) f (by omega) (by rw [hm1]; omega) (by rw [hm1]; omega) (by omega),
   ara hk id seed hid h16 hsd h32 h h10 j (2 * n + 1) f (by omega) (by rw [hm1]; omega) (by rw [hm1]; omega) (by omega),
   show (33667 : Int) = ((33667 : Nat) : Int) from rfl, qg id n 33667 _ hid (by omega) (by omega) (by omega) (by simpa using (avt _ _ _ _ _ _ _).app (avt _ _ _ _ _ _ _)) (by simp) (by simp [ah4])]
  rfl
 | j, n, 0, hj, h1, h2, hf, ρ, k => by omega
theorem aif {h w : Int} (f : bex h w) (id seed : List Int) (h16 : id.length = 16) (h32 : seed.length = 32) (h10 : h ≤ 10) {ρ : Type} (k : Int → Option ρ) : P.qc h w id seed k = k 0 := by
 rw [P.aly]; unfold P.af2
 rw [(bei h w _).1 f, su, abd, dh (by omega), dh (by omega), dx (by omega)]
def bhd (w p : Nat) (id seed : List Int) (h : Nat) : List Int := (beN (qm h) 4 ++ beN (wh w) 4) ++ (id ++ kn w p id seed h h 1)
theorem axp (w p : Nat) (id seed : List Int) (h : Nat) (h16 : id.length = 16) : (bhd w p id seed h).length = 56 := by
 simp [bhd, nu, ah4, h16]
theorem asb {w p s : Nat} (hk : Kind w p s) (h : Nat) (hh : qm h ≠ 0) (id seed : List Int) (hid : In 256 id) (h16 : id.length = 16) (hsd : In 256 seed) (h32 : seed.length = 32) (h10 : h ≤ 10) (f : bex (h : Int) (w : Int)) {ρ : Type} (k : List Int → Int → Option ρ) :
    P.aay (h : Int) (w : Int) id seed k = k (bhd w p id seed h) 0 := by
 rw [P.akn]; unfold P.afb
 rw [aif f id seed h16 h32 (by omega), dh rfl, bal hk (by omega), toNat_cast, show (1 : Int) = ((1 : Nat) : Int) from rfl,
  ara hk id seed hid h16 hsd h32 h h10 h 1 (h + 2) (by omega) (by rw [Nat.sub_self]; omega) (by rw [Nat.sub_self]; omega) (by omega), d9 _ (by simp) (by simp [nu, ah4, h16])]
 simp only [List.flatten_cons, List.flatten_nil, List.append_nil]
 rfl
def avh (w p : Nat) (id seed : List Int) (h n i : Nat) : List Int := kn w p id seed h i ((n / 2 ^ i) ^^^ 1)
theorem bhr (x : Nat) : x ^^^ 1 = if x % 2 = 0 then x + 1 else x - 1 := by
 have h1 : (x ^^^ 1) / 2 = x / 2 := by rw [Nat.xor_div_two]; simp
 have h2 : (x ^^^ 1) % 2 = (x + 1) % 2 := by
  have := Nat.xor_mod_two_pow (a := x) (b := 1) (n := 1)
  rw [Nat.pow_one] at this
  rw [this]
  rcases Nat.mod_two_eq_zero_or_one x with e | e <;> rw [e]
  ·show 0 ^^^ 1 = _
   simp; omega
  ·show 1 ^^^ 1 = _
   simp; omega
 split <;> omega
theorem bfh {a m : Nat} (h1 : 2 ^ (m + 1) ≤ a) (h2 : a < 2 ^ (m + 1 + 1)) : 2 ^ (m + 1) ≤ a ^^^ 1 ∧ a ^^^ 1 < 2 ^ (m + 1 + 1) := by
 rw [bhr]
 have e1 : 2 ^ (m + 1) = 2 ^ m * 2 := Nat.pow_succ ..
 have e2 : 2 ^ (m + 1 + 1) = 2 ^ (m + 1) * 2 := Nat.pow_succ ..
 split <;> omega
theorem bgt {n h i : Nat} (h1 : 2 ^ h ≤ n) (h2 : n < 2 ^ (h + 1)) (hi : i ≤ h) : 2 ^ (h - i) ≤ n / 2 ^ i ∧ n / 2 ^ i < 2 ^ (h - i + 1) := by
 have e : 2 ^ h = 2 ^ (h - i) * 2 ^ i := by rw [← Nat.pow_add]; congr 1; omega
 have e' : 2 ^ (h + 1) = 2 ^ (h - i + 1) * 2 ^ i := by rw [← Nat.pow_add]; congr 1; omega
 exact ⟨(Nat.le_div_iff_mul_le (Nat.two_pow_pos i)).2 (by omega), (Nat.div_lt_iff_lt_mul (Nat.two_pow_pos i)).2 (by omega)⟩
def amo (w p s : Nat) (id seed : List Int) (h q : Nat) (text : List Int) : List Int :=
 (beN q 4 ++ (aoz w p s id q seed text ++ beN (qm h) 4)) ++ abx (avh w p id seed h (2 ^ h + q)) h
theorem aq1 (w p s : Nat) (id seed : List Int) (h q : Nat) (text : List Int) : (amo w p s id seed h q text).length = 4 + (36 + 32 * p) + 4 + 32 * h := by
 unfold amo
 rw [List.length_append, List.length_append, List.length_append, nu, nu, ard, aec (avh w p id seed h (2 ^ h + q)) (fun i => ah4 _ _ _ _ _ _ _)]
 omega
theorem arb (w p s : Nat) (id seed : List Int) (h q : Nat) (text : List Int) : In 256 (amo w p s id seed h q text) :=
 ((aeb _ _).app ((azt _ _ _ _ _ _ _).app (aeb _ _))).app (akb _ (fun i => avt _ _ _ _ _ _ _) _)
theorem av4 {w p s : Nat} (hk : Kind w p s) (h : Nat) (hh : qm h ≠ 0) (id seed : List Int) (hid : In 256 id) (h16 : id.length = 16) (hsd : In 256 seed) (h32 : seed.length = 32) (h10 : h ≤ 10) (f : bex (h : Int) (w : Int)) (q : Nat) (hq : q < 2 ^ h) (text : List Int) (ht : In 256 text) (htl : text.length ≤ 300) {ρ : Type} (k : List Int → Int → Option ρ) :
    P.ac1 (h : Int) (w : Int) id seed (q : Int) text k = k (amo w p s id seed h q text) 0 := by
 have hp := aje h10
 have hpp := (pw hk).2.2.1
 have hc := amv h
 rw [P.aix]; unfold P.ae7
 rw [aif f id seed h16 h32 (by omega), dh rfl, dx (by omega), agr q (by omega), awy q h (by omega), Nat.div_eq_of_lt hq, dh (by omega), bgz hk id q seed text hid (by omega) hsd h16 h32 ht htl, show (4 : Int) = ((4 : Nat) : Int) from rfl, jg q 4 (by omega) (by omega), mg h (by omega), jg _ 4 (by omega) (by omega)]
 have hfl : [(bsw 8 4 q).reverse, aoz w p s id q seed text, (bsw 8 4 (qm h)).reverse].flatten = beN q 4 ++ (aoz w p s id q seed text ++ beN (qm h) 4) := by simp [beN]
 have hfll : (beN q 4 ++ (aoz w p s id q seed text ++ beN (qm h) 4)).length = 44 + 32 * p := by simp [nu, ard]; omega
 rw [d9 _ (by simp) (by rw [hfl]; omega), hfl, dx (by omega), avy (by omega), show ((2 ^ h : Nat) : Int) + (q : Int) = ((2 ^ h + q : Nat) : Int) by omega, agr (2 ^ h + q) (by omega), P.amg]
 unfold P.ajq P.bj5 P.bjx P.blp
 have hup : 2 ^ h + q < 2 ^ (h + 1) := by rw [Nat.pow_succ]; omega
 refine ac9 (fun i => ((((2 ^ h + q) / 2 ^ i : Nat) : Int), (beN q 4 ++ (aoz w p s id q seed text ++ beN (qm h) 4)) ++ abx (avh w p id seed h (2 ^ h + q)) i, (h : Int), (w : Int), id, seed)) h (by simp [abx]) (fun i hi next hnx => ?_) (fun next => ?_) (by omega)
 ·simp only [P.af9]
  have hw := be5 (n := 2 ^ h + q) (by omega) hup hi
  have hlt : (2 ^ h + q) / 2 ^ i ≤ 2 ^ h + q := Nat.div_le_self _ _
  obtain ⟨r1, r2⟩ := bgt (n := 2 ^ h + q) (by omega) hup (show i ≤ h by omega)
  obtain ⟨m, hm⟩ : ∃ m, h - i = m + 1 := ⟨h - i - 1, by omega⟩
  rw [hm] at r1 r2
  obtain ⟨x1, x2⟩ := bfh r1 r2
  rw [← hm] at x1 x2
  have hnxt : (2 ^ h + q) / 2 ^ (i + 1) = (2 ^ h + q) / 2 ^ i / 2 := by rw [Nat.pow_succ, Nat.div_div_eq_div_mul]
  have hel := aec (avh w p id seed h (2 ^ h + q)) (fun i => ah4 _ _ _ _ _ _ _) i
  have hpl : (avh w p id seed h (2 ^ h + q) i).length = 32 := ah4 _ _ _ _ _ _ _
  rw [au (by omega), toNat_cast, show (1 : Int) = ((1 : Nat) : Int) from rfl, bfy _ _ (by omega) (by omega), ara hk id seed hid h16 hsd h32 h h10 i _ (h + 2) (by omega) x1 x2 (by omega), half _ (by omega)]
  rw [show kn w p id seed h i (((2 ^ h + q) / 2 ^ i) ^^^ 1) = avh w p id seed h (2 ^ h + q) i from rfl, au (by rw [List.length_append, hfll, hel, hpl]; omega), List.append_assoc, ← xq, ← hnxt]
  exact hnx
 ·simp only [P.af9]
  rw [avv (by omega) hup, dx (by omega)]
  rfl
theorem ao0 {w p s : Nat} (hk : Kind w p s) (h : Nat) (id seed : List Int) (h16 : id.length = 16) (h32 : seed.length = 32) (h10 : h ≤ 10) (f : bex (h : Int) (w : Int)) (q : Nat) (hq : ¬ q < 2 ^ h) (hq2 : q < 4294967296) (text : List Int) {ρ : Type} (k : List Int → Int → Option ρ) :
    P.ac1 (h : Int) (w : Int) id seed (q : Int) text k = k [] 13 := by
 have h1' : 1 ≤ q / 2 ^ h := (Nat.le_div_iff_mul_le (Nat.two_pow_pos _)).2 (by omega)
 rw [P.aix]; unfold P.ae7
 rw [aif f id seed h16 h32 (by omega), dh rfl, dx (by omega), agr q (by omega), awy q h (by omega), jr (by omega)]
end Q
end

section
/- lms: what a tree signs is right by its key. -/
namespace Q
open Go Go.Abs
set_option linter.unusedVariables false
set_option linter.unusedSimpArgs false
theorem atp {w p s : Nat} (h : Kind w p s) : wOf (wh w) = w ∧ pOf w = p := by
 rcases h with ⟨rfl, rfl, _⟩ | ⟨rfl, rfl, _⟩ | ⟨rfl, rfl, _⟩ | ⟨rfl, rfl, _⟩ <;> decide
theorem ax7 {h : Nat} (hh : qm h ≠ 0) : hOf (qm h) = h := bbq h hh
theorem aw7 {w p s : Nat} (hk : Kind w p s) (h : Nat) (hh : qm h ≠ 0) (b : List Int) (h1 : nm b 4 8 = wh w) (h2 : nm b (4 + (36 + 32 * p)) (4 + (36 + 32 * p) + 4) = qm h) (hl : 4 + (36 + 32 * p) + 4 + 32 * h ≤ b.length) {ρ : Type} (k : List Int → Int → Int → List Int → Int → Option ρ) :
    bj4 b k = k (b.take (4 + (36 + 32 * p) + 4 + 32 * h)) (h : Int) (w : Int) (b.drop (4 + (36 + 32 * p) + 4 + 32 * h)) 0 := by
 obtain ⟨e1, e2⟩ := atp hk
 have hw0 : w ≠ 0 := by rcases hk with ⟨rfl, _⟩ | ⟨rfl, _⟩ | ⟨rfl, _⟩ | ⟨rfl, _⟩ <;> omega
 have hh0 : h ≠ 0 := by
  rintro rfl
  exact hh rfl
 unfold bj4
 rw [h1, e1, e2, h2, ax7 hh, if_neg (by omega), if_neg hw0, if_neg (by omega), if_neg hh0, if_neg (by omega)]
theorem atu (c : Nat) (hc : c < 4294967296) (b : List Int) (i : Nat) (h : (b.take (i + 4)).drop i = beN c 4) : nm b i (i + 4) = c := by
 unfold nm
 rw [h]
 unfold beN
 rw [List.reverse_reverse, bho]
 omega
theorem be7 (w p : Nat) (id seed : List Int) (h q : Nat) (hq : q < 2 ^ h) (path : List Int) (hp : ∀ i, i < h → (path.drop (32 * i)).take 32 = avh w p id seed h (2 ^ h + q) i) :
    ∀ i, i ≤ h → av2 id (2 ^ h + q) path (atz id (2 ^ h + q) 33410 [bgn w p id q seed]) i = kn w p id seed h i ((2 ^ h + q) / 2 ^ i)
 | 0, _ => by
  rw [av2, Nat.pow_zero, Nat.div_one, kn, show 2 ^ h + q - 2 ^ h = q by omega]
 | i + 1, hi => by
  have ih := be7 w p id seed h q hq path hp i (by omega)
  rw [av2, ih, hp i (by omega), Nat.pow_succ, ← Nat.div_div_eq_div_mul]
  unfold avh
  generalize (2 ^ h + q) / 2 ^ i = a
  rw [kn, bhr]
  by_cases ha : a % 2 = 1
  ·rw [if_pos ha, if_neg (by omega), show 2 * (a / 2) = a - 1 by omega, show a - 1 + 1 = a by omega]
  ·rw [if_neg ha, if_pos (by omega), show 2 * (a / 2) = a by omega]
theorem aiw {w p s : Nat} (hk : Kind w p s) (h : Nat) (hh : qm h ≠ 0) (h25 : h ≤ 25) (id top text sig : List Int) (hid : In 256 id) (h16 : id.length = 16) (htop : In 256 top) (htopl : top.length = 32) (ht : In 256 text) (htl : text.length ≤ 300) (hs : In 256 sig) (hsl : sig.length ≤ 12000)
    (h1 : nm sig 4 8 = wh w) (h2 : nm sig (4 + (36 + 32 * p)) (4 + (36 + 32 * p) + 4) = qm h) (hl : 4 + (36 + 32 * p) + 4 + 32 * h ≤ sig.length) {ρ : Type} (k : Int → Option ρ) :
    (4 + (36 + 32 * p) + 4 + 32 * h < sig.length → P.lg ((beN (qm h) 4 ++ beN (wh w) 4) ++ (id ++ top)) text sig k = k 1) ∧
    (4 + (36 + 32 * p) + 4 + 32 * h = sig.length → ¬ nm sig 0 4 < 2 ^ h → P.lg ((beN (qm h) 4 ++ beN (wh w) 4) ++ (id ++ top)) text sig k = k 13) ∧
    (4 + (36 + 32 * p) + 4 + 32 * h = sig.length → nm sig 0 4 < 2 ^ h → av2 id (2 ^ h + nm sig 0 4) (sig.drop (4 + (36 + 32 * p) + 4)) (atz id (2 ^ h + nm sig 0 4) 33410 [azj w p s id (nm sig 0 4) text ((sig.take (4 + (36 + 32 * p))).drop 4)]) h = top → P.lg ((beN (qm h) 4 ++ beN (wh w) 4) ++ (id ++ top)) text sig k = k 0) := by
 have e4 : Int.toNat (4 : Int) = 4 := rfl
 have e8 : Int.toNat (8 : Int) = 8 := rfl
 have e24 : Int.toNat (24 : Int) = 24 := rfl
 obtain ⟨w1, w2⟩ := atp hk
 have hw0 : w ≠ 0 := by rcases hk with ⟨rfl, _⟩ | ⟨rfl, _⟩ | ⟨rfl, _⟩ | ⟨rfl, _⟩ <;> omega
 have hh0 : h ≠ 0 := by
  rintro rfl
  exact hh rfl
 have hp := (pw hk).2.2.1
 have hch := amv h
 have hcw := akm w
 have h25' : 2 ^ h ≤ 2 ^ 25 := Nat.pow_le_pow_right (by omega) h25
 generalize hkey : (beN (qm h) 4 ++ beN (wh w) 4) ++ (id ++ top) = a0
 have hl0 : a0.length = 56 := by rw [← hkey]; simp [nu, h16, htopl]
 have h0 : In 256 a0 := by rw [← hkey]; exact ((aeb _ _).app (aeb _ _)).app (hid.app htop)
 have t4 : (a0.take 4).drop 0 = beN (qm h) 4 := by
  rw [← hkey, List.append_assoc, List.drop_zero, List.take_append_of_le_length (by simp [nu]), List.take_of_length_le (by simp [nu])]
 have t8 : (a0.take 8).drop 0 = beN (qm h) 4 ++ beN (wh w) 4 := by
  rw [← hkey, List.drop_zero, List.take_append_of_le_length (by simp [nu]), List.take_of_length_le (by simp [nu])]
 have t48 : (a0.take 8).drop 4 = beN (wh w) 4 := by
  have : a0.take 8 = beN (qm h) 4 ++ beN (wh w) 4 := by simpa using t8
  rw [this, List.drop_append_of_le_length (by simp [nu]), List.drop_of_length_le (by simp [nu]), List.nil_append]
 have d8 : a0.drop 8 = id ++ top := by
  rw [← hkey, show 8 = (beN (qm h) 4 ++ beN (wh w) 4).length by simp [nu], List.drop_left]
 have t24 : (a0.take 24).drop 8 = id := by
  rw [List.drop_take, d8, show 24 - 8 = id.length by omega, List.take_left]
 have d24 : (a0.take a0.length).drop 24 = top := by
  rw [List.take_length, show 24 = 8 + 16 by rfl, ← List.drop_drop, d8, ← h16, List.drop_left]
 have m1 : nm a0 0 4 = qm h := atu _ hch a0 0 t4
 have m2 : nm a0 4 8 = wh w := atu _ (by omega) a0 4 t48
 have hcut := aw7 hk h hh sig h1 h2 hl (ρ := ρ)
 have hd0 : ∀ x : Nat, x < 1 + 25 → True := fun _ _ => trivial
 have pre : P.lg a0 text sig k = P.abb a0 text sig k := P.afy ..
 have hhl : (beN (qm h) 4 ++ beN (wh w) 4).length = 8 := by simp [nu]
 generalize hq : nm sig 0 4 = q
 have hq32 : q < 4294967296 := by rw [← hq]; exact bek sig 0 4 (by omega)
 have hmin : min h 64 = h := by omega
 have start : ∀ (r : Option ρ), (br (decide (((sig.drop (4 + (36 + 32 * p) + 4 + 32 * h)).length : Int) > 0)) (k 1) (br (((q : Int)).fdiv ((2 : Int) ^ min ((h : Nat) : Int).toNat 64) != (0 : Int)) (k 13) (P.acz (h : Int) (w : Int) id text sig fun q12 => P.vo q12 top fun (q13 : Bool) => br (!q13) (k 11) (k 0)))) = r → P.lg a0 text sig k = r := by
  intro r hr
  rw [pre]; unfold P.abb
  rw [dh (by omega), au (by omega), e4, apn a0 h0 0 4 (by omega), m1, qj _ (by omega), ax7 hh, bn (by omega), au (by omega), e8, apn a0 h0 4 8 (by omega), m2, um _ (by omega), w1, bn (by omega), abp sig hs (by omega), hcut, dh rfl, ← hr]
  congr 1
  rw [bal hk h25, au (by omega), t8, vo _ _ ((aeb _ _).app (aeb _ _)) ((aeb _ _).app (aeb _ _)) (by omega), decide_eq_true rfl, su, abd, au (by omega), apn sig hs 0 4 (by omega), hq, dx (by omega), au (by omega), e24, t24]
  congr 2
  funext q12
  rw [au (by omega), au (by omega), toNat_cast, d24]
 refine ⟨fun hlt => start _ ?_, fun heq hnq => start _ ?_, fun heq hq2 hcur => start _ ?_⟩
 ·rw [au (by rw [List.length_drop]; omega)]
 ·rw [dx (by rw [List.length_drop]; omega), bh5, hmin, au hnq]
 ·rw [dx (by rw [List.length_drop]; omega), bh5, hmin, dx (by omega)]
  have hsg : In 256 ((sig.take (4 + (36 + 32 * p))).drop 4) := (hs.take _).drop 4
  have hsgl : ((sig.take (4 + (36 + 32 * p))).drop 4).length = 36 + 32 * p := by simp; omega
  have hcode : T 8 (((sig.take (4 + (36 + 32 * p))).drop 4).take 4).reverse = wh w := by
   rw [← h1]
   unfold nm
   congr 2
   rw [List.take_drop, List.take_take]
   congr 2
   omega
  have hpt : In 256 (sig.drop (4 + (36 + 32 * p) + 4)) := hs.drop _
  have hptl : (sig.drop (4 + (36 + 32 * p) + 4)).length = 32 * h := by simp; omega
  have w1' : IntKind.u64.wrap ((1 : Int) * (2 : Int) ^ min ((h : Nat) : Int).toNat 64) = ((2 ^ h : Nat) : Int) := by
   rw [toNat_cast, hmin, Int.one_mul, show ((2 : Int) ^ h) = ((2 ^ h : Nat) : Int) by simp, agr _ (by omega)]
  have hup2 : 2 ^ h + q < 2 ^ (h + 1) := by rw [Nat.pow_succ]; omega
  generalize hcs : azj w p s id q text ((sig.take (4 + (36 + 32 * p))).drop 4) = cs at hcur
  have hcsl : cs.length = 32 := by rw [← hcs]; exact yt _ _ _ _
  have hcsi : In 256 cs := by rw [← hcs]; exact ad2 _ _ _ _
  generalize hlf : atz id (2 ^ h + q) 33410 [cs] = lf at hcur
  have hlfl : lf.length = 32 := by rw [← hlf]; exact yt _ _ _ _
  have hlfi : In 256 lf := by rw [← hlf]; exact ad2 _ _ _ _
  have hroot : ∀ {ρ : Type} (k : List Int → Option ρ), P.acz (h : Int) (w : Int) id text sig k = k top := by
   intro ρ k
   rw [P.anc]; unfold P.ag3
   rw [au (by omega), e4, apn sig hs 0 4 (by omega), hq, jf hk, aag (x := (4 : Int) + ((36 + 32 * p : Nat) : Int)) (by omega) (by omega), aag (x := (4 : Int) + ((36 + 32 * p : Nat) : Int) + 4) (by omega) (by omega), au (by omega), au (by omega), bcn q hq32, show ((4 : Int) + ((36 + 32 * p : Nat) : Int)).toNat = 4 + (36 + 32 * p) by omega,
    aun hk _ q text _ hid hq32 h16 ht htl hsg hsgl hcode, hcs, dx (by omega), w1', agr q (by omega), show ((2 ^ h : Nat) : Int) + (q : Int) = ((2 ^ h + q : Nat) : Int) by omega, agr (2 ^ h + q) (by omega), show (33410 : Int) = ((33410 : Nat) : Int) from rfl,
    qg _ _ 33410 [cs] hid (by omega) (by omega) (by omega) (by simpa using hcsi) (by simp) (by simp; omega), hlf, au (by omega), au (by omega), au (by omega), dx (by omega), show ((4 : Int) + ((36 + 32 * p : Nat) : Int) + 4).toNat = 4 + (36 + 32 * p) + 4 by omega, toNat_cast, List.take_length,
    bch _ _ _ _ (2 ^ h + q) h hid (by omega) hlfi hlfl hpt hptl (by omega) (by omega) hup2 (by omega), hcur]
  rw [hroot, vo _ _ htop htop (by omega), decide_eq_true rfl, su, abd]
theorem ahq {w p s : Nat} (hk : Kind w p s) (id seed : List Int) (h q : Nat) (text more : List Int) (hh : qm h ≠ 0) :
    nm (amo w p s id seed h q text ++ more) 4 8 = wh w ∧ nm (amo w p s id seed h q text ++ more) (4 + (36 + 32 * p)) (4 + (36 + 32 * p) + 4) = qm h ∧
    ((amo w p s id seed h q text ++ more).take (4 + (36 + 32 * p))).drop 4 = aoz w p s id q seed text ∧ ((amo w p s id seed h q text ++ more).take 4).drop 0 = beN q 4 ∧
    (amo w p s id seed h q text).drop (4 + (36 + 32 * p) + 4) = abx (avh w p id seed h (2 ^ h + q)) h := by
 have hcw := akm w
 have hch := amv h
 have ls := ard w p s id q seed text
 have e : amo w p s id seed h q text ++ more = beN q 4 ++ (aoz w p s id q seed text ++ (beN (qm h) 4 ++ (abx (avh w p id seed h (2 ^ h + q)) h ++ more))) := by
  unfold amo; simp only [List.append_assoc]
 have d4 : (amo w p s id seed h q text ++ more).drop 4 = aoz w p s id q seed text ++ (beN (qm h) 4 ++ (abx (avh w p id seed h (2 ^ h + q)) h ++ more)) := by
  rw [e]
  have := List.drop_left (l₁ := beN q 4) (l₂ := aoz w p s id q seed text ++ (beN (qm h) 4 ++ (abx (avh w p id seed h (2 ^ h + q)) h ++ more)))
  rwa [nu] at this
 have c4 : (aoz w p s id q seed text).take 4 = beN (wh w) 4 := by
  unfold aoz
  rw [List.append_assoc, List.take_append_of_le_length (by rw [nu]; omega), List.take_of_length_le (by rw [nu]; omega)]
 have d40 : (amo w p s id seed h q text ++ more).drop (4 + (36 + 32 * p)) = beN (qm h) 4 ++ (abx (avh w p id seed h (2 ^ h + q)) h ++ more) := by
  rw [← List.drop_drop, d4, ← ls, List.drop_left]
 refine ⟨atu _ (by omega) _ 4 ?_, atu _ hch _ _ ?_, ?_, ?_, ?_⟩
 ·rw [List.drop_take, d4, Nat.add_sub_cancel_left, List.take_append_of_le_length (by omega), c4]
 ·rw [List.drop_take, d40, Nat.add_sub_cancel_left, List.take_append_of_le_length (by simp [nu]), List.take_of_length_le (by simp [nu])]
 ·rw [List.drop_take, d4, Nat.add_sub_cancel_left, ← ls, List.take_left]
 ·rw [e, List.drop_zero, List.take_append_of_le_length (by simp [nu]), List.take_of_length_le (by simp [nu])]
 ·unfold amo
  have : 4 + (36 + 32 * p) + 4 = (beN q 4 ++ (aoz w p s id q seed text ++ beN (qm h) 4)).length := by simp [nu, ls]; omega
  rw [this, List.drop_left]
end Q
end

section
namespace Q
open Go Go.Abs
set_option linter.unusedVariables false
set_option linter.unusedSimpArgs false
theorem bbh {w p s : Nat} (hk : Kind w p s) (h : Nat) (hh : qm h ≠ 0) (h10 : h ≤ 10) (id seed text : List Int) (hid : In 256 id) (h16 : id.length = 16) (ht : In 256 text) (htl : text.length ≤ 300) (q : Nat) (hq : q < 2 ^ h) {ρ : Type} (k : Int → Option ρ) :
    P.lg (bhd w p id seed h) text (amo w p s id seed h q text) k = k 0 ∧ (∀ more : List Int, In 256 more → 0 < more.length → more.length ≤ 400 → P.lg (bhd w p id seed h) text (amo w p s id seed h q text ++ more) k = k 1) := by
 have hp := (pw hk).2.2.1
 have hl := aq1 w p s id seed h q text
 have hp10 := aje h10
 have hpt : ∀ i, (avh w p id seed h (2 ^ h + q) i).length = 32 := fun i => ah4 _ _ _ _ _ _ _
 constructor
 ·obtain ⟨p1, p2, p3, p4, p5⟩ := ahq hk id seed h q text [] hh
  rw [List.append_nil] at p1 p2 p3 p4
  have hn : nm (amo w p s id seed h q text) 0 4 = q := atu q (by omega) _ 0 p4
  have hv := (aiw hk h hh (by omega) id (kn w p id seed h h 1) text (amo w p s id seed h q text) hid h16 (avt _ _ _ _ _ _ _) (ah4 _ _ _ _ _ _ _) ht htl (arb _ _ _ _ _ _ _ _) (by omega) p1 p2 (by omega) k).2.2
  rw [hn] at hv
  refine hv (by omega) hq ?_
  rw [p3, p5, bd6 hk, be7 w p id seed h q hq _ (fun i hi => ai6 _ hpt h i hi) h (Nat.le_refl h)]
  rw [avv (by omega) (by rw [Nat.pow_succ]; omega)]
 ·intro more hm hm0 hml
  obtain ⟨p1, p2, p3, p4, p5⟩ := ahq hk id seed h q text more hh
  exact (aiw hk h hh (by omega) id (kn w p id seed h h 1) text (amo w p s id seed h q text ++ more) hid h16 (avt _ _ _ _ _ _ _) (ah4 _ _ _ _ _ _ _) ht htl ((arb _ _ _ _ _ _ _ _).app hm) (by rw [List.length_append]; omega) p1 p2 (by rw [List.length_append]; omega) k).1 (by rw [List.length_append]; omega)
theorem bec (q : Nat) (hq : q < 1024) : ∃ a b c : Int, beN q 4 = 0 :: [a, b, c] ∧ In 256 [a, b, c] := by
 have h := nu q 4
 have hi := aeb q 4
 have e : (beN q 4).getD 0 0 = 0 := by
  unfold beN
  rw [ar4 8 3 q, List.reverse_append]
  have : q / 2 ^ (8 * 3) % 2 ^ 8 = 0 := by rw [Nat.div_eq_of_lt (by omega)]
  rw [this]
  rfl
 match hb : beN q 4, h with
 | [x, a, b, c], _ =>
  rw [hb] at e hi
  simp at e
  subst e
  exact ⟨a, b, c, rfl, hi.tail⟩
theorem azr {w p s : Nat} (hk : Kind w p s) (h : Nat) (hh : qm h ≠ 0) (h10 : h ≤ 10) (id seed text : List Int) (hid : In 256 id) (h16 : id.length = 16) (ht : In 256 text) (htl : text.length ≤ 300) (q : Nat) (hq : q < 2 ^ h) {ρ : Type} (k : Int → Option ρ) :
    (amo w p s id seed h q text).getD 0 0 = 0 ∧ P.lg (bhd w p id seed h) text ((amo w p s id seed h q text).set 0 1) k = k 13 := by
 have hp := (pw hk).2.2.1
 have hl := aq1 w p s id seed h q text
 have hp10 := aje h10
 obtain ⟨p1, p2, p3, p4, p5⟩ := ahq hk id seed h q text [] hh
 rw [List.append_nil] at p1 p2 p3 p4
 obtain ⟨a, b, c, hb, habc⟩ := bec q (by omega)
 obtain ⟨r, hr, hri⟩ : ∃ r, amo w p s id seed h q text = 0 :: a :: b :: c :: r ∧ In 256 r := by
  refine ⟨(aoz w p s id q seed text ++ beN (qm h) 4) ++ abx (avh w p id seed h (2 ^ h + q)) h, ?_, ?_⟩
  ·unfold amo
   rw [hb]
   simp
  ·exact ((azt _ _ _ _ _ _ _).app (aeb _ _)).app (akb _ (fun i => avt _ _ _ _ _ _ _) _)
 have hin := arb w p s id seed h q text
 rw [hr] at hl p1 p2 hin ⊢
 refine ⟨rfl, ?_⟩
 have hset : (0 :: a :: b :: c :: r : List Int).set 0 1 = 1 :: a :: b :: c :: r := rfl
 have hin2 : In 256 (1 :: a :: b :: c :: r) := fun y hy => by
  rcases List.mem_cons.1 hy with rfl | hy
  ·omega
  ·exact hin y (List.mem_cons_of_mem _ hy)
 rw [hset]
 have same : ∀ i j, 1 ≤ i → nm (1 :: a :: b :: c :: r) i j = nm (0 :: a :: b :: c :: r) i j := by
  intro i j hi
  unfold nm
  cases j with
  | zero => simp
  | succ j =>
   obtain ⟨m, rfl⟩ : ∃ m, i = m + 1 := ⟨i - 1, by omega⟩
   rfl
 have hn : ¬ nm (1 :: a :: b :: c :: r) 0 4 < 2 ^ h := by
  have e1 : nm (1 :: a :: b :: c :: r) 0 4 = T 8 ([c, b, a] ++ [1]) := rfl
  have h3 := bi5 8 [c, b, a]
  have : T 8 ([c, b, a] ++ [1]) ≥ 16777216 := by
   obtain ⟨x1, hx1⟩ : ∃ x : Nat, a = (x : Int) := ⟨a.toNat, by have := habc a (by simp); omega⟩
   obtain ⟨x2, hx2⟩ : ∃ x : Nat, b = (x : Int) := ⟨b.toNat, by have := habc b (by simp); omega⟩
   obtain ⟨x3, hx3⟩ : ∃ x : Nat, c = (x : Int) := ⟨c.toNat, by have := habc c (by simp); omega⟩
   subst hx1 hx2 hx3
   simp [T]
   omega
  omega
 exact (aiw hk h hh (by omega) id (kn w p id seed h h 1) text (1 :: a :: b :: c :: r) hid h16 (avt _ _ _ _ _ _ _) (ah4 _ _ _ _ _ _ _) ht htl hin2 (by simp at hl ⊢; omega) (by rw [same 4 8 (by omega)]; exact p1) (by rw [same _ _ (by omega)]; exact p2) (by simp at hl ⊢; omega) k).2.1 (by simp at hl ⊢; omega) hn
theorem azl (x : Int) (h : wfI .u8 x) : ∃ a : Nat, IntKind.i64.wrap ((1 : Int) + IntKind.i64.wrap (x.tmod (2 : Int))) = (a : Int) ∧ (a = 1 ∨ a = 2) := by
 have := wf_u8 h
 obtain ⟨n, rfl⟩ : ∃ n : Nat, x = (n : Int) := ⟨x.toNat, by omega⟩
 refine ⟨1 + n % 2, ?_, by omega⟩
 rw [show (2 : Int) = ((2 : Nat) : Int) from rfl, tmN, aag (x := ((n % 2 : Nat) : Int)) (by omega) (by omega), aag (by omega) (by omega)]
 omega
theorem bdg (l : List Int) (h : l.getD 0 0 = 0) : ((l.set 0 (bits BinOp.xor IntKind.u8 (l.getD 0 (0 : Int)) (1 : Int))).set 0 (bits BinOp.xor IntKind.u8 ((l.set 0 (bits BinOp.xor IntKind.u8 (l.getD 0 (0 : Int)) (1 : Int))).getD 0 (0 : Int)) (1 : Int))) = l := by
 have e1 : bits BinOp.xor IntKind.u8 0 1 = 1 := by decide
 have e2 : bits BinOp.xor IntKind.u8 1 1 = 0 := by decide
 rw [h, e1]
 cases l with
 | nil => rfl
 | cons x r =>
  simp at h
  subst h
  show (((0 : Int) :: r).set 0 1).set 0 (bits BinOp.xor IntKind.u8 1 1) = _
  rw [e2]
  rfl
theorem LmsRight (x0 : Int) (x1 : Int) (x2 : List Int) (x3 : List Int) (x4 : Int) (x5 : List Int) (x6 : List Int) (wx0 : wfI .u8 x0) (wx1 : wfI .u8 x1) (nx2 : x2.length = 16) (wx2 : ∀ x, x ∈ x2 → wfI .u8 x) (nx3 : x3.length = 32) (wx3 : ∀ x, x ∈ x3 → wfI .u8 x) (wx4 : wfI .u32 x4) (nx5 : x5.length ≤ 140737488355328) (wx5 : ∀ x, x ∈ x5 → wfI .u8 x) (nx6 : x6.length ≤ 140737488355328) (wx6 : ∀ x, x ∈ x6 → wfI .u8 x) {ρ : Type} (k : Bool → Option ρ) : P.vv x0 x1 x2 x3 x4 x5 x6 k = k true := by
 rw [P.ag6]; unfold P.adk
 rcases adq [x5, x6] (by simp) (fun (q0 : Bool) => _) with ⟨hf, hl⟩ | hf
 ·rw [hf, su, abd]
  have l5 : x5.length ≤ 300 := hl 0 (by simp)
  have l6 : x6.length ≤ 300 := hl 1 (by simp)
  obtain ⟨h, eh, ch⟩ := azl x0 wx0
  obtain ⟨w, ew, cw⟩ := azl x1 wx1
  rw [eh, ew]
  obtain ⟨q, rfl⟩ : ∃ q : Nat, x4 = (q : Int) := ⟨x4.toNat, by have := wf_u32 wx4; omega⟩
  have hq32 : q < 4294967296 := by have := wf_u32 wx4; omega
  have hhc : qm h ≠ 0 := by rcases ch with rfl | rfl <;> decide
  obtain ⟨p, s, hk⟩ : ∃ p s, Kind w p s := by
   rcases cw with rfl | rfl
   ·exact ⟨265, 7, by simp [Kind]⟩
   ·exact ⟨133, 6, by simp [Kind]⟩
  have f : bex (h : Int) (w : Int) := ⟨by rw [toNat_cast]; exact hhc, by omega⟩
  have e2 : List.take 16 (List.drop 0 x2) = x2 := by rw [List.drop_zero, List.take_of_length_le (by omega)]
  have e3 : List.take 32 (List.drop 0 x3) = x3 := by rw [List.drop_zero, List.take_of_length_le (by omega)]
  have hp4 : 2 ^ h ≤ 4 := by rcases ch with rfl | rfl <;> decide
  have hpw : IntKind.u32.wrap ((1 : Int) * (2 : Int) ^ min ((h : Nat) : Int).toNat 32) = ((2 ^ h : Nat) : Int) := by
   rw [toNat_cast, Nat.min_eq_left (by omega), Int.one_mul, show ((2 : Int) ^ h) = ((2 ^ h : Nat) : Int) by simp, bcn _ (by omega)]
  have hpp := (pw hk).2.2.1
  have i2 := bdq wx2
  have i3 := bdq wx3
  have i5 := bdq wx5
  have i6 := bdq wx6
  rw [e2, e3, asb hk h hhc x2 x3 i2 nx2 i3 nx3 (by omega) f]
  by_cases hq : q < 2 ^ h
  ·have hsl := aq1 w p s x2 x3 h q x5
   have hsr := fun k => bbh hk h hhc (by omega) x2 x3 x5 i2 nx2 i5 l5 q hq (ρ := ρ) k
   have hs1 := fun k => azr hk h hhc (by omega) x2 x3 x5 i2 nx2 i5 l5 q hq (ρ := ρ) k
   have hz : (amo w p s x2 x3 h q x5).getD 0 0 = 0 := (hs1 (fun _ => none)).1
   have hb := bdg _ hz
   obtain ⟨p1, p2, _, _, _⟩ := ahq hk x2 x3 h q x5 x6 hhc
   rw [av4 hk h hhc x2 x3 i2 nx2 i3 nx3 (by omega) f q hq x5 i5 l5, dh rfl, axp _ _ _ _ _ nx2, dh (by omega), dx (by omega), hpw, dx (by omega), au (by omega), au (by rw [List.nil_append]; omega), List.nil_append,
    abp _ ((arb _ _ _ _ _ _ _ _).app i6) (by rw [List.length_append]; omega), aw7 hk h hhc _ p1 p2 (by rw [List.length_append]; omega), dh rfl, ai5 hk hpp hhc (by omega), dh (by omega), (hsr _).1, dh rfl, dh rfl]
   simp only [beq_self_eq_true, Bool.and_true, Bool.not_true, adu]
   rw [← hsl, List.take_left, List.drop_left, aa2 _ _ (by omega), decide_eq_true rfl, su, abd, aa2 _ _ (by omega), decide_eq_true rfl, su, abd, au (by omega), au (by omega)]
   rw [hb]
   have e1 : bits BinOp.xor IntKind.u8 ((amo w p s x2 x3 h q x5).getD 0 0) 1 = 1 := by rw [hz]; decide
   rw [e1, (hs1 _).2, dh rfl, au (by rw [List.length_set]; omega), au (by rw [List.length_set]; omega), au (by omega), (hsr _).2 [0] (fun y hy => by simp at hy; omega) (by simp) (by simp), dw rfl, uj]
  ·rw [ao0 hk h x2 x3 nx2 nx3 (by omega) f q hq hq32, dh rfl, axp _ _ _ _ _ nx2, dh (by omega), dx (by omega), hpw, au (by omega), dw rfl, dw (by simp), uj]
 ·rw [hf, su, adu, uj]
end Q
end
