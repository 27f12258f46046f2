/-
  XmssGrows, part 25: an interpreter of my own over abstract values, the pure functions, the walks and the plain law.
-/

import Derived.Test.YtjhnljhjpnjieaaGreatDoorXmssGrowsX
import Derived.Test.YtjhnljhjpnjieaaGreatDoorXmssGrowsH
import Derived.Test.YtjhnljhjpnjieaaGreatDoorXmssGrowsI
import Derived.Test.YtjhnljhjpnjieaaGreatDoorXmssGrowsJ
import Derived.Test.YtjhnljhjpnjieaaGreatDoorXmssGrowsG

section
/- wots: chains, keys, signatures, by the program. -/
namespace Q
open QK
open Go Go.Abs
set_option linter.unusedVariables false
set_option linter.unusedSimpArgs false
def chn (n : Nat) (sh : Bool) (pub a : List Int) (f : Nat) : Nat → List Int → List Int
 | 0, y => y
 | m + 1, y => bdt n sh pub (asj a 5 (f + m)) (chn n sh pub a f m y)
theorem asw {n : Nat} (hn : n ≤ 32) (sh : Bool) (pub a : List Int) (f : Nat) (y : List Int) (hy : y.length = n) : ∀ m, (chn n sh pub a f m y).length = n
 | 0 => hy
 | m + 1 => agb hn sh pub _ _
theorem bei (n : Nat) (sh : Bool) (pub a : List Int) (f : Nat) (y : List Int) (hy : In 256 y) : ∀ m, In 256 (chn n sh pub a f m y)
 | 0 => hy
 | m + 1 => am0 n sh pub _ _
theorem along {n : Nat} {sh : Bool} {pub : List Int} {tg : Nat} {cK : Int} {cW : List Int} {cA : Int} {cO : Bool} {c1 dK : Int} {dW dT : List Int} {dS d1 eK : Int} {eW eT : List Int} {eS : Int} (hs : Sg n sh pub tg cK cW cA cO c1 dK dW dT dS d1 eK eW eT eS) (hn : n ≤ 32) (hp : In 256 pub) (np : pub.length ≤ 64) {a y : List Int} (la : a.length = 32) (ha : In 256 a) (hy : In 256 y) (ly : y.length = n) (H D A K : Int) (f m : Nat) (hm : f + m < 4294967295) {ρ : Type} (k : List Int → Option ρ) :
    P.jy (n : Int) H D A K sh tg cK cW cA cO c1 dK dW dT dS d1 eK eW eT eS a y (f : Int) ((f + m : Nat) : Int) k = k (chn n sh pub a f m y) := by
 rw [P.ahb]; unfold P.ac7
 rw [P.ak0]; unfold P.ahf P.bz9 P.bsy P.b0k
 refine ug (fun i => (chn n sh pub a f i y, ((f + m : Nat) : Int), ((f + i : Nat) : Int), (n : Int), H, D, A, K, sh, tg, cK, cW, cA, cO, c1, dK, dW, dT, dS, d1, eK, eW, eT, eS, a)) m rfl (fun i hi next hnx => ?_) (fun next => ?_) (by omega)
 ·have hl := asw hn sh pub a f y ly i
  simp only [P.ady]
  rw [bg (by omega), agx _ (by omega), iy la 5 _ (by omega), show ((f + i : Nat) : Int) + 1 = ((f + (i + 1) : Nat) : Int) by omega, bky _ (by omega)]
  exact (call hs hn hp np (kr la 5 (f + i)) (xw ha 5 (f + i)) (bei n sh pub a f y hy i) (by omega) _).trans hnx
 ·simp only [P.ady]
  rw [dx (by omega)]
def prn (a : List Int) : Nat := T 8 ((a.drop 20).take 4).reverse % 2 ^ 64
theorem bhq (a : List Int) : prn a < 18446744073709551616 := Nat.mod_lt _ (by decide)
theorem tq {a : List Int} (ha : In 256 a) {ρ : Type} (k : Int → Option ρ) : P.tq a 3 k = k (prn a : Int) := by
 rw [P.aon]; unfold P.aix
 rw [show IntKind.i64.wrap ((8 : Int) + IntKind.i64.wrap ((4 : Int) * 3)) = 20 from rfl, show IntKind.i64.wrap ((12 : Int) + IntKind.i64.wrap ((4 : Int) * 3)) = 24 from rfl, bg (by omega), bg (by omega), bg (by omega)]
 exact yx _ ((ha.drop 20).take 4) (by simp; omega) k
def fsW (n : Nat) (sh : Bool) (pub sec a : List Int) (i : Nat) : List Int := bdt n sh pub (asj (asj (asj a 2 5) 3 (prn a)) 4 i) sec
theorem bbu {n : Nat} (hn : n ≤ 32) (sh : Bool) (pub sec a : List Int) (i : Nat) : (fsW n sh pub sec a i).length = n := agb hn sh pub _ _
theorem bh3 (n : Nat) (sh : Bool) (pub sec a : List Int) (i : Nat) : In 256 (fsW n sh pub sec a i) := am0 n sh pub _ _
theorem first' {n : Nat} {sh : Bool} {pub : List Int} {tg : Nat} {cK : Int} {cW : List Int} {cA : Int} {cO : Bool} {c1 dK : Int} {dW dT : List Int} {dS d1 eK : Int} {eW eT : List Int} {eS : Int} (hs : Sg n sh pub tg cK cW cA cO c1 dK dW dT dS d1 eK eW eT eS) (hn : n ≤ 32) (hp : In 256 pub) (np : pub.length ≤ 64) {a y : List Int} (la : a.length = 32) (ha : In 256 a) (hy : In 256 y) (ly : y.length ≤ 1000) (H D A K : Int) (i : Nat) (hi : i < 1000) {ρ : Type} (k : List Int → Option ρ) :
    P.mq (n : Int) H D A K sh tg cK cW cA cO c1 dK dW dT dS d1 eK eW eT eS y a (i : Int) k = k (fsW n sh pub y a i) := by
 rw [P.ahk]; unfold P.aco
 rw [show (5 : Int) = ((5 : Nat) : Int) from rfl, iy la 2 5 (by omega), tq ha, iy (kr la _ _) 3 _ (bhq a), agx _ (by omega), iy (kr (kr la _ _) _ _) 4 _ (by omega)]
 exact call hs hn hp np (kr (kr (kr la _ _) _ _) _ _) (xw (xw (xw ha _ _) _ _) _ _) hy (by omega) k
def kyW (n : Nat) (sh : Bool) (pub a ends : List Int) : List Int := bdt n sh pub (asj (asj a 2 1) 3 (prn a)) ends
theorem key' {n : Nat} {sh : Bool} {pub : List Int} {tg : Nat} {cK : Int} {cW : List Int} {cA : Int} {cO : Bool} {c1 dK : Int} {dW dT : List Int} {dS d1 eK : Int} {eW eT : List Int} {eS : Int} (hs : Sg n sh pub tg cK cW cA cO c1 dK dW dT dS d1 eK eW eT eS) (hn : n ≤ 32) (hp : In 256 pub) (np : pub.length ≤ 64) {a y : List Int} (la : a.length = 32) (ha : In 256 a) (hy : In 256 y) (ly : y.length ≤ 90000) (H D A K : Int) {ρ : Type} (k : List Int → Option ρ) :
    P.o9 (n : Int) H D A K sh tg cK cW cA cO c1 dK dW dT dS d1 eK eW eT eS y a k = k (kyW n sh pub a y) := by
 rw [P.ai9]; unfold P.aea
 rw [show P.iy (ρ := ρ) a 2 1 = P.iy a 2 ((1 : Nat) : Int) from rfl, iy la 2 1 (by omega), tq ha, iy (kr la _ _) 3 _ (bhq a)]
 exact call hs hn hp np (kr (kr la _ _) _ _) (xw (xw ha _ _) _ _) hy (by omega) k
theorem count' {n : Nat} (hn : n ≤ 32) (H D A K : Int) (sh : Bool) (tg : Nat) (cK : Int) (cW : List Int) (cA : Int) (cO : Bool) (c1 dK : Int) (dW dT : List Int) (dS d1 eK : Int) (eW eT : List Int) (eS : Int) {ρ : Type} (k : Int → Option ρ) :
    P.ng (n : Int) H D A K sh tg cK cW cA cO c1 dK dW dT dS d1 eK eW eT eS k = k ((2 * n + 3 : Nat) : Int) := by
 rw [P.ahi]; unfold P.acr
 rw [og (x := (2 : Int) * (n : Int)) (by omega) (by omega), og (by omega) (by omega)]
 congr 1
def bpv (n : Nat) (sh : Bool) (pub sec a : List Int) (i : Nat) : List Int := chn n sh pub (asj a 4 i) 0 15 (fsW n sh pub sec a i)
theorem bhj {n : Nat} (hn : n ≤ 32) (sh : Bool) (pub sec a : List Int) (i : Nat) : (bpv n sh pub sec a i).length = n := asw hn sh pub _ 0 _ (agb hn sh pub _ _) 15
theorem bkc (n : Nat) (sh : Bool) (pub sec a : List Int) (i : Nat) : In 256 (bpv n sh pub sec a i) := bei n sh pub _ 0 _ (am0 n sh pub _ _) 15
theorem bcw {n : Nat} (hn : n ≤ 32) (T : Nat → List Int) (hT : ∀ i, (T i).length = n) (j : Nat) (hj : j ≤ 2 * n + 3) : (cat T j).length ≤ 2200 := by
 rw [amv hT]
 have := Nat.mul_le_mul (show j ≤ 67 by omega) hn
 omega
theorem zn {n : Nat} {H D A K : Int} (hf : adz n H D A K) (sh : Bool) (sec pub a : List Int) (hsec : In 256 sec) (lsec : sec.length = n) (hp : In 256 pub) (np : pub.length = n) (la : a.length = 32) (ha : In 256 a) {ρ : Type} (k : List Int → Option ρ) :
    P.zn n H D A K sh sec pub a k = k (kyW n sh pub a (cat (bpv n sh pub sec a) (2 * n + 3))) := by
 have hn : n ≤ 32 := by unfold adz at hf; omega
 obtain ⟨tg, cK, cW, cA, cO, c1, dK, dW, dT, dS, d1, eK, eW, eT, eS, hs, hb⟩ := avs hf sh pub hp np
 have hT := bhj hn sh pub sec a
 rw [P.aoj]; unfold P.aiq
 rw [hb, jf, mo, cu (by omega), count' hn, P.atd]; unfold P.aoy P.byw P.bxi P.b44
 refine ug (fun i => (sec, ((2 * n + 3 : Nat) : Int), (i : Int), cat (bpv n sh pub sec a) i, a, (n : Int), H, D, A, K, sh, tg, cK, cW, cA, cO, c1, dK, dW, dT, dS, d1, eK, eW, eT, eS)) (2 * n + 3) rfl (fun i hi next hnx => ?_) (fun next => ?_) (by omega)
 ·have hb1 := bcw hn _ hT i (by omega)
  simp only [P.ajc]
  rw [bg (by omega), agx _ (by omega), iy la 4 _ (by omega), first' hs hn hp (by omega) la ha hsec (by omega) H D A K i (by omega), show (15 : Int) = ((0 + 15 : Nat) : Int) from rfl, show (0 : Int) = ((0 : Nat) : Int) from rfl,
   along hs hn hp (by omega) (kr la 4 i) (xw ha 4 i) (bh3 n sh pub sec a i) (bbu hn sh pub sec a i) H D A K 0 15 (by omega)]
  have e := hT i
  unfold bpv at e
  rw [bg (by omega), og (by omega) (by omega)]
  exact hnx
 ·simp only [P.ajc]
  rw [dx (by omega), key' hs hn hp (by omega) la ha (bev (bkc n sh pub sec a) _) (by have := bcw hn _ hT (2 * n + 3) (by omega); omega)]
theorem gd_l {l r : List Int} {d : Int} {i : Nat} (h : i < l.length) : (l ++ r).getD i d = l.getD i d := by
 rw [List.getD_eq_getElem?_getD, List.getD_eq_getElem?_getD, List.getElem?_append_left h]
theorem gd_r {l r : List Int} {d : Int} {i : Nat} (h : l.length ≤ i) : (l ++ r).getD i d = r.getD (i - l.length) d := by
 rw [List.getD_eq_getElem?_getD, List.getD_eq_getElem?_getD, List.getElem?_append_right h]
theorem wdn {n : Nat} (hn : N3 n) (x : List Int) (hl : x.length = n) (i : Nat) : ∃ d : Nat, (wd n x).getD i 0 = (d : Int) ∧ d ≤ 15 := by
 by_cases h : i < 2 * n
 ·obtain ⟨d, hd, hd2⟩ := bfy (w := 4) (bj2 n x) i
  refine ⟨d, ?_, by omega⟩
  unfold wd
  rw [gd_l (by rw [anq n x hl]; omega), hd]
 ·have h9 := bqo hn x
  have hr : (wd n x).getD i 0 = [((wl n x / 2 ^ 8 : Nat) : Int), ((wl n x / 2 ^ 4 % 2 ^ 4 : Nat) : Int), ((wl n x % 2 ^ 4 : Nat) : Int)].getD (i - 2 * n) 0 := by
   unfold wd
   rw [gd_r (by rw [anq n x hl]; omega), anq n x hl]
  rw [hr]
  match i - 2 * n with
  | 0 => exact ⟨_, rfl, by omega⟩
  | 1 => exact ⟨_, rfl, by omega⟩
  | 2 => exact ⟨_, rfl, by omega⟩
  | q + 3 => exact ⟨0, rfl, by omega⟩
def dgt (n : Nat) (x : List Int) (i : Nat) : Nat := ((wd n x).getD i 0).toNat
theorem biu {n : Nat} (hn : N3 n) (x : List Int) (hl : x.length = n) (i : Nat) : (wd n x).getD i 0 = ((dgt n x i : Nat) : Int) ∧ dgt n x i ≤ 15 := by
 obtain ⟨d, h1, h2⟩ := wdn hn x hl i
 unfold dgt
 rw [h1]
 exact ⟨rfl, h2⟩
def bnt (n : Nat) (sh : Bool) (pub sec a t : List Int) (i : Nat) : List Int := chn n sh pub (asj a 4 i) 0 (dgt n t i) (fsW n sh pub sec a i)
theorem aq4 {n : Nat} (hn : n ≤ 32) (sh : Bool) (pub sec a t : List Int) (i : Nat) : (bnt n sh pub sec a t i).length = n := asw hn sh pub _ 0 _ (agb hn sh pub _ _) _
theorem bg8 {n : Nat} {H D A K : Int} (hf : adz n H D A K) : N3 n := by unfold adz at hf; unfold N3; omega
theorem adh {n : Nat} {H D A K : Int} (hf : adz n H D A K) (sh : Bool) (t sec pub a : List Int) (ht : In 256 t) (lt : t.length = n) (hsec : In 256 sec) (lsec : sec.length = n) (hp : In 256 pub) (np : pub.length = n) (la : a.length = 32) (ha : In 256 a) {ρ : Type} (k : List Int → Option ρ) :
    P.adh n H D A K sh t sec pub a k = k (cat (bnt n sh pub sec a t) (2 * n + 3)) := by
 have hn : n ≤ 32 := by unfold adz at hf; omega
 have hn3 := bg8 hf
 have hdl := bg1 n t lt
 obtain ⟨tg, cK, cW, cA, cO, c1, dK, dW, dT, dS, d1, eK, eW, eT, eS, hs, hb⟩ := avs hf sh pub hp np
 have hT := aq4 hn sh pub sec a t
 rw [P.auf]; unfold P.ak6
 rw [hb, jf, mo, cu (by omega), cu (by omega), sw hn3 t ht lt, hdl, P.av5]; unfold P.aue P.bzn P.buq P.b5r
 refine ug (fun i => (sec, ((2 * n + 3 : Nat) : Int), (i : Int), cat (bnt n sh pub sec a t) i, a, (n : Int), H, D, A, K, sh, tg, cK, cW, cA, cO, c1, dK, dW, dT, dS, d1, eK, eW, eT, eS, wd n t)) (2 * n + 3) rfl (fun i hi next hnx => ?_) (fun next => ?_) (by omega)
 ·have hb1 := bcw hn _ hT i (by omega)
  obtain ⟨e1, e2⟩ := biu hn3 t lt i
  simp only [P.anc, toNat_cast]
  rw [bg (by omega), bg (by omega), bg (by omega), agx _ (by omega), iy la 4 _ (by omega), first' hs hn hp (by omega) la ha hsec (by omega) H D A K i (by omega), e1, show ((dgt n t i : Nat) : Int) = ((0 + dgt n t i : Nat) : Int) by omega, show (0 : Int) = ((0 : Nat) : Int) from rfl,
   along hs hn hp (by omega) (kr la 4 i) (xw ha 4 i) (bh3 n sh pub sec a i) (bbu hn sh pub sec a i) H D A K 0 _ (by omega)]
  have e := hT i
  unfold bnt at e
  rw [bg (by omega), og (by omega) (by omega)]
  exact hnx
 ·simp only [P.anc]
  rw [dx (by omega)]
def bc5 (n : Nat) (sh : Bool) (sig pub a t : List Int) (i : Nat) : List Int := chn n sh pub (asj a 4 i) (dgt n t i) (15 - dgt n t i) ((sig.drop (i * n)).take n)
theorem qw {n : Nat} {H D A K : Int} (hf : adz n H D A K) (sh : Bool) (sig t pub a : List Int) (hsig : In 256 sig) (lsig : sig.length = (2 * n + 3) * n) (ht : In 256 t) (lt : t.length = n) (hp : In 256 pub) (np : pub.length = n) (la : a.length = 32) (ha : In 256 a) {ρ : Type} (k : List Int → Option ρ) :
    P.qw n H D A K sh sig t pub a k = k (kyW n sh pub a (cat (bc5 n sh sig pub a t) (2 * n + 3))) := by
 have hn : n ≤ 32 := by unfold adz at hf; omega
 have hn3 := bg8 hf
 have hdl := bg1 n t lt
 obtain ⟨tg, cK, cW, cA, cO, c1, dK, dW, dT, dS, d1, eK, eW, eT, eS, hs, hb⟩ := avs hf sh pub hp np
 have hlen : ∀ i, i < 2 * n + 3 → i * n + n ≤ sig.length := fun i hi => by
  rw [lsig, ← Nat.succ_mul]
  exact Nat.mul_le_mul (by omega) (Nat.le_refl _)
 have hT : ∀ i, i < 2 * n + 3 → (bc5 n sh sig pub a t i).length = n := fun i hi => asw hn sh pub _ _ _ (by have := hlen i hi; rw [List.length_take, List.length_drop]; omega) _
 have hTi : ∀ i, In 256 (bc5 n sh sig pub a t i) := fun i => bei n sh pub _ _ _ ((hsig.drop _).take _) _
 have hcl : ∀ i, i ≤ 2 * n + 3 → (cat (bc5 n sh sig pub a t) i).length = i * n := by
  intro i
  induction i with
  | zero => intro _; simp [cat]
  | succ i ih => intro hi; rw [cat, List.length_append, ih (by omega), hT i (by omega), Nat.succ_mul]
 have hbd : ∀ i, i ≤ 2 * n + 3 → (cat (bc5 n sh sig pub a t) i).length ≤ 2200 := fun i hi => by
  rw [hcl i hi]
  have := Nat.mul_le_mul (show i ≤ 67 by omega) hn
  omega
 have hmul : (2 * n + 3) * n ≤ 67 * 32 := Nat.mul_le_mul (by omega) hn
 have hc : (n : Int) * ((2 * n + 3 : Nat) : Int) = (((2 * n + 3) * n : Nat) : Int) := by rw [Int.natCast_mul, Int.mul_comm]
 rw [P.akj]; unfold P.aev
 rw [hb, jf, mo, cu (by omega), count' hn, hc, og (by omega) (by omega), cu (by rw [lsig]), sw hn3 t ht lt, hdl, P.aoe]; unfold P.akk P.bzk P.bva P.b6u
 refine ug (fun i => (sig.drop (i * n), ((2 * n + 3 : Nat) : Int), (i : Int), cat (bc5 n sh sig pub a t) i, (n : Int), H, D, A, K, sh, a, (n : Int), H, D, A, K, sh, tg, cK, cW, cA, cO, c1, dK, dW, dT, dS, d1, eK, eW, eT, eS, wd n t)) (2 * n + 3) (by simp [cat]) (fun i hi next hnx => ?_) (fun next => ?_) (by omega)
 ·have hb1 := hbd i (by omega)
  have hl1 := hlen i hi
  obtain ⟨e1, e2⟩ := biu hn3 t lt i
  have ld : (sig.drop (i * n)).length = sig.length - i * n := List.length_drop
  simp only [P.afw, toNat_cast]
  rw [bg (by omega), bg (by omega), bg (by omega), agx _ (by omega), iy la 4 _ (by omega), bg (by omega), bg (by omega), List.drop_zero, e1, show (15 : Int) = ((dgt n t i + (15 - dgt n t i) : Nat) : Int) by omega,
   along hs hn hp (by omega) (kr la 4 i) (xw ha 4 i) ((hsig.drop _).take _) (by rw [List.length_take]; omega) H D A K _ _ (by omega)]
  have e := hT i hi
  unfold bc5 at e
  rw [bg (by omega), bg (by omega), bg (by omega), bg (by omega), og (by omega) (by omega), List.take_length, List.drop_drop]
  rw [Nat.succ_mul] at hnx
  exact hnx
 ·simp only [P.afw]
  rw [dx (by omega), key' hs hn hp (by omega) la ha (bev hTi _) (by have := hbd (2 * n + 3) (by omega); omega)]
end Q
end

section
/- wots: keys, signatures, candidates, by the document. -/
namespace Q
open QK
open Go Go.Abs
set_option linter.unusedVariables false
set_option linter.unusedSimpArgs false
theorem ae7 (T : Nat → List Int) : ∀ m, ((List.range m).map T).flatten = cat T m
 | 0 => rfl
 | m + 1 => by rw [List.range_succ, List.map_append, List.flatten_append, ae7 T m]; simp [cat]
theorem abl {a : List Int} (ha : In 256 a) {ρ : Type} (k : Int → Option ρ) : P.abl a k = k (prn a : Int) := by
 rw [P.axm]; unfold P.amq
 exact ad2 _ ((ha.drop 20).take 4) (by simp; omega) k
theorem qx {n : Nat} {H D A K : Int} (hf : adz n H D A K) (sh : Bool) {pub : List Int} (hp : In 256 pub) (np : pub.length = n) {a y : List Int} (la : a.length = 32) (ha : In 256 a) (hy : In 256 y) (ly : y.length = n) (f m : Nat) (hm : f + m < 4294967295) {ρ : Type} (k : List Int → Option ρ) :
    P.qx (n : Int) H D A K sh y (f : Int) ((f + m : Nat) : Int) pub a k = k (chn n sh pub a f m y) := by
 have hn : n ≤ 32 := by unfold adz at hf; omega
 rw [P.aui]; unfold P.alm
 rw [P.axf]; unfold P.aup P.bzs P.buo P.b70
 refine ug (fun i => (chn n sh pub a f i y, ((f + m : Nat) : Int), pub, ((f + i : Nat) : Int), (n : Int), H, D, A, K, sh, a)) m rfl (fun i hi next hnx => ?_) (fun next => ?_) (by omega)
 ·have hl := asw hn sh pub a f y ly i
  simp only [P.anr]
  rw [bg (by omega), agx _ (by omega), jm la 5 _ (by omega), zl hf sh pub hp np _ _ (kr la 5 (f + i)) (xw ha 5 (f + i)) (bei n sh pub a f y hy i) (by omega), show ((f + i : Nat) : Int) + 1 = ((f + (i + 1) : Nat) : Int) by omega, bky _ (by omega)]
  exact hnx
 ·simp only [P.anr]
  rw [dx (by omega)]
theorem zy {n : Nat} {H D A K : Int} (hf : adz n H D A K) (sh : Bool) {sec pub a : List Int} (hsec : In 256 sec) (lsec : sec.length = n) (hp : In 256 pub) (np : pub.length = n) (la : a.length = 32) (ha : In 256 a) (i : Nat) (hi : i < 1000) {ρ : Type} (k : List Int → Option ρ) :
    P.zy (n : Int) H D A K sh sec pub a (i : Int) k = k (fsW n sh pub sec a i) := by
 have hn : n ≤ 32 := by unfold adz at hf; omega
 rw [P.aub]; unfold P.alf
 rw [show P.jm (ρ := ρ) a 2 5 = P.jm a 2 ((5 : Nat) : Int) from rfl, jm la 2 5 (by omega), abl ha, jm (kr la _ _) 3 _ (bhq a), agx _ (by omega), jm (kr (kr la _ _) _ _) 4 _ (by omega), P.ax6]
 unfold P.anb
 rw [cu (by omega), zl hf sh pub hp np _ _ (kr (kr (kr la _ _) _ _) _ _) (xw (xw (xw ha _ _) _ _) _ _) hsec (by omega)]
 rfl
theorem aeb {n : Nat} {H D A K : Int} (hf : adz n H D A K) (sh : Bool) {pub a : List Int} (hp : In 256 pub) (np : pub.length = n) (la : a.length = 32) (ha : In 256 a) (l : List (List Int)) (hl : l.length ≤ 1000) (hi : In 256 l.flatten) (hb : l.flatten.length ≤ 90000) {ρ : Type} (k : List Int → Option ρ) :
    P.aeb (n : Int) H D A K sh l pub a k = k (kyW n sh pub a l.flatten) := by
 rw [P.aza]; unfold P.apy
 rw [show P.jm (ρ := ρ) a 2 1 = P.jm a 2 ((1 : Nat) : Int) from rfl, jm la 2 1 (by omega), abl ha, jm (kr la _ _) 3 _ (bhq a), l5 l (by omega) (by omega), zl hf sh pub hp np _ _ (kr (kr la _ _) _ _) (xw (xw ha _ _) _ _) hi (by omega)]
 rfl
theorem uz {n : Nat} {H D A K : Int} (hf : adz n H D A K) (sh : Bool) {sec pub : List Int} (lsec : sec.length = n) (np : pub.length = n) {ρ : Type} (k : Bool → Option ρ) : P.uz (n : Int) H D A K sh sec pub k = k false := by
 rw [P.aua]; unfold P.alj
 rw [mh, decide_eq_true hf, jf, mo, cu (by omega)]
 congr 1
 rw [np]
 simp
theorem aa6 {n : Nat} {H D A K : Int} (hf : adz n H D A K) (sh : Bool) (sec pub a : List Int) (hsec : In 256 sec) (lsec : sec.length = n) (hp : In 256 pub) (np : pub.length = n) (la : a.length = 32) (ha : In 256 a) {ρ : Type} (k : List Int → Option ρ) :
    P.aa6 n H D A K sh sec pub a k = k (kyW n sh pub a (cat (bpv n sh pub sec a) (2 * n + 3))) := by
 have hn : n ≤ 32 := by unfold adz at hf; omega
 have hT := bhj hn sh pub sec a
 rw [P.aq7]; unfold P.ajg
 rw [uz hf sh lsec np, ru, P.au8]; unfold P.arl P.bzz P.bt8 P.b8c
 refine ug (fun i => (sec, pub, (i : Int), (List.range i).map (bpv n sh pub sec a), (n : Int), H, D, A, K, sh, a)) (2 * n + 3) rfl (fun i hi next hnx => ?_) (fun next => ?_) (by omega)
 ·simp only [P.aky]
  rw [og (x := (2 : Int) * (n : Int)) (by omega) (by omega), og (x := (2 : Int) * (n : Int) + 3) (by omega) (by omega), bg (by omega), zy hf sh hsec lsec hp np la ha i (by omega), agx _ (by omega), jm la 4 _ (by omega), show (15 : Int) = ((0 + 15 : Nat) : Int) from rfl, show (0 : Int) = ((0 : Nat) : Int) from rfl,
   qx hf sh hp np (kr la 4 i) (xw ha 4 i) (bh3 n sh pub sec a i) (bbu hn sh pub sec a i) 0 15 (by omega), bg (by simp; omega), og (by omega) (by omega)]
  rw [← ze] at hnx
  exact hnx
 ·simp only [P.aky]
  rw [og (x := (2 : Int) * (n : Int)) (by omega) (by omega), og (x := (2 : Int) * (n : Int) + 3) (by omega) (by omega), dx (by omega)]
  have hb := bcw hn _ hT (2 * n + 3) (by omega)
  rw [aeb hf sh hp np la ha _ (by simp; omega) (by rw [ae7]; exact bev (bkc n sh pub sec a) _) (by rw [ae7]; omega), ae7]
theorem ae0 {n : Nat} {H D A K : Int} (hf : adz n H D A K) (sh : Bool) (t sec pub a : List Int) (ht : In 256 t) (lt : t.length = n) (hsec : In 256 sec) (lsec : sec.length = n) (hp : In 256 pub) (np : pub.length = n) (la : a.length = 32) (ha : In 256 a) {ρ : Type} (k : List Int → Option ρ) :
    P.ae0 n H D A K sh t sec pub a k = k (cat (bnt n sh pub sec a t) (2 * n + 3)) := by
 have hn : n ≤ 32 := by unfold adz at hf; omega
 have hn3 := bg8 hf
 have hdl := bg1 n t lt
 have hT := aq4 hn sh pub sec a t
 rw [P.axe]; unfold P.anj
 rw [uz hf sh lsec np, ru, cu (by omega), xk hn3 t ht lt, P.ayx]; unfold P.axr P.bz6 P.bua P.b5b
 refine ug (fun i => (sec, pub, (i : Int), (List.range i).map (bnt n sh pub sec a t), (n : Int), H, D, A, K, sh, a, wd n t)) (2 * n + 3) rfl (fun i hi next hnx => ?_) (fun next => ?_) (by omega)
 ·obtain ⟨e1, e2⟩ := biu hn3 t lt i
  simp only [P.ap8, toNat_cast]
  rw [bg (by omega), zy hf sh hsec lsec hp np la ha i (by omega), bg (by omega), bg (by omega), agx _ (by omega), jm la 4 _ (by omega), e1, show P.qx (ρ := ρ) (n : Int) H D A K sh (fsW n sh pub sec a i) 0 ((dgt n t i : Nat) : Int) = P.qx (n : Int) H D A K sh (fsW n sh pub sec a i) ((0 : Nat) : Int) ((0 + dgt n t i : Nat) : Int) by rw [Nat.zero_add]; rfl,
   qx hf sh hp np (kr la 4 i) (xw ha 4 i) (bh3 n sh pub sec a i) (bbu hn sh pub sec a i) 0 _ (by omega), bg (by simp; omega), og (by omega) (by omega)]
  rw [← ze] at hnx
  exact hnx
 ·simp only [P.ap8]
  rw [dx (by omega)]
  have hb := bcw hn _ hT (2 * n + 3) (by omega)
  rw [l5 _ (by simp; omega) (by rw [ae7]; omega), ae7]
theorem uh {n : Nat} {H D A K : Int} (hf : adz n H D A K) (sh : Bool) (sig t pub a : List Int) (hsig : In 256 sig) (lsig : sig.length = (2 * n + 3) * n) (ht : In 256 t) (lt : t.length = n) (hp : In 256 pub) (np : pub.length = n) (la : a.length = 32) (ha : In 256 a) {ρ : Type} (k : List Int → Option ρ) :
    P.uh n H D A K sh sig t pub a k = k (kyW n sh pub a (cat (bc5 n sh sig pub a t) (2 * n + 3))) := by
 have hn : n ≤ 32 := by unfold adz at hf; omega
 have hn3 := bg8 hf
 have hdl := bg1 n t lt
 have hlen : ∀ i, i < 2 * n + 3 → i * n + n ≤ sig.length := fun i hi => by
  rw [lsig, ← Nat.succ_mul]
  exact Nat.mul_le_mul (by omega) (Nat.le_refl _)
 have hT : ∀ i, i < 2 * n + 3 → (bc5 n sh sig pub a t i).length = n := fun i hi => asw hn sh pub _ _ _ (by have := hlen i hi; rw [List.length_take, List.length_drop]; omega) _
 have hTi : ∀ i, In 256 (bc5 n sh sig pub a t i) := fun i => bei n sh pub _ _ _ ((hsig.drop _).take _) _
 have hcl : ∀ i, i ≤ 2 * n + 3 → (cat (bc5 n sh sig pub a t) i).length = i * n := by
  intro i
  induction i with
  | zero => intro _; simp [cat]
  | succ i ih => intro hi; rw [cat, List.length_append, ih (by omega), hT i (by omega), Nat.succ_mul]
 have hmul : (2 * n + 3) * n ≤ 67 * 32 := Nat.mul_le_mul (by omega) hn
 have hc : (n : Int) * ((2 * n + 3 : Nat) : Int) = (((2 * n + 3) * n : Nat) : Int) := by rw [Int.natCast_mul, Int.mul_comm]
 have e3 : IntKind.i64.wrap (IntKind.i64.wrap ((2 : Int) * (n : Int)) + (3 : Int)) = ((2 * n + 3 : Nat) : Int) := by
  rw [og (x := (2 : Int) * (n : Int)) (by omega) (by omega), og (by omega) (by omega)]; omega
 rw [P.al3]; unfold P.afu
 rw [uz hf sh lt np, ru, e3, hc, og (by omega) (by omega), cu (by rw [lsig]), xk hn3 t ht lt, P.ap9]; unfold P.al6 P.bz0 P.bxf P.b1t
 refine ug (fun i => (sig, pub, (i : Int), (List.range i).map (bc5 n sh sig pub a t), (n : Int), H, D, A, K, sh, a, wd n t)) (2 * n + 3) rfl (fun i hi next hnx => ?_) (fun next => ?_) (by omega)
 ·have hl1 := hlen i hi
  have hm2 : i * n ≤ 67 * 32 := Nat.mul_le_mul (by omega) hn
  obtain ⟨e1, e2⟩ := biu hn3 t lt i
  have ec : (n : Int) * (i : Int) = ((i * n : Nat) : Int) := by rw [Int.natCast_mul, Int.mul_comm]
  have ld : (sig.drop (i * n)).length = sig.length - i * n := List.length_drop
  simp only [P.ag5, ec]
  rw [og (x := ((i * n : Nat) : Int)) (by omega) (by omega), show ((i * n : Nat) : Int) + (n : Int) = ((i * n + n : Nat) : Int) by omega, og (x := ((i * n + n : Nat) : Int)) (by omega) (by omega)]
  simp only [toNat_cast]
  rw [bg (by omega), bg (by omega), bg (by omega), bg (by omega), bg (by omega), bg (by omega), agx _ (by omega), jm la 4 _ (by omega), e1, show (15 : Int) = ((dgt n t i + (15 - dgt n t i) : Nat) : Int) by omega, List.drop_take, Nat.add_sub_cancel_left,
   qx hf sh hp np (kr la 4 i) (xw ha 4 i) ((hsig.drop _).take _) (by rw [List.length_take]; omega) _ _ (by omega), bg (by simp; omega), og (by omega) (by omega)]
  rw [← ze] at hnx
  exact hnx
 ·simp only [P.ag5]
  rw [dx (by omega), aeb hf sh hp np la ha _ (by simp; omega) (by rw [ae7]; exact bev hTi _) (by rw [ae7, hcl _ (Nat.le_refl _)]; omega), ae7]
end Q
end

section
/- xmss: knots, signatures, tops, by the program. -/
namespace Q
open QK
open Go Go.Abs
set_option linter.unusedVariables false
set_option linter.unusedSimpArgs false
def Kd (n : Nat) (H D A K : Int) (h : Nat) : Prop := adz n H D A K ∧ IntKind.i64.wrap (H.tdiv D) = (h : Int)
theorem Kd.n {n : Nat} {H D A K : Int} {h : Nat} (k : Kd n H D A K h) : n ≤ 32 := by have := k.1; unfold adz at this; omega
theorem Kd.h {n : Nat} {H D A K : Int} {h : Nat} (k : Kd n H D A K h) : h ≤ 9 := by have := k.1; have e := k.2; unfold adz at this; omega
theorem jl {n : Nat} {H D A K : Int} {h : Nat} (kd : Kd n H D A K h) (sh : Bool) {ρ : Type} (k : Int → Option ρ) : P.jl n H D A K sh k = k (h : Int) := by
 have hf := kd.1
 unfold adz at hf
 rw [P.at1]; unfold P.ak7
 rw [dx (by omega), kd.2]
theorem apf {n : Nat} {H D A K : Int} {h : Nat} (kd : Kd n H D A K h) (sh : Bool) (l : List (List Int)) (hl : l.length ≤ 100) (hn : ∀ i, i < l.length → (l.getD i []).length = n) {ρ : Type} (k : Bool → Option ρ) : P.tu n H D A K sh l k = k true := by
 rw [P.anp]; unfold P.aho
 rw [P.am4]; unfold P.ami P.zk3 P.zs3 P.zu3
 refine ug (fun i => (l, (l.length : Int), (i : Int), (n : Int), H, D, A, K, sh)) l.length rfl (fun i hi next hnx => ?_) (fun next => ?_) (by omega)
 ·have := hn i hi
  simp only [P.agt, toNat_cast, Sum.elim_inl, Sum.elim_inr]
  rw [bg (by omega), bg (by omega), bg (by omega), cu (by omega), og (by omega) (by omega)]
  exact hnx
 ·simp only [P.agt, toNat_cast, Sum.elim_inl, Sum.elim_inr]
  rw [dx (by omega), yg, decide_eq_true kd.1]
theorem mulN (n m : Nat) (hn : n ≤ 32) (hm : m ≤ 1000) : IntKind.i64.wrap ((n : Int) * (m : Int)) = ((n * m : Nat) : Int) := by
 have : n * m ≤ 32 * 1000 := Nat.mul_le_mul hn hm
 rw [show (n : Int) * (m : Int) = ((n * m : Nat) : Int) by rw [Int.natCast_mul], og (by omega) (by omega)]
theorem qd {n : Nat} {H D A K : Int} {h : Nat} (kd : Kd n H D A K h) (sh : Bool) {ρ : Type} (k : Int → Option ρ) : P.qd n H D A K sh k = k ((n * (2 * n + 3 + h) : Nat) : Int) := by
 have h1 := kd.n
 have h2 := kd.h
 rw [P.aul]; unfold P.alg
 rw [yg, decide_eq_true kd.1, jf, mo, jl kd, og (x := (2 : Int) * (n : Int)) (by omega) (by omega), og (x := (2 : Int) * (n : Int) + 3) (by omega) (by omega), og (x := (2 : Int) * (n : Int) + 3 + (h : Int)) (by omega) (by omega), show (2 : Int) * (n : Int) + 3 + (h : Int) = ((2 * n + 3 + h : Nat) : Int) by omega, mulN _ _ h1 (by omega)]
def lfA (at' : List Int) (i : Nat) : List Int := asj (asj at' 2 0) 3 i
theorem atb {a : List Int} (la : a.length = 32) (i : Nat) : (lfA a i).length = 32 := kr (kr la _ _) _ _
theorem ba1 {a : List Int} (ha : In 256 a) (i : Nat) : In 256 (lfA a i) := xw (xw ha _ _) _ _
theorem ax0 {a : List Int} (la : a.length = 32) (N H D A K : Int) (sh : Bool) (sec pub : List Int) (i : Nat) (hi : i < 18446744073709551616) {ρ : Type} (k : List Int → Option ρ) :
    P.nk N H D A K sh sec pub a (i : Int) k = k (lfA a i) := by
 rw [P.akd]; unfold P.aey
 rw [show P.iy (ρ := ρ) a 2 0 = P.iy a 2 ((0 : Nat) : Int) from rfl, iy la 2 0 (by omega), iy (kr la _ _) 3 i hi]
 rfl
def ovW (n : Nat) (sh : Bool) (pub at' : List Int) (z i : Nat) (l r : List Int) : List Int := bdt n sh pub (asj (asj (asj at' 2 2) 4 z) 5 i) (l ++ r)
theorem axb {n : Nat} {H D A K : Int} (hf : adz n H D A K) (sh : Bool) (sec pub a l r : List Int) (hp : In 256 pub) (np : pub.length = n) (la : a.length = 32) (ha : In 256 a) (hl : In 256 l) (hr : In 256 r) (nl : l.length ≤ 1000) (nr : r.length ≤ 1000) (z i : Nat) (hz : z < 1000) (hi : i < 18446744073709551616) {ρ : Type} (k : List Int → Option ρ) :
    P.pz n H D A K sh sec pub a (z : Int) (i : Int) l r k = k (ovW n sh pub a z i l r) := by
 have e : [l, r].flatten = l ++ r := by simp
 have hlr : (l ++ r).length ≤ 2000 := by rw [List.length_append]; omega
 rw [P.aj1]; unfold P.ae4
 rw [show P.iy (ρ := ρ) a 2 2 = P.iy a 2 ((2 : Nat) : Int) from rfl, iy la 2 2 (by omega), agx _ (by omega), iy (kr la _ _) 4 z (by omega), iy (kr (kr la _ _) _ _) 5 i hi, j6 _ (by simp) (by rw [e]; omega), e,
  aeu hf sh pub hp np _ _ (kr (kr (kr la _ _) _ _) _ _) (xw (xw (xw ha _ _) _ _) _ _) (hl.app hr) (by omega)]
 rfl
def pbW (n : Nat) (sh : Bool) (pub sec a : List Int) : List Int := kyW n sh pub a (cat (bpv n sh pub sec a) (2 * n + 3))
def knW (n : Nat) (sh : Bool) (pub sec at' : List Int) : Nat → Nat → List Int
 | 0, i => pbW n sh pub sec (lfA at' i)
 | z + 1, i => ovW n sh pub at' (z + 1) i (knW n sh pub sec at' z (2 * i)) (knW n sh pub sec at' z (2 * i + 1))
theorem amy {n : Nat} (hn : n ≤ 32) (sh : Bool) (pub sec at' : List Int) : ∀ z i, (knW n sh pub sec at' z i).length = n
 | 0, i => agb hn _ _ _ _
 | z + 1, i => agb hn _ _ _ _
theorem bmh (n : Nat) (sh : Bool) (pub sec at' : List Int) : ∀ z i, In 256 (knW n sh pub sec at' z i)
 | 0, i => am0 _ _ _ _ _
 | z + 1, i => am0 _ _ _ _ _
theorem asf {n : Nat} {H D A K : Int} (hf : adz n H D A K) (sh : Bool) (sec pub a : List Int) (hsec : In 256 sec) (lsec : sec.length = n) (hp : In 256 pub) (np : pub.length = n) (la : a.length = 32) (ha : In 256 a) :
    ∀ (z i m : Nat), z < m → z < 1000 → (i + 1) * 2 ^ z ≤ 9223372036854775808 → ∀ {ρ : Type} (k : List Int → Option ρ), P.oo m n H D A K sh sec pub a (z : Int) (i : Int) k = k (knW n sh pub sec a z i)
 | z, i, 0, hm, hz, hi, ρ, k => by omega
 | 0, i, m + 1, hm, hz, hi, ρ, k => by
  rw [P.af5]; unfold P.acf
  rw [fq (show ((0 : Nat) : Int) = 0 from rfl), ax0 la _ _ _ _ _ _ _ _ i (by omega), zn hf sh sec pub _ hsec lsec hp np (atb la i) (ba1 ha i)]
  rfl
 | z + 1, i, m + 1, hm, hz, hi, ρ, k => by
  have hn : n ≤ 32 := by unfold adz at hf; omega
  have hpow : (i + 1) * 2 ^ (z + 1) = (2 * i + 2) * 2 ^ z := by rw [Nat.pow_succ, Nat.mul_comm (2 ^ z) 2, ← Nat.mul_assoc]; congr 1; omega
  have h1 : (2 * i + 2) ≤ (2 * i + 2) * 2 ^ z := Nat.le_mul_of_pos_right _ (Nat.two_pow_pos z)
  have h2 : (2 * i + 1) * 2 ^ z ≤ (2 * i + 2) * 2 ^ z := Nat.mul_le_mul (by omega) (Nat.le_refl _)
  have h3 : (2 * i + 1 + 1) * 2 ^ z = (2 * i + 2) * 2 ^ z := rfl
  rw [P.af5]; unfold P.acf
  rw [fu (by omega), og (by omega) (by omega), show ((z + 1 : Nat) : Int) - 1 = (z : Int) by omega, show (2 : Int) * (i : Int) = ((2 * i : Nat) : Int) by omega, agx _ (by omega), show ((2 * i : Nat) : Int) + 1 = ((2 * i + 1 : Nat) : Int) by omega, agx _ (by omega),
   asf hf sh sec pub a hsec lsec hp np la ha z (2 * i) m (by omega) (by omega) (by omega), asf hf sh sec pub a hsec lsec hp np la ha z (2 * i + 1) m (by omega) (by omega) (by omega),
   axb hf sh sec pub a _ _ hp np la ha (bmh _ _ _ _ _ _ _) (bmh _ _ _ _ _ _ _) (by rw [amy hn]; omega) (by rw [amy hn]; omega) (z + 1) i hz (by omega)]
  rfl
theorem sh0 (i h : Nat) (hh : h ≤ 64) (hi : i < 2 ^ h) : (i : Int).fdiv ((2 : Int) ^ min h 64) = 0 := by
 rw [fdiv_pow _ _ _ hh, Nat.div_eq_of_lt hi]
 rfl
theorem z8 {n : Nat} {H D A K : Int} {h : Nat} (kd : Kd n H D A K h) (sh : Bool) (sec pub a : List Int) (hsec : In 256 sec) (lsec : sec.length = n) (hp : In 256 pub) (np : pub.length = n) (la : a.length = 32) (ha : In 256 a) (z i : Nat) (hz : z ≤ h) (hi : i < 2 ^ (h - z)) {ρ : Type} (k : List Int → Option ρ) :
    P.z8 n H D A K sh sec pub a (z : Int) (i : Int) k = k (knW n sh pub sec a z i) := by
 have h2 := kd.h
 have hb : (i + 1) * 2 ^ z ≤ 2 ^ h := by
  have : (i + 1) * 2 ^ z ≤ 2 ^ (h - z) * 2 ^ z := Nat.mul_le_mul hi (Nat.le_refl _)
  rw [← Nat.pow_add, Nat.sub_add_cancel hz] at this
  exact this
 have h9 : 2 ^ h ≤ 2 ^ 9 := Nat.pow_le_pow_right (by omega) h2
 rw [P.abf]; unfold P.y5
 rw [apf kd sh _ (by simp) (fun j hj => by
  match j with
  | 0 => exact lsec
  | 1 => exact np
  | j + 2 => simp at hj; omega), jf, mo, dx (by omega), jl kd, dx (by omega), jl kd, og (by omega) (by omega), dx (by omega), show ((h : Int) - (z : Int)).toNat = h - z by omega, sh0 i (h - z) (by omega) hi, cu rfl, toNat_cast,
  asf kd.1 sh sec pub a hsec lsec hp np la ha z i (z + 1) (by omega) (by omega) (by omega)]
def auT (n : Nat) (sh : Bool) (pub sec a : List Int) (leaf z : Nat) : List Int := knW n sh pub sec a z ((leaf / 2 ^ z) ^^^ 1)
def sgW (n : Nat) (sh : Bool) (pub sec a t : List Int) (leaf h : Nat) : List Int := cat (bnt n sh pub sec (lfA a leaf) t) (2 * n + 3) ++ cat (auT n sh pub sec a leaf) h
theorem bxn {leaf h z : Nat} (hl : leaf < 2 ^ h) (hz : z < h) (hh : h ≤ 9) : ((leaf / 2 ^ z) ^^^ 1) + 1 ≤ 2 ^ h ∧ (((leaf / 2 ^ z) ^^^ 1) + 1) * 2 ^ z ≤ 9223372036854775808 := by
 have h9 : 2 ^ h ≤ 2 ^ 9 := Nat.pow_le_pow_right (by omega) hh
 have hz9 : 2 ^ z ≤ 2 ^ 9 := Nat.pow_le_pow_right (by omega) (by omega)
 have hd := Nat.div_le_self leaf (2 ^ z)
 have hx : ((leaf / 2 ^ z) ^^^ 1) < 2 ^ h := Nat.xor_lt_two_pow (by omega) (Nat.one_lt_two_pow (by omega))
 refine ⟨hx, ?_⟩
 have := Nat.mul_le_mul (show ((leaf / 2 ^ z) ^^^ 1) + 1 ≤ 2 ^ 9 by omega) hz9
 omega
theorem br7 {n : Nat} (hn : n ≤ 32) (sh : Bool) (pub sec a t : List Int) (leaf h : Nat) : (sgW n sh pub sec a t leaf h).length = n * (2 * n + 3 + h) := by
 unfold sgW
 rw [List.length_append, amv (aq4 hn _ _ _ _ _), amv (T := auT n sh pub sec a leaf) (fun z => amy hn _ _ _ _ _ _), ← Nat.add_mul, Nat.mul_comm]
theorem abv {n : Nat} {H D A K : Int} {h : Nat} (kd : Kd n H D A K h) (sh : Bool) (t sec pub a : List Int) (ht : In 256 t) (lt : t.length = n) (hsec : In 256 sec) (lsec : sec.length = n) (hp : In 256 pub) (np : pub.length = n) (la : a.length = 32) (ha : In 256 a) (leaf : Nat) (hleaf : leaf < 2 ^ h) {ρ : Type} (k : List Int → Option ρ) :
    P.abv n H D A K sh t sec pub a (leaf : Int) k = k (sgW n sh pub sec a t leaf h) := by
 have hn := kd.n
 have h2 := kd.h
 have h9 : 2 ^ h ≤ 2 ^ 9 := Nat.pow_le_pow_right (by omega) h2
 have l1 := amv (aq4 hn sh pub sec (lfA a leaf) t) (2 * n + 3)
 have hmul : (2 * n + 3) * n ≤ 67 * 32 := Nat.mul_le_mul (by omega) hn
 rw [P.ael]; unfold P.abp
 rw [apf kd sh _ (by simp) (fun j hj => by
  match j with
  | 0 => exact lsec
  | 1 => exact np
  | 2 => exact lt
  | j + 3 => simp at hj; omega), jf, mo, jl kd, dx (by omega), toNat_cast, sh0 leaf h (by omega) hleaf, cu rfl, ax0 la _ _ _ _ _ _ _ _ leaf (by omega),
  adh kd.1 sh t sec pub _ ht lt hsec lsec hp np (atb la _) (ba1 ha _), jl kd, P.awo]
 unfold P.aur P.bz5 P.bu1 P.b2t
 refine ug (fun z => ((leaf : Int), (h : Int), (z : Int), cat (bnt n sh pub sec (lfA a leaf) t) (2 * n + 3) ++ cat (auT n sh pub sec a leaf) z, (n : Int), H, D, A, K, sh, sec, pub, a)) h (by simp [cat]) (fun z hz next hnx => ?_) (fun next => ?_) (by omega)
 ·have l2 := amv (T := auT n sh pub sec a leaf) (fun z => amy hn _ _ _ _ _ _) z
  have hb := bxn hleaf hz h2
  have hd := Nat.div_le_self leaf (2 ^ z)
  have hm2 : z * n ≤ 9 * 32 := Nat.mul_le_mul (by omega) hn
  simp only [P.amn, toNat_cast]
  rw [bg (by omega), dx (by omega), fdiv_pow _ _ _ (by omega), show (1 : Int) = ((1 : Nat) : Int) from rfl, bgn _ _ (by omega) (by omega),
   asf kd.1 sh sec pub a hsec lsec hp np la ha z _ (z + 1) (by omega) (by omega) hb.2, bg (by rw [amy hn, List.length_append]; omega), og (by omega) (by omega), List.append_assoc]
  exact hnx
 ·simp only [P.amn]
  rw [dx (by omega)]
  rfl
def cnW (n : Nat) (sh : Bool) (pub a k0 path : List Int) (leaf : Nat) : Nat → List Int
 | 0 => k0
 | z + 1 => if leaf / 2 ^ z % 2 = 1 then ovW n sh pub a (z + 1) (leaf / 2 ^ (z + 1)) ((path.drop (z * n)).take n) (cnW n sh pub a k0 path leaf z)
  else ovW n sh pub a (z + 1) (leaf / 2 ^ (z + 1)) (cnW n sh pub a k0 path leaf z) ((path.drop (z * n)).take n)
theorem bgs {n : Nat} (hn : n ≤ 32) (sh : Bool) (pub a k0 path : List Int) (hk : k0.length = n) (leaf : Nat) : ∀ z, (cnW n sh pub a k0 path leaf z).length = n
 | 0 => hk
 | z + 1 => by rw [cnW]; split <;> exact agb hn _ _ _ _
theorem bpe (n : Nat) (sh : Bool) (pub a k0 path : List Int) (hk : In 256 k0) (leaf : Nat) : ∀ z, In 256 (cnW n sh pub a k0 path leaf z)
 | 0 => hk
 | z + 1 => by rw [cnW]; split <;> exact am0 _ _ _ _ _
def tpW (n : Nat) (sh : Bool) (pub a sig t : List Int) (leaf h : Nat) : List Int :=
 cnW n sh pub a (kyW n sh pub (lfA a leaf) (cat (bc5 n sh (sig.take ((2 * n + 3) * n)) pub (lfA a leaf) t) (2 * n + 3))) (sig.drop ((2 * n + 3) * n)) leaf h
theorem br6 {n : Nat} (hn : n ≤ 32) (sh : Bool) (pub a sig t : List Int) (leaf h : Nat) : (tpW n sh pub a sig t leaf h).length = n := bgs hn _ _ _ _ _ (agb hn _ _ _ _) _ _
theorem qg {n : Nat} {H D A K : Int} {h : Nat} (kd : Kd n H D A K h) (sh : Bool) (sig t pub a : List Int) (hsig : In 256 sig) (lsig : sig.length = n * (2 * n + 3 + h)) (ht : In 256 t) (lt : t.length = n) (hp : In 256 pub) (np : pub.length = n) (la : a.length = 32) (ha : In 256 a) (leaf : Nat) (hleaf : leaf < 2 ^ h) {ρ : Type} (k : List Int → Option ρ) :
    P.qg n H D A K sh sig t pub a (leaf : Int) k = k (tpW n sh pub a sig t leaf h) := by
 have hn := kd.n
 have h2 := kd.h
 have h9 : 2 ^ h ≤ 2 ^ 9 := Nat.pow_le_pow_right (by omega) h2
 have hmul : (2 * n + 3) * n ≤ 67 * 32 := Nat.mul_le_mul (by omega) hn
 have hm2 : n * h ≤ 32 * 9 := Nat.mul_le_mul hn h2
 have hsz : n * (2 * n + 3 + h) = (2 * n + 3) * n + n * h := by rw [Nat.mul_add, Nat.mul_comm n (2 * n + 3)]
 have e1 : IntKind.i64.wrap ((sig.length : Int) - ((n * h : Nat) : Int)) = (((2 * n + 3) * n : Nat) : Int) := by
  rw [og (by omega) (by omega)]; omega
 have lt1 : (sig.take ((2 * n + 3) * n)).length = (2 * n + 3) * n := by rw [List.length_take]; omega
 have ld : (sig.drop ((2 * n + 3) * n)).length = n * h := by rw [List.length_drop]; omega
 have hpath : In 256 (sig.drop ((2 * n + 3) * n)) := hsig.drop _
 have hk0 := agb hn sh pub (asj (asj (lfA a leaf) 2 1) 3 (prn (lfA a leaf))) (cat (bc5 n sh (sig.take ((2 * n + 3) * n)) pub (lfA a leaf) t) (2 * n + 3))
 rw [P.zk]; unfold P.uy
 rw [apf kd sh _ (by simp) (fun j hj => by
  match j with
  | 0 => exact np
  | 1 => exact lt
  | j + 2 => simp at hj; omega), jf, mo, qd kd, cu (by rw [lsig]), jl kd, dx (by omega), toNat_cast, sh0 leaf h (by omega) hleaf, cu rfl, jl kd, mulN _ _ hn (by omega), e1, bg (by omega), bg (by omega), ax0 la _ _ _ _ _ _ _ _ leaf (by omega), List.drop_zero, toNat_cast,
  qw kd.1 sh _ t pub _ (hsig.take _) lt1 ht lt hp np (atb la _) (ba1 ha _), bg (by omega), bg (by omega), bg (by omega), jl kd, toNat_cast, List.take_length, P.aob]
 unfold P.akl P.by9 P.bwz P.b7c tpW
 have hk1 := am0 n sh pub (asj (asj (lfA a leaf) 2 1) 3 (prn (lfA a leaf))) (cat (bc5 n sh (sig.take ((2 * n + 3) * n)) pub (lfA a leaf) t) (2 * n + 3))
 generalize sig.drop ((2 * n + 3) * n) = path at ld hpath
 unfold kyW
 generalize bdt n sh pub (asj (asj (lfA a leaf) 2 1) 3 (prn (lfA a leaf))) (cat (bc5 n sh (sig.take ((2 * n + 3) * n)) pub (lfA a leaf) t) (2 * n + 3)) = k0 at hk0 hk1
 refine ug (fun z => ((leaf : Int), cnW n sh pub a k0 path leaf z, path.drop (z * n), (h : Int), (z : Int), (n : Int), H, D, A, K, sh, (n : Int), H, D, A, K, sh, pub, a)) h (by simp [cnW]) (fun z hz next hnx => ?_) (fun next => ?_) (by omega)
 ·have hd := Nat.div_le_self leaf (2 ^ z)
  have hd1 := Nat.div_le_self leaf (2 ^ (z + 1))
  have hzn : z * n + n ≤ n * h := by rw [← Nat.succ_mul, Nat.mul_comm n h]; exact Nat.mul_le_mul hz (Nat.le_refl _)
  have lp2 : (path.drop (z * n)).length = n * h - z * n := by rw [List.length_drop]; omega
  have lc := bgs hn sh pub a k0 path hk0 leaf z
  have ic := bpe n sh pub a k0 path hk1 leaf z
  have lq : ((path.drop (z * n)).take n).length = n := by rw [List.length_take]; omega
  have iq : In 256 ((path.drop (z * n)).take n) := (hpath.drop _).take _
  rw [Nat.succ_mul, ← List.drop_drop] at hnx
  simp only [P.af6, toNat_cast]
  rw [bg (by omega), bg (by omega), bg (by omega), dx (by omega), fdiv_pow _ _ _ (by omega), show bits BinOp.and IntKind.u64 ((leaf / 2 ^ z : Nat) : Int) 1 = ((leaf / 2 ^ z % 2 : Nat) : Int) by
   rw [show (1 : Int) = ((1 : Nat) : Int) from rfl, asn _ _ (by omega) (by omega), Nat.and_one_is_mod]]
  have ez : IntKind.i64.wrap ((z : Int) + 1) = ((z + 1 : Nat) : Int) := by rw [og (by omega) (by omega)]; omega
  rw [ez, toNat_cast, fdiv_pow _ _ _ (by omega), List.drop_zero, List.take_length]
  by_cases hb : leaf / 2 ^ z % 2 = 1
  ·rw [cnW, if_pos hb] at hnx
   rw [fq (by omega), dx (by omega), axb kd.1 sh _ pub a _ _ hp np la ha iq ic (by omega) (by omega) (z + 1) _ (by omega) (by omega), bg (by omega), bg (by omega), bg (by omega)]
   exact hnx
  ·rw [cnW, if_neg hb] at hnx
   rw [fu (by omega), dx (by omega), axb kd.1 sh _ pub a _ _ hp np la ha ic iq (by omega) (by omega) (z + 1) _ (by omega) (by omega), bg (by omega), bg (by omega), bg (by omega)]
   exact hnx
 ·simp only [P.af6]
  rw [dx (by omega)]
end Q
end

section
/- xmss: knots, signatures, tops, by the document; and where there are none. -/
namespace Q
open QK
open Go Go.Abs
set_option linter.unusedVariables false
set_option linter.unusedSimpArgs false
theorem boe (h : Nat) : (2 : Int) ^ h = ((2 ^ h : Nat) : Int) := by rw [Int.natCast_pow]; rfl
theorem bee (a z : Nat) (hz : z ≤ 64) (hb : a * 2 ^ z < 18446744073709551616) : IntKind.u64.wrap ((a : Int) * (2 : Int) ^ min z 64) = ((a * 2 ^ z : Nat) : Int) := by
 rw [Nat.min_eq_left hz, boe, ← Int.natCast_mul, agx _ hb]
theorem bjq (h : Nat) (hh : h ≤ 63) : IntKind.u64.wrap ((1 : Int) * (2 : Int) ^ min h 64) = ((2 ^ h : Nat) : Int) := by
 have := bee 1 h (by omega) (by rw [Nat.one_mul]; exact Nat.pow_lt_pow_right (a := 2) (m := h) (n := 64) (by omega) (by omega))
 rw [Nat.one_mul] at this
 exact this
theorem Kd.d {n : Nat} {H D A K : Int} {h : Nat} (k : Kd n H D A K h) : ¬ D = 0 := by have := k.1; unfold adz at this; omega
theorem apj {n : Nat} {H D A K : Int} {h : Nat} (kd : Kd n H D A K h) (sh : Bool) (l : List (List Int)) (hl : l.length ≤ 100) (i0 : Nat) (hi0 : i0 < l.length) (hn : (l.getD i0 []).length ≠ n) {ρ : Type} (k : Bool → Option ρ) : P.tu n H D A K sh l k = k false := by
 rw [P.anp]; unfold P.aho
 rw [P.am4]; unfold P.ami P.zk3 P.zs3 P.zu3
 refine ug (fun i => (l, (l.length : Int), (i : Int), (n : Int), H, D, A, K, sh)) i0 rfl (fun i hi next hnx => ?_) (fun next => ?_) (by omega)
 ·simp only [P.agt, toNat_cast, Sum.elim_inl, Sum.elim_inr]
  by_cases hb : (l.getD i []).length = n
  ·rw [bg (by omega), bg (by omega), bg (by omega), cu (by omega), og (by omega) (by omega)]
   exact hnx
  ·rw [bg (by omega), bg (by omega), bg (by omega), gq (by omega)]
 ·simp only [P.agt, toNat_cast, Sum.elim_inl, Sum.elim_inr]
  rw [bg (by omega), bg (by omega), bg (by omega), gq (by omega)]
theorem sh1 (i h : Nat) (hh : h ≤ 64) (hi : ¬ i < 2 ^ h) : ¬ (i : Int).fdiv ((2 : Int) ^ min h 64) = 0 := by
 rw [fdiv_pow _ _ _ hh]
 have := Nat.div_pos (show 2 ^ h ≤ i by omega) (Nat.two_pow_pos h)
 omega
theorem aau {n : Nat} {H D A K : Int} {h : Nat} (kd : Kd n H D A K h) (sh : Bool) {ρ : Type} (k : Int → Option ρ) : P.aau n H D A K sh k = k ((n * (2 * n + 3 + h) : Nat) : Int) := by
 have h1 := kd.n
 have h2 := kd.h
 rw [P.av4]; unfold P.aml
 rw [mh, decide_eq_true kd.1, jf, mo, dx kd.d, kd.2, og (x := (2 : Int) * (n : Int)) (by omega) (by omega), og (x := (2 : Int) * (n : Int) + 3) (by omega) (by omega), og (x := (2 : Int) * (n : Int) + 3 + (h : Int)) (by omega) (by omega), show (2 : Int) * (n : Int) + 3 + (h : Int) = ((2 * n + 3 + h : Nat) : Int) by omega, mulN _ _ h1 (by omega)]
theorem za {a : List Int} (la : a.length = 32) (i : Nat) (hi : i < 18446744073709551616) {ρ : Type} (k : List Int → Option ρ) : P.za a (i : Int) k = k (lfA a i) := by
 rw [P.aw6]; unfold P.amt
 rw [show P.jm (ρ := ρ) a 2 0 = P.jm a 2 ((0 : Nat) : Int) from rfl, jm la 2 0 (by omega), jm (kr la _ _) 3 i hi]
 rfl
theorem aat {n : Nat} {H D A K : Int} (hf : adz n H D A K) (sh : Bool) (pub a l r : List Int) (hp : In 256 pub) (np : pub.length = n) (la : a.length = 32) (ha : In 256 a) (hl : In 256 l) (hr : In 256 r) (nl : l.length ≤ 1000) (nr : r.length ≤ 1000) (z i : Nat) (hz : z < 1000) (hi : i < 18446744073709551616) {ρ : Type} (k : List Int → Option ρ) :
    P.aat n H D A K sh pub a (z : Int) (i : Int) l r k = k (ovW n sh pub a z i l r) := by
 have e : [l, r].flatten = l ++ r := by simp
 have hlr : (l ++ r).length ≤ 2000 := by rw [List.length_append]; omega
 rw [P.axg]; unfold P.ang
 rw [show P.jm (ρ := ρ) a 2 2 = P.jm a 2 ((2 : Nat) : Int) from rfl, jm la 2 2 (by omega), agx _ (by omega), jm (kr la _ _) 4 z (by omega), jm (kr (kr la _ _) _ _) 5 i hi, l5 _ (by simp) (by rw [e]; omega), e,
  zl hf sh pub hp np _ _ (kr (kr (kr la _ _) _ _) _ _) (xw (xw (xw ha _ _) _ _) _ _) (hl.app hr) (by omega)]
 rfl
theorem getD_map (f : Nat → List Int) (m i : Nat) (h : i < m) : ((List.range m).map f).getD i [] = f i := by
 rw [List.getD_eq_getElem?_getD, List.getElem?_map, List.getElem?_range h]
 rfl
def rwK (n : Nat) (sh : Bool) (pub sec a : List Int) (z i y : Nat) (j : Nat) : List Int := knW n sh pub sec a y (i * 2 ^ (z - y) + j)
theorem bp1 (n : Nat) (sh : Bool) (pub sec a : List Int) (z i y j : Nat) : In 256 (rwK n sh pub sec a z i y j) := bmh _ _ _ _ _ _ _
theorem blg {n : Nat} (hn : n ≤ 32) (sh : Bool) (pub sec a : List Int) (z i y j : Nat) : (rwK n sh pub sec a z i y j).length = n := amy hn _ _ _ _ _ _
theorem bqq {n : Nat} {H D A K : Int} (hf : adz n H D A K) (sh : Bool) (sec pub a : List Int) (hp : In 256 pub) (np : pub.length = n) (la : a.length = 32) (ha : In 256 a) (z i y : Nat) (hy : y < z) (hz : z ≤ 9) (hb : (i + 1) * 2 ^ z ≤ 512) {ρ : Type}
    (k0 : (List Int) → Int → Int → (List (List Int)) → Int → Int → (List (List Int)) → (List Int) → Int → Int → Int → Int → Int → Bool → Option ρ) (r : Option ρ)
    (hk : k0 pub z i ((List.range (2 ^ (z - y))).map (rwK n sh pub sec a z i y)) ((y + 1 : Nat) : Int) ((2 ^ (z - y) : Nat) : Int) ((List.range (2 ^ (z - (y + 1)))).map (rwK n sh pub sec a z i (y + 1))) a n H D A K sh = r) :
    P.amu pub z i ((List.range (2 ^ (z - y))).map (rwK n sh pub sec a z i y)) ((y + 1 : Nat) : Int) 0 [] a n H D A K sh k0 = r := by
 have hn : n ≤ 32 := by unfold adz at hf; omega
 have e2 : 2 ^ (z - y) = 2 * 2 ^ (z - (y + 1)) := by rw [show z - y = (z - (y + 1)) + 1 by omega, Nat.pow_succ]; omega
 have hp2 : 2 ^ (z - (y + 1)) ≤ 2 ^ 9 := Nat.pow_le_pow_right (by omega) (by omega)
 have hi2 : i * 2 ^ (z - (y + 1)) ≤ 512 := by
  have h1 : i * 2 ^ (z - (y + 1)) ≤ (i + 1) * 2 ^ z := Nat.mul_le_mul (by omega) (Nat.pow_le_pow_right (by omega) (by omega))
  omega
 rw [P.av8]; unfold P.auh P.bz8 P.bxw P.b5z
 refine ug (fun j => (pub, (z : Int), (i : Int), (List.range (2 ^ (z - y))).map (rwK n sh pub sec a z i y), ((y + 1 : Nat) : Int), ((2 * j : Nat) : Int), (List.range j).map (rwK n sh pub sec a z i (y + 1)), a, (n : Int), H, D, A, K, sh)) (2 ^ (z - (y + 1))) rfl (fun j hj next hnx => ?_) (fun next => ?_) (by omega)
 ·simp only [P.am9]
  have ll : ((List.range (2 ^ (z - y))).map (rwK n sh pub sec a z i y)).length = 2 ^ (z - y) := by simp
  have et : ((2 * j : Nat) : Int).tdiv 2 = (j : Int) := by rw [Int.tdiv_eq_ediv_of_nonneg (by omega)]; omega
  rw [og (x := ((2 * j : Nat) : Int) + 1) (by omega) (by omega), ll, bg (by omega), og (x := (z : Int) - ((y + 1 : Nat) : Int)) (by omega) (by omega), dx (by omega), bg (by omega), bg (by omega), bg (by omega), bg (by omega), et,
   show ((z : Int) - ((y + 1 : Nat) : Int)).toNat = z - (y + 1) by omega, bee i (z - (y + 1)) (by omega) (by omega), og (x := (j : Int)) (by omega) (by omega), agx j (by omega), show ((i * 2 ^ (z - (y + 1)) : Nat) : Int) + (j : Int) = ((i * 2 ^ (z - (y + 1)) + j : Nat) : Int) by omega, agx _ (by omega), toNat_cast,
   show (((2 * j : Nat) : Int) + 1).toNat = 2 * j + 1 by omega, getD_map _ _ _ (by omega), getD_map _ _ _ (by omega),
   aat hf sh pub a _ _ hp np la ha (bp1 _ _ _ _ _ _ _ _ _) (bp1 _ _ _ _ _ _ _ _ _) (by rw [blg hn]; omega) (by rw [blg hn]; omega) (y + 1) _ (by omega) (by omega), bg (by simp; omega), og (x := ((2 * j : Nat) : Int) + 2) (by omega) (by omega), show ((2 * j : Nat) : Int) + 2 = ((2 * (j + 1) : Nat) : Int) by omega]
  have e : rwK n sh pub sec a z i (y + 1) j = ovW n sh pub a (y + 1) (i * 2 ^ (z - (y + 1)) + j) (rwK n sh pub sec a z i y (2 * j)) (rwK n sh pub sec a z i y (2 * j + 1)) := by
   unfold rwK
   rw [knW, e2, show i * (2 * 2 ^ (z - (y + 1))) + 2 * j = 2 * (i * 2 ^ (z - (y + 1)) + j) by rw [Nat.mul_add, Nat.mul_left_comm], show i * (2 * 2 ^ (z - (y + 1))) + (2 * j + 1) = 2 * (i * 2 ^ (z - (y + 1)) + j) + 1 by rw [Nat.mul_add, Nat.mul_left_comm]; omega]
  rw [← ze, e] at hnx
  exact hnx
 ·simp only [P.am9]
  rw [og (x := ((2 * 2 ^ (z - (y + 1)) : Nat) : Int) + 1) (by omega) (by omega), dx (by rw [List.length_map, List.length_range, e2]; omega), ← e2]
  exact hk
theorem aaz {n : Nat} {H D A K : Int} {h : Nat} (kd : Kd n H D A K h) (sh : Bool) (sec pub a : List Int) (hsec : In 256 sec) (lsec : sec.length = n) (hp : In 256 pub) (np : pub.length = n) (la : a.length = 32) (ha : In 256 a) (z i : Nat) (hz : z ≤ h) (hi : i < 2 ^ (h - z)) {ρ : Type} (k : List Int → Option ρ) :
    P.aaz n H D A K sh sec pub a (z : Int) (i : Int) k = k (knW n sh pub sec a z i) := by
 have hn := kd.n
 have h2 := kd.h
 have hb : (i + 1) * 2 ^ z ≤ 2 ^ h := by
  have : (i + 1) * 2 ^ z ≤ 2 ^ (h - z) * 2 ^ z := Nat.mul_le_mul hi (Nat.le_refl _)
  rw [← Nat.pow_add, Nat.sub_add_cancel hz] at this
  exact this
 have h9 : 2 ^ h ≤ 2 ^ 9 := Nat.pow_le_pow_right (by omega) h2
 have hz9 : 2 ^ z ≤ 2 ^ 9 := Nat.pow_le_pow_right (by omega) (by omega)
 have e1 : (i + 1) * 2 ^ z = i * 2 ^ z + 2 ^ z := by rw [Nat.add_mul, Nat.one_mul]
 have p0 : 0 < 2 ^ z := Nat.two_pow_pos z
 have hi9 : i < 512 := by
  have : 2 ^ (h - z) ≤ 2 ^ 9 := Nat.pow_le_pow_right (by omega) (by omega)
  omega
 rw [P.ad9]; unfold P.abg
 rw [mh, decide_eq_true kd.1, jf, mo, cu (by omega), cu (by omega), dx (by omega), dx kd.d, kd.2, dx (by omega), dx kd.d, og (x := (h : Int) - (z : Int)) (by omega) (by omega), dx (by omega), show ((h : Int) - (z : Int)).toNat = h - z by omega, bjq _ (by omega), dx (by omega), dx (by omega), toNat_cast, bee i z (by omega) (by omega), P.ayt]
 unfold P.axn P.b0b P.buz P.b0t
 refine ug (fun j => (sec, pub, (z : Int), (i : Int), ((i * 2 ^ z + j : Nat) : Int), (List.range j).map (rwK n sh pub sec a z i 0), (n : Int), H, D, A, K, sh, a)) (2 ^ z) rfl (fun j hj next hnx => ?_) (fun next => ?_) (by omega)
 ·simp only [P.ap5, toNat_cast]
  rw [dx (by omega), show (i : Int) + 1 = ((i + 1 : Nat) : Int) by omega, agx (i + 1) (by omega), bee (i + 1) z (by omega) (by omega), bg (by omega), za la _ (by omega), aa6 kd.1 sh sec pub _ hsec lsec hp np (atb la _) (ba1 ha _), bg (by simp; omega),
   show ((i * 2 ^ z + j : Nat) : Int) + 1 = ((i * 2 ^ z + (j + 1) : Nat) : Int) by omega, agx _ (by omega)]
  rw [← ze] at hnx
  exact hnx
 ·simp only [P.ap5, toNat_cast]
  rw [dx (by omega), show (i : Int) + 1 = ((i + 1 : Nat) : Int) by omega, agx (i + 1) (by omega), bee (i + 1) z (by omega) (by omega), dx (by omega), P.ay3]
  unfold P.axo P.bzb P.bwx P.b1r
  refine ug (fun y => (pub, (z : Int), (i : Int), (List.range (2 ^ (z - y))).map (rwK n sh pub sec a z i y), ((y + 1 : Nat) : Int), (n : Int), H, D, A, K, sh, a)) z rfl (fun y hy next hnx => ?_) (fun next => ?_) (by omega)
  ·simp only [P.aqa]
   rw [bg (by omega)]
   refine bqq kd.1 sh sec pub a hp np la ha z i y hy (by omega) (by omega) _ _ ?_
   rw [show ((y + 1 : Nat) : Int) + 1 = ((y + 1 + 1 : Nat) : Int) by omega, og (by omega) (by omega)]
   exact hnx
  ·simp only [P.aqa]
   rw [dx (by omega), Nat.sub_self, Nat.pow_zero, bg (by simp), getD_map _ _ _ (by omega)]
   unfold rwK
   rw [Nat.sub_self, Nat.pow_zero, Nat.mul_one, Nat.add_zero]
theorem ad8 {n : Nat} {H D A K : Int} {h : Nat} (kd : Kd n H D A K h) (sh : Bool) (t sec pub a : List Int) (ht : In 256 t) (lt : t.length = n) (hsec : In 256 sec) (lsec : sec.length = n) (hp : In 256 pub) (np : pub.length = n) (la : a.length = 32) (ha : In 256 a) (leaf : Nat) (hleaf : leaf < 2 ^ h) {ρ : Type} (k : List Int → Option ρ) :
    P.ad8 n H D A K sh t sec pub a (leaf : Int) k = k (sgW n sh pub sec a t leaf h) := by
 have hn := kd.n
 have h2 := kd.h
 have h9 : 2 ^ h ≤ 2 ^ 9 := Nat.pow_le_pow_right (by omega) h2
 have l1 := amv (aq4 hn sh pub sec (lfA a leaf) t) (2 * n + 3)
 have hmul : (2 * n + 3) * n ≤ 67 * 32 := Nat.mul_le_mul (by omega) hn
 rw [P.af7]; unfold P.adi
 rw [mh, decide_eq_true kd.1, jf, mo, cu (by omega), cu (by omega), cu (by omega), dx kd.d, kd.2, dx (by omega), toNat_cast, bjq _ (by omega), dx (by omega), za la _ (by omega), ae0 kd.1 sh t sec pub _ ht lt hsec lsec hp np (atb la _) (ba1 ha _), P.ayz]
 unfold P.ayb P.byp P.bxq P.b2a
 refine ug (fun z => (sec, pub, (leaf : Int), (z : Int), cat (bnt n sh pub sec (lfA a leaf) t) (2 * n + 3) :: (List.range z).map (auT n sh pub sec a leaf), (n : Int), H, D, A, K, sh, a)) h rfl (fun z hz next hnx => ?_) (fun next => ?_) (by omega)
 ·have hb := bxn hleaf hz h2
  have hd := Nat.div_le_self leaf (2 ^ z)
  have hlt : (leaf / 2 ^ z) ^^^ 1 < 2 ^ (h - z) := Nat.xor_lt_two_pow (by
   rw [Nat.div_lt_iff_lt_mul (Nat.two_pow_pos z), ← Nat.pow_add, Nat.sub_add_cancel (by omega)]
   exact hleaf) (Nat.one_lt_two_pow (by omega))
  simp only [P.apn, toNat_cast]
  rw [dx kd.d, kd.2, bg (by omega), dx (by omega), fdiv_pow _ _ _ (by omega), show (1 : Int) = ((1 : Nat) : Int) from rfl, bgn _ _ (by omega) (by omega),
   aaz kd sh sec pub a hsec lsec hp np la ha z _ (by omega) hlt, bg (by simp; omega), og (by omega) (by omega), List.cons_append]
  rw [← ze] at hnx
  exact hnx
 ·have l2 := amv (T := auT n sh pub sec a leaf) (fun z => amy hn _ _ _ _ _ _) h
  have hm2 : h * n ≤ 9 * 32 := Nat.mul_le_mul (by omega) hn
  simp only [P.apn]
  rw [dx kd.d, kd.2, dx (by omega), l5 _ (by simp; omega) (by rw [List.flatten_cons, ae7, List.length_append]; omega), List.flatten_cons, ae7]
  rfl
theorem sj {n : Nat} {H D A K : Int} {h : Nat} (kd : Kd n H D A K h) (sh : Bool) (sig t pub a : List Int) (hsig : In 256 sig) (lsig : sig.length = n * (2 * n + 3 + h)) (ht : In 256 t) (lt : t.length = n) (hp : In 256 pub) (np : pub.length = n) (la : a.length = 32) (ha : In 256 a) (leaf : Nat) (hleaf : leaf < 2 ^ h) {ρ : Type} (k : List Int → Option ρ) :
    P.sj n H D A K sh sig t pub a (leaf : Int) k = k (tpW n sh pub a sig t leaf h) := by
 have hn := kd.n
 have h2 := kd.h
 have h9 : 2 ^ h ≤ 2 ^ 9 := Nat.pow_le_pow_right (by omega) h2
 have hmul : (2 * n + 3) * n ≤ 67 * 32 := Nat.mul_le_mul (by omega) hn
 have hc : (n : Int) * ((2 * n + 3 : Nat) : Int) = (((2 * n + 3) * n : Nat) : Int) := by rw [Int.natCast_mul, Int.mul_comm]
 have e3 : IntKind.i64.wrap (IntKind.i64.wrap ((2 : Int) * (n : Int)) + (3 : Int)) = ((2 * n + 3 : Nat) : Int) := by
  rw [og (x := (2 : Int) * (n : Int)) (by omega) (by omega), og (by omega) (by omega)]; omega
 have hsz : n * (2 * n + 3 + h) = (2 * n + 3) * n + h * n := by rw [Nat.mul_add, Nat.mul_comm n h, Nat.mul_comm n (2 * n + 3)]
 obtain ⟨kk, hkk, lk, ik⟩ : ∃ kk, kk = kyW n sh pub (lfA a leaf) (cat (bc5 n sh (sig.take ((2 * n + 3) * n)) pub (lfA a leaf) t) (2 * n + 3)) ∧ kk.length = n ∧ In 256 kk := ⟨_, rfl, agb hn _ _ _ _, am0 _ _ _ _ _⟩
 rw [P.aaq]; unfold P.wu
 rw [mh, decide_eq_true kd.1, jf, mo, cu (by omega), cu (by omega), aau kd, cu (by omega), dx kd.d, kd.2, dx (by omega), toNat_cast, bjq _ (by omega), dx (by omega), e3, hc, og (by omega) (by omega), toNat_cast, bg (by omega), bg (by omega), za la _ (by omega), List.drop_zero,
  uh kd.1 sh _ t pub _ (hsig.take _) (by rw [List.length_take]; omega) ht lt hp np (atb la _) (ba1 ha _), P.ap7]
 unfold P.alv P.bzd P.bu7 P.b1k
 refine ug (fun z => (sig, pub, (leaf : Int), (((2 * n + 3) * n : Nat) : Int), cnW n sh pub a kk (sig.drop ((2 * n + 3) * n)) leaf z, (z : Int), (n : Int), H, D, A, K, sh, a)) h (by rw [hkk]; rfl) (fun z hz next hnx => ?_) (fun next => ?_) (by omega)
 ·have hd := Nat.div_le_self leaf (2 ^ z)
  have hd2 := Nat.div_le_self leaf (2 ^ (z + 1))
  have hm2 : z * n ≤ 9 * 32 := Nat.mul_le_mul (by omega) hn
  have hm3 : (z + 1) * n ≤ h * n := Nat.mul_le_mul (by omega) (Nat.le_refl _)
  rw [Nat.succ_mul] at hm3
  have ec : (n : Int) * (z : Int) = ((z * n : Nat) : Int) := by rw [Int.natCast_mul, Int.mul_comm]
  have es : List.drop ((2 * n + 3) * n + z * n) (List.take ((2 * n + 3) * n + z * n + n) sig) = ((sig.drop ((2 * n + 3) * n)).drop (z * n)).take n := by
   rw [List.drop_take, List.drop_drop, Nat.add_sub_cancel_left]
  have ic := bpe n sh pub a kk (sig.drop ((2 * n + 3) * n)) ik leaf z
  have lc := bgs hn sh pub a kk (sig.drop ((2 * n + 3) * n)) lk leaf z
  have is' : In 256 (((sig.drop ((2 * n + 3) * n)).drop (z * n)).take n) := ((hsig.drop _).drop _).take _
  have ls' : (((sig.drop ((2 * n + 3) * n)).drop (z * n)).take n).length ≤ n := by rw [List.length_take]; omega
  simp only [P.ag4, ec]
  rw [dx kd.d, kd.2, bg (by omega), og (x := ((z * n : Nat) : Int)) (by omega) (by omega), show (((2 * n + 3) * n : Nat) : Int) + ((z * n : Nat) : Int) = (((2 * n + 3) * n + z * n : Nat) : Int) by omega, og (x := (((2 * n + 3) * n + z * n : Nat) : Int)) (by omega) (by omega),
   show (((2 * n + 3) * n + z * n : Nat) : Int) + (n : Int) = (((2 * n + 3) * n + z * n + n : Nat) : Int) by omega, og (x := (((2 * n + 3) * n + z * n + n : Nat) : Int)) (by omega) (by omega)]
  simp only [toNat_cast]
  rw [bg (by omega), bg (by omega), bg (by omega), dx (by omega), og (x := (z : Int) + 1) (by omega) (by omega), show (z : Int) + 1 = ((z + 1 : Nat) : Int) by omega, dx (by omega), toNat_cast, fdiv_pow _ _ _ (by omega), fdiv_pow _ _ _ (by omega), es]
  have em : ((leaf / 2 ^ z : Nat) : Int).tmod 2 = ((leaf / 2 ^ z % 2 : Nat) : Int) := by rw [Int.tmod_eq_emod_of_nonneg (Int.natCast_nonneg _)]; rfl
  rw [em]
  rw [cnW] at hnx
  by_cases hb : leaf / 2 ^ z % 2 = 1
  ·rw [if_pos hb] at hnx
   rw [hb, fu (by omega), dx (by omega)]
   have := aat kd.1 sh pub a _ _ hp np la ha is' ic (by omega) (by omega) (z + 1) (leaf / 2 ^ (z + 1)) (by omega) (by omega) (ρ := ρ)
   rw [this]
   exact hnx
  ·rw [if_neg hb] at hnx
   rw [show leaf / 2 ^ z % 2 = 0 by omega, fq (by omega)]
   have := aat kd.1 sh pub a _ _ hp np la ha ic is' (by omega) (by omega) (z + 1) (leaf / 2 ^ (z + 1)) (by omega) (by omega) (ρ := ρ)
   rw [this]
   exact hnx
 ·simp only [P.ag4]
  rw [dx kd.d, kd.2, dx (by omega), hkk]
  rfl
end Q
end





section
/- xmss: trees in trees, by the program. -/
namespace Q
open QK
open Go Go.Abs
set_option linter.unusedVariables false
set_option linter.unusedSimpArgs false
end Q
end

section
/- xmss: what trees in trees sign leads to the top of all. -/
namespace Q
open QK
open Go Go.Abs
set_option linter.unusedVariables false
set_option linter.unusedSimpArgs false
end Q
end

section
/- xmss: the chapter's examples. -/
namespace Q
open QK
open Go Go.Abs
set_option linter.unusedVariables false
set_option linter.unusedSimpArgs false
theorem b74 : Kd 16 2 1 1 1 2 := ⟨by decide, rfl⟩
theorem u6 {ρ : Type} (k : Bool → Option ρ) : P.u6 k = k true := by
 rw [P.auj]; unfold P.aks
 rw [show P.qd (ρ := ρ) 16 2 1 1 1 false = P.qd ((16 : Nat) : Int) 2 1 1 1 false from rfl, qd b74, fq (show ((16 * (2 * 16 + 3 + 2) : Nat) : Int) = 592 from rfl), P.abf]
 unfold P.y5
 rw [show P.tu (ρ := ρ) 16 2 1 1 1 false = P.tu ((16 : Nat) : Int) 2 1 1 1 false from rfl, apf b74 false _ (by simp) (fun j hj => by
  match j with
  | 0 => rfl
  | 1 => rfl
  | j + 2 => simp at hj; omega), jf, mo, dx (by omega), show P.jl (ρ := ρ) 16 2 1 1 1 false = P.jl ((16 : Nat) : Int) 2 1 1 1 false from rfl, jl b74, bg (by omega)]
 rfl
end Q
end

section
/- xmss: what the program and the document say of any bpf, signature and top. -/
namespace Q
open QK
open Go Go.Abs
set_option linter.unusedVariables false
set_option linter.unusedSimpArgs false
theorem b6b {n : Nat} {H D A K : Int} (hf : adz n H D A K) : ∃ h, Kd n H D A K h := by
 have h0 := hf
 unfold adz at h0
 have h1 : 0 ≤ H.tdiv D := Int.tdiv_nonneg (by omega) (by omega)
 have h2 : H.tdiv D ≤ H := by
  rw [Int.tdiv_eq_ediv_of_nonneg (by omega)]
  exact Int.ediv_le_self _ (by omega)
 exact ⟨(H.tdiv D).toNat, hf, by rw [og (by omega) (by omega)]; omega⟩
theorem ag9 (l : List (List Int)) (hl : l.length ≤ 100) {ρ : Type} (k : Bool → Option ρ) : (P.ag9 l k = k true ∧ ∀ i, i < l.length → (l.getD i []).length ≤ 300) ∨ P.ag9 l k = k false := by
 rw [P.bam]
 unfold P.apr
 rw [P.bbh]
 unfold P.baf P.zk2 P.zs2 P.zu2
 by_cases h : ∀ i, i < l.length → (l.getD i []).length ≤ 300
 ·refine .inl ⟨ug (fun i => (l, (l.length : Int), (i : Int))) l.length rfl (fun i hi next hn' => ?_) (fun next => ?_) (by omega), h⟩
  ·have := h i hi
   simp only [P.an7, toNat_cast, Sum.elim_inl, Sum.elim_inr]
   simp (disch := omega) only [bg, dx, gq, cu, fq, fu, jf, mo, ru, og]
   exact hn'
  ·simp only [P.an7, toNat_cast, Sum.elim_inl, Sum.elim_inr]
   rw [dx (by omega)]
 ·refine .inr (btu (P := fun x => ∃ j : Nat, x = (l, (l.length : Int), (j : Int)) ∧ ∃ i, j ≤ i ∧ i < l.length ∧ ¬ (l.getD i []).length ≤ 300) (μ := fun x => ((l.length : Int) - x.2.2).toNat) ?_ ⟨0, rfl, ?_⟩ (by simp only; omega))
  ·rintro _ ⟨j, rfl, i, hji, hi, hb⟩ next hn
   simp only [P.an7, toNat_cast, Sum.elim_inl, Sum.elim_inr]
   by_cases hj : ((l.getD j []).length : Int) > 300
   ·simp (disch := omega) only [bg, dx, gq, cu, fq, fu, jf, mo, ru, og]
   ·simp (disch := omega) only [bg, dx, gq, cu, fq, fu, jf, mo, ru, og]
    exact hn _ ⟨j + 1, rfl, i, by by_cases e : j = i <;> (try subst e) <;> omega, hi, hb⟩ (by simp only; omega)
  ·have : ∃ i, ¬ (i < l.length → (l.getD i []).length ≤ 300) := Classical.not_forall.1 h
   obtain ⟨i, hi⟩ := this
   exact ⟨i, Nat.zero_le _, by by_cases e : i < l.length <;> simp_all, fun e => hi (fun _ => e)⟩
theorem brt {n : Nat} {H D A K : Int} {h : Nat} (kd : Kd n H D A K h) (sh : Bool) (sec pub a : List Int) (hsec : In 256 sec) (hp : In 256 pub) (la : a.length = 32) (ha : In 256 a) (z : Int) (wz : z < 9223372036854775808) (i : Nat) (hi : i < 18446744073709551616) : ∃ v : List Int, v.length ≤ 1000 ∧ (∀ {ρ : Type} (k : List Int → Option ρ), P.z8 n H D A K sh sec pub a z (i : Int) k = k v) ∧ ∀ {ρ : Type} (k : List Int → Option ρ), P.aaz n H D A K sh sec pub a z (i : Int) k = k v := by
 have h2 := kd.h
 have hn := kd.n
 have two : [sec, pub].length ≤ 100 := by simp
 by_cases l1 : sec.length = n
 ·by_cases l2 : pub.length = n
  ·have hs : ∀ {ρ : Type} (k : Bool → Option ρ), P.tu n H D A K sh [sec, pub] k = k true := fun k => apf kd sh _ two (fun j hj => by
     match j with
     | 0 => exact l1
     | 1 => exact l2
     | j + 2 => simp at hj; omega) k
   by_cases z0 : z < 0
   ·refine ⟨[], by simp, fun k => ?_, fun k => ?_⟩
    ·rw [P.abf]; unfold P.y5
     rw [hs, jf, mo, bg (by omega)]
    ·rw [P.ad9]; unfold P.abg
     rw [mh, decide_eq_true kd.1, jf, mo, cu (by omega), cu (by omega), bg (by omega)]
   ·obtain ⟨z, rfl⟩ : ∃ z' : Nat, z = (z' : Int) := ⟨z.toNat, by omega⟩
    by_cases zh : z ≤ h
    ·by_cases hi2 : i < 2 ^ (h - z)
     ·exact ⟨_, by rw [amy hn]; omega, fun k => z8 kd sh sec pub a hsec l1 hp l2 la ha z i zh hi2 k, fun k => aaz kd sh sec pub a hsec l1 hp l2 la ha z i zh hi2 k⟩
     ·refine ⟨[], by simp, fun k => ?_, fun k => ?_⟩
      ·rw [P.abf]; unfold P.y5
       rw [hs, jf, mo, dx (by omega), jl kd, dx (by omega), jl kd, og (by omega) (by omega), dx (by omega), show ((h : Int) - (z : Int)).toNat = h - z by omega, gq (sh1 i (h - z) (by omega) hi2)]
      ·rw [P.ad9]; unfold P.abg
       rw [mh, decide_eq_true kd.1, jf, mo, cu (by omega), cu (by omega), dx (by omega), dx kd.d, kd.2, dx (by omega), dx kd.d, og (x := (h : Int) - (z : Int)) (by omega) (by omega), dx (by omega), show ((h : Int) - (z : Int)).toNat = h - z by omega, bjq _ (by omega), bg (by omega)]
    ·refine ⟨[], by simp, fun k => ?_, fun k => ?_⟩
     ·rw [P.abf]; unfold P.y5
      rw [hs, jf, mo, dx (by omega), jl kd, bg (by omega)]
     ·rw [P.ad9]; unfold P.abg
      rw [mh, decide_eq_true kd.1, jf, mo, cu (by omega), cu (by omega), dx (by omega), dx kd.d, kd.2, bg (by omega)]
  ·refine ⟨[], by simp, fun k => ?_, fun k => ?_⟩
   ·rw [P.abf]; unfold P.y5
    rw [apj kd sh _ two 1 (by simp) (by simpa using l2), jf, ru]
   ·rw [P.ad9]; unfold P.abg
    rw [mh, decide_eq_true kd.1, jf, mo, cu (by omega), gq (by omega)]
 ·refine ⟨[], by simp, fun k => ?_, fun k => ?_⟩
  ·rw [P.abf]; unfold P.y5
   rw [apj kd sh _ two 0 (by simp) (by simpa using l1), jf, ru]
  ·rw [P.ad9]; unfold P.abg
   rw [mh, decide_eq_true kd.1, jf, mo, gq (by omega)]
theorem brh {n : Nat} {H D A K : Int} {h : Nat} (kd : Kd n H D A K h) (sh : Bool) (t sec pub a : List Int) (ht : In 256 t) (hsec : In 256 sec) (hp : In 256 pub) (la : a.length = 32) (ha : In 256 a) (i : Nat) (hi : i < 18446744073709551616) : ∃ v : List Int, v.length ≤ 10000 ∧ (∀ {ρ : Type} (k : List Int → Option ρ), P.abv n H D A K sh t sec pub a (i : Int) k = k v) ∧ ∀ {ρ : Type} (k : List Int → Option ρ), P.ad8 n H D A K sh t sec pub a (i : Int) k = k v := by
 have h2 := kd.h
 have hn := kd.n
 have two : [sec, pub, t].length ≤ 100 := by simp
 have hsz : n * (2 * n + 3 + h) ≤ 32 * 76 := Nat.mul_le_mul hn (by omega)
 by_cases l1 : sec.length = n
 ·by_cases l2 : pub.length = n
  ·by_cases l3 : t.length = n
   ·by_cases hi2 : i < 2 ^ h
    ·exact ⟨_, by rw [br7 hn]; omega, fun k => abv kd sh t sec pub a ht l3 hsec l1 hp l2 la ha i hi2 k, fun k => ad8 kd sh t sec pub a ht l3 hsec l1 hp l2 la ha i hi2 k⟩
    ·refine ⟨[], by simp, fun k => ?_, fun k => ?_⟩
     ·rw [P.ael]; unfold P.abp
      rw [apf kd sh _ two (fun j hj => by
       match j with
       | 0 => exact l1
       | 1 => exact l2
       | 2 => exact l3
       | j + 3 => simp at hj; omega), jf, mo, jl kd, dx (by omega), toNat_cast, gq (sh1 i h (by omega) hi2)]
     ·rw [P.af7]; unfold P.adi
      rw [mh, decide_eq_true kd.1, jf, mo, cu (by omega), cu (by omega), cu (by omega), dx kd.d, kd.2, dx (by omega), toNat_cast, bjq _ (by omega), bg (by omega)]
   ·refine ⟨[], by simp, fun k => ?_, fun k => ?_⟩
    ·rw [P.ael]; unfold P.abp
     rw [apj kd sh _ two 2 (by simp) (by simpa using l3), jf, ru]
    ·rw [P.af7]; unfold P.adi
     rw [mh, decide_eq_true kd.1, jf, mo, cu (by omega), cu (by omega), gq (by omega)]
  ·refine ⟨[], by simp, fun k => ?_, fun k => ?_⟩
   ·rw [P.ael]; unfold P.abp
    rw [apj kd sh _ two 1 (by simp) (by simpa using l2), jf, ru]
   ·rw [P.af7]; unfold P.adi
    rw [mh, decide_eq_true kd.1, jf, mo, cu (by omega), gq (by omega)]
 ·refine ⟨[], by simp, fun k => ?_, fun k => ?_⟩
  ·rw [P.ael]; unfold P.abp
   rw [apj kd sh _ two 0 (by simp) (by simpa using l1), jf, ru]
  ·rw [P.af7]; unfold P.adi
   rw [mh, decide_eq_true kd.1, jf, mo, gq (by omega)]
theorem bqm {n : Nat} {H D A K : Int} {h : Nat} (kd : Kd n H D A K h) (sh : Bool) (sig t pub a : List Int) (hsig : In 256 sig) (ht : In 256 t) (hp : In 256 pub) (la : a.length = 32) (ha : In 256 a) (i : Nat) (hi : i < 18446744073709551616) : ∃ v : List Int, v.length ≤ 1000 ∧ (∀ {ρ : Type} (k : List Int → Option ρ), P.qg n H D A K sh sig t pub a (i : Int) k = k v) ∧ ∀ {ρ : Type} (k : List Int → Option ρ), P.sj n H D A K sh sig t pub a (i : Int) k = k v := by
 have h2 := kd.h
 have hn := kd.n
 have two : [pub, t].length ≤ 100 := by simp
 by_cases l2 : pub.length = n
 ·by_cases l3 : t.length = n
  ·have hs : ∀ {ρ : Type} (k : Bool → Option ρ), P.tu n H D A K sh [pub, t] k = k true := fun k => apf kd sh _ two (fun j hj => by
     match j with
     | 0 => exact l2
     | 1 => exact l3
     | j + 2 => simp at hj; omega) k
   by_cases l1 : sig.length = n * (2 * n + 3 + h)
   ·by_cases hi2 : i < 2 ^ h
    ·exact ⟨_, by rw [br6 hn]; omega, fun k => qg kd sh sig t pub a hsig l1 ht l3 hp l2 la ha i hi2 k, fun k => sj kd sh sig t pub a hsig l1 ht l3 hp l2 la ha i hi2 k⟩
    ·refine ⟨[], by simp, fun k => ?_, fun k => ?_⟩
     ·rw [P.zk]; unfold P.uy
      rw [hs, jf, mo, qd kd, cu (by omega), jl kd, dx (by omega), toNat_cast, gq (sh1 i h (by omega) hi2)]
     ·rw [P.aaq]; unfold P.wu
      rw [mh, decide_eq_true kd.1, jf, mo, cu (by omega), cu (by omega), aau kd, cu (by omega), dx kd.d, kd.2, dx (by omega), toNat_cast, bjq _ (by omega), bg (by omega)]
   ·refine ⟨[], by simp, fun k => ?_, fun k => ?_⟩
    ·rw [P.zk]; unfold P.uy
     rw [hs, jf, mo, qd kd, gq (by omega)]
    ·rw [P.aaq]; unfold P.wu
     rw [mh, decide_eq_true kd.1, jf, mo, cu (by omega), cu (by omega), aau kd, gq (by omega)]
  ·refine ⟨[], by simp, fun k => ?_, fun k => ?_⟩
   ·rw [P.zk]; unfold P.uy
    rw [apj kd sh _ two 1 (by simp) (by simpa using l3), jf, ru]
   ·rw [P.aaq]; unfold P.wu
    rw [mh, decide_eq_true kd.1, jf, mo, cu (by omega), gq (by omega)]
 ·refine ⟨[], by simp, fun k => ?_, fun k => ?_⟩
  ·rw [P.zk]; unfold P.uy
   rw [apj kd sh _ two 0 (by simp) (by simpa using l2), jf, ru]
  ·rw [P.aaq]; unfold P.wu
   rw [mh, decide_eq_true kd.1, jf, mo, gq (by omega)]
theorem aa4 (N H D A K : Int) (sh : Bool) {ρ : Type} (k : Bool → Option ρ) : P.aa4 N H D A K sh k = k false ∨ (∃ n : Nat, N = (n : Int) ∧ ∃ h : Nat, Kd n H D A K h ∧ h ≤ 2 ∧ H ≤ 4 ∧ P.aa4 N H D A K sh k = k true) := by
 have e : P.aa4 N H D A K sh k = P.ahv N H D A K sh k := P.au3 ..
 rw [e]; unfold P.ahv
 rw [mh]
 by_cases hf : adz N H D A K
 ·obtain ⟨n, rfl⟩ : ∃ n : Nat, N = (n : Int) := ⟨N.toNat, by unfold adz at hf; omega⟩
  obtain ⟨h, kd⟩ := b6b hf
  rw [decide_eq_true hf, mo, buc, dx kd.d, kd.2]
  by_cases h4 : H ≤ 4
  ·rw [if_pos h4]
   by_cases hh : (h : Int) ≤ 2
   ·exact .inr ⟨n, rfl, h, kd, by omega, h4, by rw [decide_eq_true hh]⟩
   ·exact .inl (by rw [decide_eq_false hh])
  ·rw [if_neg h4]; exact .inl rfl
 ·rw [decide_eq_false hf, ru]; exact .inl rfl
end Q
end

section
/- The plain law of XmssGrows. -/
namespace Q
open QK
open Go Go.Abs
set_option linter.unusedVariables false
set_option linter.unusedSimpArgs false
theorem XmssGrows (x0_N : Int) (x0_H : Int) (x0_D : Int) (x0_A : Int) (x0_K : Int) (x0_Shake : Bool) (x1 : List Int) (x2 : List Int) (x3 : List Int) (x4 : List Int) (x5 : Int) (x6 : Int) (x7 : List Int) (wx0_N : wfI .i64 x0_N) (wx0_H : wfI .i64 x0_H) (wx0_D : wfI .i64 x0_D) (wx0_A : wfI .i64 x0_A) (wx0_K : wfI .i64 x0_K) (nx1 : x1.length = 32) (wx1 : ∀ x, x ∈ x1 → wfI .u8 x) (nx2 : x2.length ≤ 140737488355328) (wx2 : ∀ x, x ∈ x2 → wfI .u8 x) (nx3 : x3.length ≤ 140737488355328) (wx3 : ∀ x, x ∈ x3 → wfI .u8 x) (nx4 : x4.length ≤ 140737488355328) (wx4 : ∀ x, x ∈ x4 → wfI .u8 x) (wx5 : wfI .i64 x5) (wx6 : wfI .u64 x6) (nx7 : x7.length ≤ 140737488355328) (wx7 : ∀ x, x ∈ x7 → wfI .u8 x) {ρ : Type} (k : Bool → Option ρ) : P.y7 x0_N x0_H x0_D x0_A x0_K x0_Shake x1 x2 x3 x4 x5 x6 x7 k = k true := by
 have w5 := wf_i64 wx5
 have w6 := wf_u64 wx6
 obtain ⟨i, rfl⟩ : ∃ i : Nat, x6 = (i : Int) := ⟨x6.toNat, by omega⟩
 rw [P.al0]; unfold P.af8
 generalize hK : (fun (q0 : Bool) => br (!q0) (P.u6 fun (q1 : Bool) => k q1) _) = K
 rcases aa4 x0_N x0_H x0_D x0_A x0_K x0_Shake K with e | ⟨n, rfl, h, kd, h2, h4, e⟩
 ·rw [e, ← hK]
  dsimp only
  rw [jf, ru, u6]
 rw [e, ← hK]
 dsimp only
 rw [jf, mo]
 generalize hK2 : (fun (q0 : Bool) => br (!q0) (P.u6 fun (q1 : Bool) => k q1) _) = K2
 rcases ag9 [x2, x3, x4] (by simp) K2 with ⟨e2, hl⟩ | e2
 ·rw [e2, ← hK2]
  dsimp only
  rw [jf, mo]
  by_cases h7 : (x7.length : Int) > 3000
  ·rw [bg h7, u6]
  ·obtain ⟨a, la, a1, a2⟩ := brt kd x0_Shake x2 x3 x1 (axw wx2) (axw wx3) nx1 (axw wx1) x5 (by omega) i (by omega)
   obtain ⟨b, lb, b1, b2⟩ := brh kd x0_Shake x4 x2 x3 x1 (axw wx4) (axw wx2) (axw wx3) nx1 (axw wx1) i (by omega)
   obtain ⟨c, lc, c1, c2⟩ := bqm kd x0_Shake x7 x4 x3 x1 (axw wx7) (axw wx4) (axw wx3) nx1 (axw wx1) i (by omega)
   rw [dx h7, qd kd, aau kd, fq rfl, a1, a2, abr _ _ (by omega), decide_eq_true rfl, mo, b1, b2, abr _ _ (by omega), decide_eq_true rfl, mo, c1, c2, abr _ _ (by omega), decide_eq_true rfl, mo, u6]
 ·rw [e2, ← hK2]
  dsimp only
  rw [jf, ru, u6]
end Q
end
