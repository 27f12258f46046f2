/-
  LeaseOnce, part 9: an interpreter of my own over abstract values, the pure functions, the walks and the plain law.
-/

import Derived.Test.YtkfjafaabbmapaaDoorLeaseOnceH

noncomputable section
open Go Go.Abs
set_option linter.unusedVariables false
namespace P

abbrev zc1 (ρ : Type) := Nat → (List Int) → (List Int) → (List (List Int)) → Int → Int → Option ρ
def aff {ρ : Type} (c : Nat) (d e : List Int) (b : List (List Int)) (f a : Int) (nx g : zc1 ρ) (h : Bool → Int → Int → (List Int) → Int → Int → Option ρ) : Option ρ := br (decide (a < f)) (br (decide (0 ≤ a)) (br (decide (a < (↑c : Int))) (br (decide ((↑(b.getD a.toNat []).length : Int) > 300)) (h false (d.getD a.toNat 0) (e.getD a.toNat 0) (b.getD a.toNat []) 0 0) (nx c d e b f (IntKind.i64.wrap (a + 1)))) none) none) (g c d e b f a)
abbrev zt1 := Nat × (List Int) × (List Int) × (List (List Int)) × Int × Int
abbrev zy1 := (Nat × (List Int) × (List Int) × (List (List Int)) × Int × Int) ⊕ (Bool × Int × Int × (List Int) × Int × Int)
def zu1 {ρ : Type} (f : zt1 → Option ρ) : zc1 ρ := fun a b c d e g => f (a, b, c, d, e, g)
def zs1 {ρ : Type} : ag9 zt1 zy1 ρ := fun (a, b, c, d, e, f) next ex => aff a b c d e f (zu1 next) (fun a b c d e f => ex (.inl (a, b, c, d, e, f))) (fun l i j k g h => ex (.inr (l, i, j, k, g, h)))
def zm1 {ρ : Type} := shut (lp (zs1 (ρ := ρ)))
theorem ze1 {ρ : Type} : zm1 (ρ := ρ) = lp zs1 := dw _
def zk1 {ρ : Type} (f : agy zt1 zy1 ρ) (a : Nat) (b c : List Int) (d : List (List Int)) (e g : Int) (h : zc1 ρ) (i : Bool → Int → Int → (List Int) → Int → Int → Option ρ) : Option ρ := f (a, b, c, d, e, g) (Sum.elim (fun (a, b, c, d, e, g) => h a b c d e g) (fun (a, b, c, d, e, g) => i a b c d e g))
def akw {ρ : Type} := zk1 (lp (zs1 (ρ := ρ)))
def ap5 {ρ : Type} := zk1 (zm1 (ρ := ρ))
theorem ajg {ρ : Type} : ap5 (ρ := ρ) = akw := congrArg zk1 ze1
def abe {ρ : Type} (b c : List Int) (a : Nat) (d e : List Int) (f : List (List Int)) (k : Bool → Option ρ) : Option ρ := br (decide ((↑a : Int) > 60)) (k false) (br (decide ((↑b.length : Int) > 300)) (k false) (br (decide ((↑c.length : Int) > 300)) (k false) (ap5 a d e f (↑a : Int) 0 (fun j l m n o p => k true) fun g q r s h i => k g)))
def afs {ρ : Type} := shut (abe (ρ := ρ))
theorem adv {ρ : Type} (a : List Int) (b : List Int) (c : Nat) (d : List Int) (e : List Int) (f : List (List Int)) (k : Bool → Option ρ) : afs a b c d e f k = abe a b c d e f k := by unfold afs; rw [dw]

def aj1 {ρ : Type} (a : Int) (k : (List Int) → Bool → Option ρ) : Option ρ := br (a == 1) (k [1779033703, 3144134277, 1013904242, 2773480762, 1359893119, 2600822924, 528734635, 1541459225] true) (br (a == 2) (k [14680500436340154072, 7105036623409894663, 10473403895298186519, 1526699215303891257, 7436329637833083697, 10282925794625328401, 15784041429090275239, 5167115440072839076] true) (br (a == 3) (k [7640891576956012808, 13503953896175478587, 4354685564936845355, 11912009170470909681, 5840696475078001361, 11170449401992604703, 2270897969802886507, 6620516959819538809] true) (k [0, 0, 0, 0, 0, 0, 0, 0] false)))
def abv {ρ : Type} := shut (aj1 (ρ := ρ))
theorem alz {ρ : Type} (a : Int) (k : (List Int) → Bool → Option ρ) : abv a k = aj1 a k := by unfold abv; rw [dw]

def ajb {ρ : Type} (a : Int) (k : Int → (List Int) → (List Int) → Int → Int → Option ρ) : Option ρ := abv a fun b c => br (!c) (k 0 [0, 0, 0, 0, 0, 0, 0, 0] [] 0 9) (k a b [] 0 0)
def aea {ρ : Type} := shut (ajb (ρ := ρ))
theorem aqj {ρ : Type} (a : Int) (k : Int → (List Int) → (List Int) → Int → Int → Option ρ) : aea a k = ajb a k := by unfold aea; rw [dw]

abbrev zc2 (ρ : Type) := Int → Int → Int → (List Int) → Option ρ
def ak4 {ρ : Type} (c b a : Int) (d : List Int) (nx e : zc2 ρ) : Option ρ := br (decide (a < b)) (br (decide (IntKind.i64.wrap (8 * a) < 0)) none (br (decide (0 ≤ a)) (br (decide (a < (↑d.length : Int))) (nx c b (IntKind.i64.wrap (a + 1)) (d.set a.toNat (IntKind.u8.wrap (c.fdiv (2 ^ min (IntKind.i64.wrap (8 * a)).toNat 64))))) none) none)) (e c b a d)
abbrev zt2 := Int × Int × Int × (List Int)
abbrev zy2 := zt2
def zu2 {ρ : Type} (f : zt2 → Option ρ) : zc2 ρ := fun c a b d => f (c, a, b, d)
def zs2 {ρ : Type} : ag9 zt2 zy2 ρ := fun (c, a, b, d) next ex => ak4 c a b d (zu2 next) (zu2 ex)
def zm2 {ρ : Type} := shut (lp (zs2 (ρ := ρ)))
theorem ze2 {ρ : Type} : zm2 (ρ := ρ) = lp zs2 := dw _
def zk2 {ρ : Type} (f : agy zt2 zy2 ρ) (c a b : Int) (d : List Int) (e : zc2 ρ) : Option ρ := f (c, a, b, d) (fun (c, a, b, d) => e c a b d)
def aqp {ρ : Type} := zk2 (lp (zs2 (ρ := ρ)))
def aq1 {ρ : Type} := zk2 (zm2 (ρ := ρ))
theorem ar7 {ρ : Type} : aq1 (ρ := ρ) = aqp := congrArg zk2 ze2
def aii {ρ : Type} (b a : Int) (k : (List Int) → Option ρ) : Option ρ := br (decide (a < 0)) (k []) (br (decide (a > 65536)) (k []) (br (decide (0 ≤ a)) (br (decide (a ≤ a)) (br (decide (a * (↑1 : Int) ≤ (↑140737488355328 : Int))) (aq1 b (bif decide (8 < a) then 8 else a) 0 (List.replicate a.toNat (0 : Int)) fun d e f c => k c) none) none) none))
def ace {ρ : Type} := shut (aii (ρ := ρ))
theorem apz {ρ : Type} (a : Int) (b : Int) (k : (List Int) → Option ρ) : ace a b k = aii a b k := by unfold ace; rw [dw]

abbrev zc3 (ρ : Type) := Int → Int → (List Int) → Option ρ
def ahj {ρ : Type} (a b : Int) (c : List Int) (nx d : zc3 ρ) : Option ρ := br (decide (a < b)) (br (decide (0 ≤ b)) (br (decide (b < (↑c.length : Int))) (br (decide (0 ≤ a)) (br (decide (a < (↑c.length : Int))) (br (decide (0 ≤ a)) (br (decide (a < (↑c.length : Int))) (br (decide (0 ≤ b)) (br (decide (b < (↑(c.set a.toNat (c.getD b.toNat 0)).length : Int))) (nx (IntKind.i64.wrap (a + 1)) (IntKind.i64.wrap (b - 1)) ((c.set a.toNat (c.getD b.toNat 0)).set b.toNat (c.getD a.toNat 0))) none) none) none) none) none) none) none) none) (d a b c)
abbrev zt3 := Int × Int × (List Int)
abbrev zy3 := zt3
def zu3 {ρ : Type} (f : zt3 → Option ρ) : zc3 ρ := fun a b c => f (a, b, c)
def zs3 {ρ : Type} : ag9 zt3 zy3 ρ := fun (a, b, c) next ex => ahj a b c (zu3 next) (zu3 ex)
def zm3 {ρ : Type} := shut (lp (zs3 (ρ := ρ)))
theorem ze3 {ρ : Type} : zm3 (ρ := ρ) = lp zs3 := dw _
def zk3 {ρ : Type} (f : agy zt3 zy3 ρ) (a b : Int) (c : List Int) (d : zc3 ρ) : Option ρ := f (a, b, c) (fun (a, b, c) => d a b c)
def alv {ρ : Type} := zk3 (lp (zs3 (ρ := ρ)))
def al0 {ρ : Type} := zk3 (zm3 (ρ := ρ))
theorem ao2 {ρ : Type} : al0 (ρ := ρ) = alv := congrArg zk3 ze3
def aij {ρ : Type} (b c : Int) (k : (List Int) → Option ρ) : Option ρ := ace b c fun a => al0 0 (IntKind.i64.wrap ((↑a.length : Int) - 1)) a fun e f d => k d
def xk {ρ : Type} := shut (aij (ρ := ρ))
theorem aq4 {ρ : Type} (a : Int) (b : Int) (k : (List Int) → Option ρ) : xk a b k = aij a b k := by unfold xk; rw [dw]

def fq {ρ : Type} (a : List Int) (k : (List Int) → Option ρ) : Option ρ := br (decide (a.length * 1 ≤ 140737488355328)) (k a) none

def aa5 {ρ : Type} (a : Int) (k : (List Int) → Option ρ) : Option ρ := br (decide (a < 0)) none (br (decide (IntKind.i64.wrap (a - IntKind.i64.wrap (0 - (↑0 : Int))) > 0)) (br (decide (0 ≤ IntKind.i64.wrap (a - IntKind.i64.wrap (0 - (↑0 : Int))))) (br (decide ((IntKind.i64.wrap (a - IntKind.i64.wrap (0 - (↑0 : Int)))).toNat * 1 ≤ 140737488355328)) (k (List.take ((↑0 : Int) - (0 : Int)).toNat (List.replicate (IntKind.i64.wrap (a - IntKind.i64.wrap (0 - (↑0 : Int)))).toNat (0 : Int)))) none) none) (k []))
def l5 {ρ : Type} := shut (aa5 (ρ := ρ))
theorem ad2 {ρ : Type} (a : Int) (k : (List Int) → Option ρ) : l5 a k = aa5 a k := by unfold l5; rw [dw]

abbrev zc4 (ρ : Type) := (List (List Int)) → Int → (List (List Int)) → Int → Int → Option ρ
def zq {ρ : Type} (e : List (List Int)) (d : Int) (b : List (List Int)) (c a : Int) (nx f : zc4 ρ) : Option ρ := br (decide (a < c)) (br (decide (0 ≤ a)) (br (decide (a < (↑b.length : Int))) (br (decide (IntKind.i64.wrap (d + (↑(b.getD a.toNat []).length : Int)) < 0)) none (nx e (IntKind.i64.wrap (d + (↑(b.getD a.toNat []).length : Int))) b c (IntKind.i64.wrap (a + 1)))) none) none) (f e d b c a)
abbrev zt4 := (List (List Int)) × Int × (List (List Int)) × Int × Int
abbrev zy4 := zt4
def zu4 {ρ : Type} (f : zt4 → Option ρ) : zc4 ρ := fun c d e a b => f (c, d, e, a, b)
def zs4 {ρ : Type} : ag9 zt4 zy4 ρ := fun (c, d, e, a, b) next ex => zq c d e a b (zu4 next) (zu4 ex)
def zm4 {ρ : Type} := shut (lp (zs4 (ρ := ρ)))
theorem ze4 {ρ : Type} : zm4 (ρ := ρ) = lp zs4 := dw _
def zk4 {ρ : Type} (f : agy zt4 zy4 ρ) (c : List (List Int)) (d : Int) (e : List (List Int)) (a b : Int) (g : zc4 ρ) : Option ρ := f (c, d, e, a, b) (fun (c, d, e, a, b) => g c d e a b)
def acz {ρ : Type} := zk4 (lp (zs4 (ρ := ρ)))
def ac1 {ρ : Type} := zk4 (zm4 (ρ := ρ))
theorem afm {ρ : Type} : ac1 (ρ := ρ) = acz := congrArg zk4 ze4
abbrev zc5 (ρ : Type) := (List (List Int)) → Int → Int → (List Int) → Option ρ
def yx {ρ : Type} (b : List (List Int)) (c a : Int) (d : List Int) (nx e : zc5 ρ) : Option ρ := br (decide (a < c)) (br (decide (0 ≤ a)) (br (decide (a < (↑b.length : Int))) (br (decide ((d.length + (b.getD a.toNat []).length) * 1 ≤ 140737488355328)) (nx b c (IntKind.i64.wrap (a + 1)) (d ++ b.getD a.toNat [])) none) none) none) (e b c a d)
abbrev zt5 := (List (List Int)) × Int × Int × (List Int)
abbrev zy5 := zt5
def zu5 {ρ : Type} (f : zt5 → Option ρ) : zc5 ρ := fun a b c d => f (a, b, c, d)
def zs5 {ρ : Type} : ag9 zt5 zy5 ρ := fun (a, b, c, d) next ex => yx a b c d (zu5 next) (zu5 ex)
def zm5 {ρ : Type} := shut (lp (zs5 (ρ := ρ)))
theorem ze5 {ρ : Type} : zm5 (ρ := ρ) = lp zs5 := dw _
def zk5 {ρ : Type} (f : agy zt5 zy5 ρ) (a : List (List Int)) (b c : Int) (d : List Int) (e : zc5 ρ) : Option ρ := f (a, b, c, d) (fun (a, b, c, d) => e a b c d)
def ab0 {ρ : Type} := zk5 (lp (zs5 (ρ := ρ)))
def ab3 {ρ : Type} := zk5 (zm5 (ρ := ρ))
theorem ae7 {ρ : Type} : ab3 (ρ := ρ) = ab0 := congrArg zk5 ze5
def zf {ρ : Type} (a : List (List Int)) (k : (List Int) → Option ρ) : Option ρ := ac1 a 0 a (↑a.length : Int) 0 fun b c f g h => l5 c fun d => ab3 b (↑b.length : Int) 0 d fun i j l e => k e
def jc {ρ : Type} := shut (zf (ρ := ρ))
theorem acw {ρ : Type} (a : List (List Int)) (k : (List Int) → Option ρ) : jc a k = zf a k := by unfold jc; rw [dw]

abbrev zc6 (ρ : Type) := Int → (List Int) → Int → Int → Option ρ
def aik {ρ : Type} (d : Int) (b : List Int) (c a : Int) (nx e : zc6 ρ) : Option ρ := br (decide (a < c)) (br (decide (0 ≤ a)) (br (decide (a < (↑b.length : Int))) (nx (bits BinOp.or IntKind.u64 (IntKind.u64.wrap (d * 2 ^ 8)) (IntKind.u64.wrap (b.getD a.toNat 0))) b c (IntKind.i64.wrap (a + 1))) none) none) (e d b c a)
abbrev zt6 := Int × (List Int) × Int × Int
abbrev zy6 := zt6
def zu6 {ρ : Type} (f : zt6 → Option ρ) : zc6 ρ := fun a b c d => f (a, b, c, d)
def zs6 {ρ : Type} : ag9 zt6 zy6 ρ := fun (a, b, c, d) next ex => aik a b c d (zu6 next) (zu6 ex)
def zm6 {ρ : Type} := shut (lp (zs6 (ρ := ρ)))
theorem ze6 {ρ : Type} : zm6 (ρ := ρ) = lp zs6 := dw _
def zk6 {ρ : Type} (f : agy zt6 zy6 ρ) (a : Int) (b : List Int) (c d : Int) (e : zc6 ρ) : Option ρ := f (a, b, c, d) (fun (a, b, c, d) => e a b c d)
def an9 {ρ : Type} := zk6 (lp (zs6 (ρ := ρ)))
def am9 {ρ : Type} := zk6 (zm6 (ρ := ρ))
theorem apg {ρ : Type} : am9 (ρ := ρ) = an9 := congrArg zk6 ze6
def ahk {ρ : Type} (a : List Int) (k : Int → Option ρ) : Option ρ := am9 0 a (↑a.length : Int) 0 fun b c d e => k b
def pq {ρ : Type} := shut (ahk (ρ := ρ))
theorem aow {ρ : Type} (a : List Int) (k : Int → Option ρ) : pq a k = ahk a k := by unfold pq; rw [dw]

end P
end
