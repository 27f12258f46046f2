/-
  XmssGrows, part 10: an interpreter of my own over abstract values, the pure functions, the walks and the plain law.
-/

import Derived.Test.YtjhnljhjpnjieaaGreatDoorXmssGrowsG
import Derived.Test.YtjhnljhjpnjieaaGreatDoorXmssGrowsI
import Derived.Test.YtjhnljhjpnjieaaGreatDoorXmssGrowsH

noncomputable section
open Go Go.Abs
set_option linter.unusedVariables false
namespace P

abbrev b4p (ρ : Type) := (List Int) → (List Int) → Int → Int → (List Int) → Int → Int → Int → Int → Int → Int → Bool → (List Int) → Option ρ
def ag4 {ρ : Type} (j l : List Int) (k c : Int) (m : List Int) (b a e d f g : Int) (h : Bool) (i : List Int) (nx n : b4p ρ) : Option ρ := br (decide (d = (0 : Int))) none (br (decide (b < IntKind.i64.wrap (e.tdiv d))) (br (decide ((0 : Int) ≤ IntKind.i64.wrap (c + IntKind.i64.wrap (a * b)))) (br (decide (IntKind.i64.wrap (c + IntKind.i64.wrap (a * b)) ≤ IntKind.i64.wrap (IntKind.i64.wrap (c + IntKind.i64.wrap (a * b)) + a))) (br (decide (IntKind.i64.wrap (IntKind.i64.wrap (c + IntKind.i64.wrap (a * b)) + a) ≤ (↑j.length : Int))) (br (decide (b < (0 : Int))) none (br ((k.fdiv ((2 : Int) ^ min b.toNat 64)).tmod (2 : Int) == (0 : Int)) (br (decide (IntKind.i64.wrap (b + (1 : Int)) < (0 : Int))) none (aat a e d f g h l i (IntKind.i64.wrap (b + (1 : Int))) (k.fdiv ((2 : Int) ^ min (IntKind.i64.wrap (b + (1 : Int))).toNat 64)) m (List.drop (IntKind.i64.wrap (c + IntKind.i64.wrap (a * b))).toNat (List.take (IntKind.i64.wrap (IntKind.i64.wrap (c + IntKind.i64.wrap (a * b)) + a)).toNat j)) fun o => nx j l k c o (IntKind.i64.wrap (b + (1 : Int))) a e d f g h i)) (br (decide (IntKind.i64.wrap (b + (1 : Int)) < (0 : Int))) none (aat a e d f g h l i (IntKind.i64.wrap (b + (1 : Int))) (k.fdiv ((2 : Int) ^ min (IntKind.i64.wrap (b + (1 : Int))).toNat 64)) (List.drop (IntKind.i64.wrap (c + IntKind.i64.wrap (a * b))).toNat (List.take (IntKind.i64.wrap (IntKind.i64.wrap (c + IntKind.i64.wrap (a * b)) + a)).toNat j)) m fun p => nx j l k c p (IntKind.i64.wrap (b + (1 : Int))) a e d f g h i)))) none) none) none) (n j l k c m b a e d f g h i))
abbrev bwv := (List Int) × (List Int) × Int × Int × (List Int) × Int × Int × Int × Int × Int × Int × Bool × (List Int)
abbrev b3z := bwv
def b1k {ρ : Type} (f : bwv → Option ρ) : b4p ρ := fun l m n i j k a b c d e g h => f (l, m, n, i, j, k, a, b, c, d, e, g, h)
def bu7 {ρ : Type} : adk bwv b3z ρ := fun (k, l, m, h, i, j, a, b, c, d, e, f, g) next ex => ag4 k l m h i j a b c d e f g (b1k next) (b1k ex)
def b7k {ρ : Type} := shut (lp (bu7 (ρ := ρ)))
theorem b9x {ρ : Type} : b7k (ρ := ρ) = lp bu7 := bq _
def bzd {ρ : Type} (f : adj bwv b3z ρ) (l m : List Int) (n i : Int) (j : List Int) (k a b c d e : Int) (g : Bool) (h : List Int) (o : b4p ρ) : Option ρ := f (l, m, n, i, j, k, a, b, c, d, e, g, h) (fun (l, m, n, i, j, k, a, b, c, d, e, g, h) => o l m n i j k a b c d e g h)
def alv {ρ : Type} := bzd (lp (bu7 (ρ := ρ)))
def al1 {ρ : Type} := bzd (b7k (ρ := ρ))
theorem ap7 {ρ : Type} : al1 (ρ := ρ) = alv := congrArg bzd b9x
def wu {ρ : Type} (a d c e f : Int) (b : Bool) (g j h l : List Int) (i : Int) (k : (List Int) → Option ρ) : Option ρ := mh a d c e f b fun m => br (!m) (k []) (br ((↑h.length : Int) != a) (k []) (br ((↑j.length : Int) != a) (k []) (aau a d c e f b fun n => br ((↑g.length : Int) != n) (k []) (br (decide (c = 0)) none (br (decide (IntKind.i64.wrap (d.tdiv c) < 0)) none (br (decide (i ≥ IntKind.u64.wrap (1 * 2 ^ min (IntKind.i64.wrap (d.tdiv c)).toNat 64))) (k []) (br (decide (0 ≤ IntKind.i64.wrap (a * IntKind.i64.wrap (IntKind.i64.wrap (2 * a) + 3)))) (br (decide (IntKind.i64.wrap (a * IntKind.i64.wrap (IntKind.i64.wrap (2 * a) + 3)) ≤ (↑g.length : Int))) (za l i fun o => uh a d c e f b (List.drop 0 (List.take (IntKind.i64.wrap (a * IntKind.i64.wrap (IntKind.i64.wrap (2 * a) + 3))).toNat g)) j h o fun p => al1 g h i (IntKind.i64.wrap (a * IntKind.i64.wrap (IntKind.i64.wrap (2 * a) + 3))) p 0 a d c e f b l fun z A B C q F r s t u v w y => k q) none) none)))))))
def sj {ρ : Type} := shut (wu (ρ := ρ))
theorem aaq {ρ : Type} (b : Int) (c : Int) (d : Int) (e : Int) (f : Int) (a : Bool) (g : List Int) (h : List Int) (i : List Int) (j : List Int) (l : Int) (k : (List Int) → Option ρ) : sj b c d e f a g h i j l k = wu b c d e f a g h i j l k := by unfold sj; rw [bq]

def af8 {ρ : Type} (b c d e f : Int) (a : Bool) (h j g l : List Int) (n i : Int) (m : List Int) (k : Bool → Option ρ) : Option ρ := aa4 b c d e f a fun v => br (!v) (u6 fun w => k w) (ag9 [j, g, l] fun y => br (!y) (u6 fun z => k z) (br (decide ((↑m.length : Int) > 3000)) (u6 fun A => k A) (qd b c d e f a fun B => aau b c d e f a fun C => br (B == C) (z8 b c d e f a j g h n i fun F => aaz b c d e f a j g h n i fun G => abr F G fun H => br H (abv b c d e f a l j g h i fun o => ad8 b c d e f a l j g h i fun p => abr o p fun q => br q (qg b c d e f a m l g h i fun r => sj b c d e f a m l g h i fun s => abr r s fun t => br t (u6 fun u => k u) (k false)) (k false)) (k false)) (k false))))
def y7 {ρ : Type} := shut (af8 (ρ := ρ))
theorem al0 {ρ : Type} (b : Int) (c : Int) (d : Int) (e : Int) (f : Int) (a : Bool) (g : List Int) (h : List Int) (i : List Int) (j : List Int) (l : Int) (m : Int) (n : List Int) (k : Bool → Option ρ) : y7 b c d e f a g h i j l m n k = af8 b c d e f a g h i j l m n k := by unfold y7; rw [bq]

end P
end
