/-
  HssRight, part 11: an interpreter of my own over abstract values, the pure functions, the walks and the plain law.
-/

import Derived.Test.YtmipokjdajiimaaDoorHssRightH
import Derived.Test.YtmipokjdajiimaaDoorHssRightJ
import Derived.Test.YtmipokjdajiimaaDoorHssRightI

noncomputable section
open Go Go.Abs
set_option linter.unusedVariables false
namespace P

def aga {ρ : Type} (a : Int) (k : Int → Option ρ) : Option ρ := br (decide (0 ≤ a)) (br (decide (a < (↑64 : Int))) (k (roots256.getD a.toNat 0)) none) none
def ng {ρ : Type} := shut (aga (ρ := ρ))
theorem am3 {ρ : Type} (a : Int) (k : Int → Option ρ) : ng a k = aga a k := by unfold ng; rw [av]

def wh {ρ : Type} (a g : Int) (b c d e : List Int) (h f : Int) (k : Int → Option ρ) : Option ρ := br (decide (f < 0)) none (br (decide (IntKind.i64.wrap (a - f) < 0)) none (k (bits BinOp.or IntKind.u32 (h.fdiv (2 ^ min f.toNat 32)) (IntKind.u32.wrap (h * 2 ^ min (IntKind.i64.wrap (a - f)).toNat 32)))))
def ay {ρ : Type} := shut (wh (ρ := ρ))
theorem abb {ρ : Type} (f : Int) (e : Int) (a : List Int) (b : List Int) (c : List Int) (d : List Int) (g : Int) (h : Int) (k : Int → Option ρ) : ay f e a b c d g h k = wh f e a b c d g h k := by unfold ay; rw [av]

def uh {ρ : Type} (f e : Int) (a b c d : List Int) (g h : Int) (k : Int → Option ρ) : Option ρ := br (decide (h = (↑0 : Int))) (ay f e a b c d g (a.getD 0 0) fun l => ay f e a b c d g (a.getD 1 0) fun m => ay f e a b c d g (a.getD 2 0) fun n => k (bits BinOp.xor IntKind.u32 (bits BinOp.xor IntKind.u32 l m) n)) (br (decide (h = (↑1 : Int))) (ay f e a b c d g (b.getD 0 0) fun o => ay f e a b c d g (b.getD 1 0) fun p => ay f e a b c d g (b.getD 2 0) fun q => k (bits BinOp.xor IntKind.u32 (bits BinOp.xor IntKind.u32 o p) q)) (br (decide (h = (↑2 : Int))) (ay f e a b c d g (c.getD 0 0) fun r => ay f e a b c d g (c.getD 1 0) fun s => ay f e a b c d g (c.getD 2 0) fun t => k (bits BinOp.xor IntKind.u32 (bits BinOp.xor IntKind.u32 r s) t)) (br (decide (h = (↑3 : Int))) (ay f e a b c d g (d.getD 0 0) fun u => ay f e a b c d g (d.getD 1 0) fun i => ay f e a b c d g (d.getD 2 0) fun j => k (bits BinOp.xor IntKind.u32 (bits BinOp.xor IntKind.u32 u i) j)) none)))
def jd {ρ : Type} := shut (uh (ρ := ρ))
theorem zk {ρ : Type} (f : Int) (e : Int) (a : List Int) (b : List Int) (c : List Int) (d : List Int) (g : Int) (h : Int) (k : Int → Option ρ) : jd f e a b c d g h k = uh f e a b c d g h k := by unfold jd; rw [av]

def u6 {ρ : Type} (f e : Int) (a b c d : List Int) (g h : Int) (k : Int → Option ρ) : Option ρ := br (decide (h = (↑0 : Int))) (ay f e a b c d g (a.getD 0 (0 : Int)) fun i => ay f e a b c d g (a.getD 1 (0 : Int)) fun j => br (decide (a.getD 2 (0 : Int) < (0 : Int))) none (k (bits BinOp.xor IntKind.u32 (bits BinOp.xor IntKind.u32 i j) (g.fdiv ((2 : Int) ^ min (a.getD 2 (0 : Int)).toNat 32))))) (br (decide (h = (↑1 : Int))) (ay f e a b c d g (b.getD 0 (0 : Int)) fun l => ay f e a b c d g (b.getD 1 (0 : Int)) fun m => br (decide (b.getD 2 (0 : Int) < (0 : Int))) none (k (bits BinOp.xor IntKind.u32 (bits BinOp.xor IntKind.u32 l m) (g.fdiv ((2 : Int) ^ min (b.getD 2 (0 : Int)).toNat 32))))) (br (decide (h = (↑2 : Int))) (ay f e a b c d g (c.getD 0 (0 : Int)) fun n => ay f e a b c d g (c.getD 1 (0 : Int)) fun o => br (decide (c.getD 2 (0 : Int) < (0 : Int))) none (k (bits BinOp.xor IntKind.u32 (bits BinOp.xor IntKind.u32 n o) (g.fdiv ((2 : Int) ^ min (c.getD 2 (0 : Int)).toNat 32))))) (br (decide (h = (↑3 : Int))) (ay f e a b c d g (d.getD 0 (0 : Int)) fun p => ay f e a b c d g (d.getD 1 (0 : Int)) fun q => br (decide (d.getD 2 (0 : Int) < (0 : Int))) none (k (bits BinOp.xor IntKind.u32 (bits BinOp.xor IntKind.u32 p q) (g.fdiv ((2 : Int) ^ min (d.getD 2 (0 : Int)).toNat 32))))) none)))
def jl {ρ : Type} := shut (u6 (ρ := ρ))
theorem zw {ρ : Type} (f : Int) (e : Int) (a : List Int) (b : List Int) (c : List Int) (d : List Int) (g : Int) (h : Int) (k : Int → Option ρ) : jl f e a b c d g h k = u6 f e a b c d g h k := by unfold jl; rw [av]

abbrev b0m (ρ : Type) := (List Int) → Int → Int → Int → Int → (List Int) → (List Int) → (List Int) → (List Int) → (List Int) → (List Int) → (List Int) → Option ρ
def yu {ρ : Type} (l : List Int) (b a c d : Int) (e f g h i j k : List Int) (nx m : b0m ρ) : Option ρ := br (decide (a < 16)) (br (decide (0 ≤ IntKind.i64.wrap (a * b))) (br (decide (IntKind.i64.wrap (a * b) ≤ IntKind.i64.wrap (IntKind.i64.wrap (a + 1) * b))) (br (decide (IntKind.i64.wrap (IntKind.i64.wrap (a + 1) * b) ≤ (↑l.length : Int))) (jh (List.drop (IntKind.i64.wrap (a * b)).toNat (List.take (IntKind.i64.wrap (IntKind.i64.wrap (a + 1) * b)).toNat l)) fun n => br (decide (0 ≤ a)) (br (decide (a < (↑16 : Int))) (nx l b (IntKind.i64.wrap (a + 1)) c d e f g h i j (k.set a.toNat (IntKind.u32.wrap n))) none) none) none) none) none) (m l b a c d e f g h i j k)
abbrev bwt := (List Int) × Int × Int × Int × Int × (List Int) × (List Int) × (List Int) × (List Int) × (List Int) × (List Int) × (List Int)
abbrev b07 := bwt
def b2d {ρ : Type} (f : bwt → Option ρ) : b0m ρ := fun l m k a b c d e g h i j => f (l, m, k, a, b, c, d, e, g, h, i, j)
def bvi {ρ : Type} : adw bwt b07 ρ := fun (k, l, j, a, b, c, d, e, f, g, h, i) next ex => yu k l j a b c d e f g h i (b2d next) (b2d ex)
def b4w {ρ : Type} := shut (lp (bvi (ρ := ρ)))
theorem b7e {ρ : Type} : b4w (ρ := ρ) = lp bvi := av _
def bzd {ρ : Type} (f : adx bwt b07 ρ) (l : List Int) (m k a b : Int) (c d e g h i j : List Int) (n : b0m ρ) : Option ρ := f (l, m, k, a, b, c, d, e, g, h, i, j) (fun (l, m, k, a, b, c, d, e, g, h, i, j) => n l m k a b c d e g h i j)
def ab7 {ρ : Type} := bzd (lp (bvi (ρ := ρ)))
def yh {ρ : Type} := bzd (b4w (ρ := ρ))
theorem afi {ρ : Type} : yh (ρ := ρ) = ab7 := congrArg bzd b7e
abbrev b0l (ρ : Type) := Int → Int → (List Int) → (List Int) → (List Int) → Int → Int → (List Int) → (List Int) → (List Int) → (List Int) → (List Int) → Option ρ
def yc {ρ : Type} (j b : Int) (c k l : List Int) (d e : Int) (f g h i a : List Int) (nx o : b0l ρ) : Option ρ := br (decide (b < j)) (br (decide (0 ≤ b.tmod 16)) (br (decide (b.tmod 16 < (↑16 : Int))) (jd d e f g h i (a.getD 4 0) 3 fun m => ng b fun n => jd d e f g h i (a.getD 0 0) 2 fun p => br (decide (0 ≤ (IntKind.i64.wrap (b + 1)).tmod 16)) (br (decide ((IntKind.i64.wrap (b + 1)).tmod 16 < (↑16 : Int))) (jl d e f g h i (c.getD ((IntKind.i64.wrap (b + 1)).tmod 16).toNat 0) 0 fun q => br (decide (0 ≤ (IntKind.i64.wrap (b + 9)).tmod 16)) (br (decide ((IntKind.i64.wrap (b + 9)).tmod 16 < (↑16 : Int))) (br (decide (0 ≤ (IntKind.i64.wrap (b + 14)).tmod 16)) (br (decide ((IntKind.i64.wrap (b + 14)).tmod 16 < (↑16 : Int))) (jl d e f g h i (c.getD ((IntKind.i64.wrap (b + 14)).tmod 16).toNat 0) 1 fun r => br (decide (0 ≤ b.tmod 16)) (br (decide (b.tmod 16 < (↑16 : Int))) (nx j (IntKind.i64.wrap (b + 1)) (c.set (b.tmod 16).toNat (IntKind.u32.wrap (IntKind.u32.wrap (IntKind.u32.wrap (c.getD (b.tmod 16).toNat 0 + q) + c.getD ((IntKind.i64.wrap (b + 9)).tmod 16).toNat 0) + r))) k l d e f g h i ((((List.take 1 a).append (List.take 7 (List.take 7 (List.drop 0 a)) ++ List.drop (1 + min 7 (List.take 7 (List.drop 0 a)).length) a)).set 4 (IntKind.u32.wrap (((List.take 1 a).append (List.take 7 (List.take 7 (List.drop 0 a)) ++ List.drop (1 + min 7 (List.take 7 (List.drop 0 a)).length) a)).getD 4 0 + IntKind.u32.wrap (IntKind.u32.wrap (IntKind.u32.wrap (IntKind.u32.wrap (a.getD 7 0 + m) + bits BinOp.xor IntKind.u32 (a.getD 6 0) (bits BinOp.and IntKind.u32 (a.getD 4 0) (bits BinOp.xor IntKind.u32 (a.getD 5 0) (a.getD 6 0)))) + n) + c.getD (b.tmod 16).toNat 0)))).set 0 (IntKind.u32.wrap (IntKind.u32.wrap (IntKind.u32.wrap (IntKind.u32.wrap (IntKind.u32.wrap (a.getD 7 0 + m) + bits BinOp.xor IntKind.u32 (a.getD 6 0) (bits BinOp.and IntKind.u32 (a.getD 4 0) (bits BinOp.xor IntKind.u32 (a.getD 5 0) (a.getD 6 0)))) + n) + c.getD (b.tmod 16).toNat 0) + IntKind.u32.wrap (p + bits BinOp.or IntKind.u32 (bits BinOp.and IntKind.u32 (a.getD 0 0) (a.getD 1 0)) (bits BinOp.and IntKind.u32 (a.getD 2 0) (bits BinOp.or IntKind.u32 (a.getD 0 0) (a.getD 1 0)))))))) none) none) none) none) none) none) none) none) none) none) (o j b c k l d e f g h i a)
abbrev buk := Int × Int × (List Int) × (List Int) × (List Int) × Int × Int × (List Int) × (List Int) × (List Int) × (List Int) × (List Int)
abbrev b0h := buk
def b3c {ρ : Type} (f : buk → Option ρ) : b0l ρ := fun l m a b c d e g h i j k => f (l, m, a, b, c, d, e, g, h, i, j, k)
def zs12 {ρ : Type} : adw buk b0h ρ := fun (k, l, a, b, c, d, e, f, g, h, i, j) next ex => yc k l a b c d e f g h i j (b3c next) (b3c ex)
def bz9 {ρ : Type} := shut (lp (zs12 (ρ := ρ)))
theorem b5f {ρ : Type} : bz9 (ρ := ρ) = lp zs12 := av _
def bx7 {ρ : Type} (f : adx buk b0h ρ) (l m : Int) (a b c : List Int) (d e : Int) (g h i j k : List Int) (n : b0l ρ) : Option ρ := f (l, m, a, b, c, d, e, g, h, i, j, k) (fun (l, m, a, b, c, d, e, g, h, i, j, k) => n l m a b c d e g h i j k)
def abm {ρ : Type} := bx7 (lp (zs12 (ρ := ρ)))
def sj {ρ : Type} := bx7 (bz9 (ρ := ρ))
theorem ae2 {ρ : Type} : sj (ρ := ρ) = abm := congrArg bx7 b5f
abbrev b0i (ρ : Type) := Int → (List Int) → (List Int) → (List Int) → Option ρ
def xg {ρ : Type} (a : Int) (b d c : List Int) (nx e : b0i ρ) : Option ρ := br (decide (a < 8)) (br (decide (0 ≤ a)) (br (decide (a < (↑8 : Int))) (br (decide (0 ≤ a)) (br (decide (a < (↑8 : Int))) (br (decide (0 ≤ a)) (br (decide (a < (↑8 : Int))) (nx (IntKind.i64.wrap (a + 1)) b d (c.set a.toNat (IntKind.u32.wrap (c.getD a.toNat 0 + b.getD a.toNat 0)))) none) none) none) none) none) none) (e a b d c)
abbrev buc := Int × (List Int) × (List Int) × (List Int)
abbrev b1p := buc
def b2h {ρ : Type} (f : buc → Option ρ) : b0i ρ := fun a b c d => f (a, b, c, d)
def bul {ρ : Type} : adw buc b1p ρ := fun (a, b, c, d) next ex => xg a b c d (b2h next) (b2h ex)
def b3t {ρ : Type} := shut (lp (bul (ρ := ρ)))
theorem b5n {ρ : Type} : b3t (ρ := ρ) = lp bul := av _
def by0 {ρ : Type} (f : adx buc b1p ρ) (a : Int) (b c d : List Int) (e : b0i ρ) : Option ρ := f (a, b, c, d) (fun (a, b, c, d) => e a b c d)
def abw {ρ : Type} := by0 (lp (bul (ρ := ρ)))
def sw {ρ : Type} := by0 (b3t (ρ := ρ))
theorem ae4 {ρ : Type} : sw (ρ := ρ) = abw := congrArg by0 b5n
def w9 {ρ : Type} (a f : Int) (b c d e p q : List Int) (k : (List Int) → Option ρ) : Option ρ := yh q (IntKind.i64.wrap (a.tdiv 8)) 0 a f b c d e p [0, 0, 0, 0, 0, 0, 0, 0] [0, 0, 0, 0, 0, 0, 0, 0, 0, 0, 0, 0, 0, 0, 0, 0] fun N O Q r g s t u v h i j => sj g 0 j i h r g s t u v h fun w y z l m A B C F G H n => sw 0 m l n fun I J M o => k o
def j6 {ρ : Type} := shut (w9 (ρ := ρ))
theorem ab8 {ρ : Type} (f : Int) (e : Int) (a : List Int) (b : List Int) (c : List Int) (d : List Int) (g : List Int) (h : List Int) (k : (List Int) → Option ρ) : j6 f e a b c d g h k = w9 f e a b c d g h k := by unfold j6; rw [av]

abbrev bz7 (ρ : Type) := (List Int) → (List Int) → Int → Int → Int → (List Int) → (List Int) → (List Int) → (List Int) → (List Int) → (List Int) → (List Int) → Option ρ
def abt {ρ : Type} (l b : List Int) (a c d : Int) (e f g h i j k : List Int) (nx m : bz7 ρ) : Option ρ := br (decide (a < 8)) (br (decide (0 ≤ a)) (br (decide (a < (↑8 : Int))) (br (decide (0 ≤ a)) (br (decide (a < (↑8 : Int))) (nx l b (IntKind.i64.wrap (a + 1)) c d e f g h i j (k.set a.toNat (IntKind.u32.wrap (b.getD a.toNat 0)))) none) none) none) none) (m l b a c d e f g h i j k)
abbrev bwv := (List Int) × (List Int) × Int × Int × Int × (List Int) × (List Int) × (List Int) × (List Int) × (List Int) × (List Int) × (List Int)
abbrev b0w := bwv
def b3q {ρ : Type} (f : bwv → Option ρ) : bz7 ρ := fun m k l a b c d e g h i j => f (m, k, l, a, b, c, d, e, g, h, i, j)
def bui {ρ : Type} : adw bwv b0w ρ := fun (l, j, k, a, b, c, d, e, f, g, h, i) next ex => abt l j k a b c d e f g h i (b3q next) (b3q ex)
def b1k {ρ : Type} := shut (lp (bui (ρ := ρ)))
theorem b6v {ρ : Type} : b1k (ρ := ρ) = lp bui := av _
def bxe {ρ : Type} (f : adx bwv b0w ρ) (m k : List Int) (l a b : Int) (c d e g h i j : List Int) (n : bz7 ρ) : Option ρ := f (m, k, l, a, b, c, d, e, g, h, i, j) (fun (m, k, l, a, b, c, d, e, g, h, i, j) => n m k l a b c d e g h i j)
def aey {ρ : Type} := bxe (lp (bui (ρ := ρ)))
def abe {ρ : Type} := bxe (b1k (ρ := ρ))
theorem aio {ρ : Type} : abe (ρ := ρ) = aey := congrArg bxe b6v
abbrev b3n (ρ : Type) := (List Int) → Int → (List Int) → (List Int) → (List Int) → Int → Int → (List Int) → (List Int) → (List Int) → (List Int) → Option ρ
def abv {ρ : Type} (b : List Int) (a : Int) (i j k : List Int) (c d : Int) (e f g h : List Int) (nx l : b3n ρ) : Option ρ := br (decide ((↑b.length : Int) ≥ a)) (br (decide (0 ≤ a)) (br (decide (a ≤ (↑b.length : Int))) (j6 c d e f g h i (List.drop 0 (List.take a.toNat b)) fun m => br (decide (0 ≤ a)) (br (decide (a ≤ (↑b.length : Int))) (br (decide ((↑b.length : Int) ≤ (↑b.length : Int))) (nx (List.drop a.toNat (List.take (↑b.length : Int).toNat b)) a m j k c d e f g h) none) none) none) none) none) (l b a i j k c d e f g h)
abbrev buq := (List Int) × Int × (List Int) × (List Int) × (List Int) × Int × Int × (List Int) × (List Int) × (List Int) × (List Int)
abbrev b35 := buq
def b3p {ρ : Type} (f : buq → Option ρ) : b3n ρ := fun l k a b c d e g h i j => f (l, k, a, b, c, d, e, g, h, i, j)
def bw8 {ρ : Type} : adw buq b35 ρ := fun (k, j, a, b, c, d, e, f, g, h, i) next ex => abv k j a b c d e f g h i (b3p next) (b3p ex)
def b1d {ρ : Type} := shut (lp (bw8 (ρ := ρ)))
theorem b40 {ρ : Type} : b1d (ρ := ρ) = lp bw8 := av _
def bxx {ρ : Type} (f : adx buq b35 ρ) (l : List Int) (k : Int) (a b c : List Int) (d e : Int) (g h i j : List Int) (m : b3n ρ) : Option ρ := f (l, k, a, b, c, d, e, g, h, i, j) (fun (l, k, a, b, c, d, e, g, h, i, j) => m l k a b c d e g h i j)
def ae9 {ρ : Type} := bxx (lp (bw8 (ρ := ρ)))
def abr {ρ : Type} := bxx (b1d (ρ := ρ))
theorem aik {ρ : Type} : abr (ρ := ρ) = ae9 := congrArg bxx b40
abbrev b2r (ρ : Type) := (List Int) → (List Int) → Int → (List Int) → (List Int) → Option ρ
def aa5 {ρ : Type} (e b : List Int) (a : Int) (c d : List Int) (nx f : b2r ρ) : Option ρ := br (decide (a < 8)) (br (decide (0 ≤ a)) (br (decide (a < (↑8 : Int))) (br (decide (0 ≤ a)) (br (decide (a < (↑8 : Int))) (nx e b (IntKind.i64.wrap (a + 1)) (c.set a.toNat (IntKind.u64.wrap (b.getD a.toNat 0))) d) none) none) none) none) (f e b a c d)
abbrev bwa := (List Int) × (List Int) × Int × (List Int) × (List Int)
abbrev b25 := bwa
def b1i {ρ : Type} (f : bwa → Option ρ) : b2r ρ := fun e c d a b => f (e, c, d, a, b)
def bxa {ρ : Type} : adw bwa b25 ρ := fun (e, c, d, a, b) next ex => aa5 e c d a b (b1i next) (b1i ex)
def b3s {ρ : Type} := shut (lp (bxa (ρ := ρ)))
theorem b52 {ρ : Type} : b3s (ρ := ρ) = lp bxa := av _
def bxm {ρ : Type} (f : adx bwa b25 ρ) (e c : List Int) (d : Int) (a b : List Int) (g : b2r ρ) : Option ρ := f (e, c, d, a, b) (fun (e, c, d, a, b) => g e c d a b)
def adz {ρ : Type} := bxm (lp (bxa (ρ := ρ)))
def aa2 {ρ : Type} := bxm (b3s (ρ := ρ))
theorem aht {ρ : Type} : aa2 (ρ := ρ) = adz := congrArg bxm b52
def aaz {ρ : Type} (f e : Int) (a b c d g r : List Int) (k : (List Int) → (List Int) → Option ρ) : Option ρ := abe r g 0 f e a b c d g [0, 0, 0, 0, 0, 0, 0, 0] [0, 0, 0, 0, 0, 0, 0, 0] fun s O Q h t u v w y z i j => abr s (IntKind.i64.wrap (h * 2)) j i z h t u v w y fun l A m n o B C F G H I => aa2 l m 0 o n fun p J M q N => k q p
def oh {ρ : Type} := shut (aaz (ρ := ρ))
theorem ae5 {ρ : Type} (f : Int) (e : Int) (a : List Int) (b : List Int) (c : List Int) (d : List Int) (g : List Int) (h : List Int) (k : (List Int) → (List Int) → Option ρ) : oh f e a b c d g h k = aaz f e a b c d g h k := by unfold oh; rw [av]

def aqj {ρ : Type} (k : Int → Int → (List Int) → (List Int) → (List Int) → (List Int) → Option ρ) : Option ρ := k 32 64 [7, 18, 3] [17, 19, 10] [2, 13, 22] [6, 11, 25]
def abk {ρ : Type} := shut (aqj (ρ := ρ))
theorem asn {ρ : Type}  (k : Int → Int → (List Int) → (List Int) → (List Int) → (List Int) → Option ρ) : abk  k = aqj  k := by unfold abk; rw [av]

def agb {ρ : Type} (a : Int) (k : Int → Option ρ) : Option ρ := br (decide (0 ≤ a)) (br (decide (a < (↑80 : Int))) (k (roots512.getD a.toNat 0)) none) none
def mq {ρ : Type} := shut (agb (ρ := ρ))
theorem ana {ρ : Type} (a : Int) (k : Int → Option ρ) : mq a k = agb a k := by unfold mq; rw [av]

def wo {ρ : Type} (a g : Int) (b c d e : List Int) (h f : Int) (k : Int → Option ρ) : Option ρ := br (decide (f < 0)) none (br (decide (IntKind.i64.wrap (a - f) < 0)) none (k (bits BinOp.or IntKind.u64 (h.fdiv (2 ^ min f.toNat 64)) (IntKind.u64.wrap (h * 2 ^ min (IntKind.i64.wrap (a - f)).toNat 64)))))
def bf {ρ : Type} := shut (wo (ρ := ρ))
theorem aa9 {ρ : Type} (f : Int) (e : Int) (a : List Int) (b : List Int) (c : List Int) (d : List Int) (g : Int) (h : Int) (k : Int → Option ρ) : bf f e a b c d g h k = wo f e a b c d g h k := by unfold bf; rw [av]

def um {ρ : Type} (f e : Int) (a b c d : List Int) (g h : Int) (k : Int → Option ρ) : Option ρ := br (decide (h = (↑0 : Int))) (bf f e a b c d g (a.getD 0 0) fun l => bf f e a b c d g (a.getD 1 0) fun m => bf f e a b c d g (a.getD 2 0) fun n => k (bits BinOp.xor IntKind.u64 (bits BinOp.xor IntKind.u64 l m) n)) (br (decide (h = (↑1 : Int))) (bf f e a b c d g (b.getD 0 0) fun o => bf f e a b c d g (b.getD 1 0) fun p => bf f e a b c d g (b.getD 2 0) fun q => k (bits BinOp.xor IntKind.u64 (bits BinOp.xor IntKind.u64 o p) q)) (br (decide (h = (↑2 : Int))) (bf f e a b c d g (c.getD 0 0) fun r => bf f e a b c d g (c.getD 1 0) fun s => bf f e a b c d g (c.getD 2 0) fun t => k (bits BinOp.xor IntKind.u64 (bits BinOp.xor IntKind.u64 r s) t)) (br (decide (h = (↑3 : Int))) (bf f e a b c d g (d.getD 0 0) fun u => bf f e a b c d g (d.getD 1 0) fun i => bf f e a b c d g (d.getD 2 0) fun j => k (bits BinOp.xor IntKind.u64 (bits BinOp.xor IntKind.u64 u i) j)) none)))
def je {ρ : Type} := shut (um (ρ := ρ))
theorem zh {ρ : Type} (f : Int) (e : Int) (a : List Int) (b : List Int) (c : List Int) (d : List Int) (g : Int) (h : Int) (k : Int → Option ρ) : je f e a b c d g h k = um f e a b c d g h k := by unfold je; rw [av]

def uz {ρ : Type} (f e : Int) (a b c d : List Int) (g h : Int) (k : Int → Option ρ) : Option ρ := br (decide (h = (↑0 : Int))) (bf f e a b c d g (a.getD 0 (0 : Int)) fun i => bf f e a b c d g (a.getD 1 (0 : Int)) fun j => br (decide (a.getD 2 (0 : Int) < (0 : Int))) none (k (bits BinOp.xor IntKind.u64 (bits BinOp.xor IntKind.u64 i j) (g.fdiv ((2 : Int) ^ min (a.getD 2 (0 : Int)).toNat 64))))) (br (decide (h = (↑1 : Int))) (bf f e a b c d g (b.getD 0 (0 : Int)) fun l => bf f e a b c d g (b.getD 1 (0 : Int)) fun m => br (decide (b.getD 2 (0 : Int) < (0 : Int))) none (k (bits BinOp.xor IntKind.u64 (bits BinOp.xor IntKind.u64 l m) (g.fdiv ((2 : Int) ^ min (b.getD 2 (0 : Int)).toNat 64))))) (br (decide (h = (↑2 : Int))) (bf f e a b c d g (c.getD 0 (0 : Int)) fun n => bf f e a b c d g (c.getD 1 (0 : Int)) fun o => br (decide (c.getD 2 (0 : Int) < (0 : Int))) none (k (bits BinOp.xor IntKind.u64 (bits BinOp.xor IntKind.u64 n o) (g.fdiv ((2 : Int) ^ min (c.getD 2 (0 : Int)).toNat 64))))) (br (decide (h = (↑3 : Int))) (bf f e a b c d g (d.getD 0 (0 : Int)) fun p => bf f e a b c d g (d.getD 1 (0 : Int)) fun q => br (decide (d.getD 2 (0 : Int) < (0 : Int))) none (k (bits BinOp.xor IntKind.u64 (bits BinOp.xor IntKind.u64 p q) (g.fdiv ((2 : Int) ^ min (d.getD 2 (0 : Int)).toNat 64))))) none)))
def jm {ρ : Type} := shut (uz (ρ := ρ))
theorem zq {ρ : Type} (f : Int) (e : Int) (a : List Int) (b : List Int) (c : List Int) (d : List Int) (g : Int) (h : Int) (k : Int → Option ρ) : jm f e a b c d g h k = uz f e a b c d g h k := by unfold jm; rw [av]

abbrev b4q (ρ : Type) := (List Int) → Int → Int → Int → Int → (List Int) → (List Int) → (List Int) → (List Int) → (List Int) → (List Int) → (List Int) → Option ρ
def yj {ρ : Type} (l : List Int) (b a c d : Int) (e f g h i j k : List Int) (nx m : b4q ρ) : Option ρ := br (decide (a < 16)) (br (decide (0 ≤ IntKind.i64.wrap (a * b))) (br (decide (IntKind.i64.wrap (a * b) ≤ IntKind.i64.wrap (IntKind.i64.wrap (a + 1) * b))) (br (decide (IntKind.i64.wrap (IntKind.i64.wrap (a + 1) * b) ≤ (↑l.length : Int))) (jh (List.drop (IntKind.i64.wrap (a * b)).toNat (List.take (IntKind.i64.wrap (IntKind.i64.wrap (a + 1) * b)).toNat l)) fun n => br (decide (0 ≤ a)) (br (decide (a < (↑16 : Int))) (nx l b (IntKind.i64.wrap (a + 1)) c d e f g h i j (k.set a.toNat n)) none) none) none) none) none) (m l b a c d e f g h i j k)
abbrev bv5 := (List Int) × Int × Int × Int × Int × (List Int) × (List Int) × (List Int) × (List Int) × (List Int) × (List Int) × (List Int)
abbrev b3w := bv5
def b30 {ρ : Type} (f : bv5 → Option ρ) : b4q ρ := fun l m k a b c d e g h i j => f (l, m, k, a, b, c, d, e, g, h, i, j)
def bvh {ρ : Type} : adw bv5 b3w ρ := fun (k, l, j, a, b, c, d, e, f, g, h, i) next ex => yj k l j a b c d e f g h i (b30 next) (b30 ex)
def b2m {ρ : Type} := shut (lp (bvh (ρ := ρ)))
theorem b43 {ρ : Type} : b2m (ρ := ρ) = lp bvh := av _
def bzw {ρ : Type} (f : adx bv5 b3w ρ) (l : List Int) (m k a b : Int) (c d e g h i j : List Int) (n : b4q ρ) : Option ρ := f (l, m, k, a, b, c, d, e, g, h, i, j) (fun (l, m, k, a, b, c, d, e, g, h, i, j) => n l m k a b c d e g h i j)
def ab5 {ρ : Type} := bzw (lp (bvh (ρ := ρ)))
def yt {ρ : Type} := bzw (b2m (ρ := ρ))
theorem aff {ρ : Type} : yt (ρ := ρ) = ab5 := congrArg bzw b43
abbrev b0x (ρ : Type) := Int → Int → (List Int) → (List Int) → (List Int) → Int → Int → (List Int) → (List Int) → (List Int) → (List Int) → (List Int) → Option ρ
def xk {ρ : Type} (j b : Int) (c k l : List Int) (d e : Int) (f g h i a : List Int) (nx o : b0x ρ) : Option ρ := br (decide (b < j)) (br (decide (0 ≤ b.tmod 16)) (br (decide (b.tmod 16 < (↑16 : Int))) (je d e f g h i (a.getD 4 0) 3 fun m => mq b fun n => je d e f g h i (a.getD 0 0) 2 fun p => br (decide (0 ≤ (IntKind.i64.wrap (b + 1)).tmod 16)) (br (decide ((IntKind.i64.wrap (b + 1)).tmod 16 < (↑16 : Int))) (jm d e f g h i (c.getD ((IntKind.i64.wrap (b + 1)).tmod 16).toNat 0) 0 fun q => br (decide (0 ≤ (IntKind.i64.wrap (b + 9)).tmod 16)) (br (decide ((IntKind.i64.wrap (b + 9)).tmod 16 < (↑16 : Int))) (br (decide (0 ≤ (IntKind.i64.wrap (b + 14)).tmod 16)) (br (decide ((IntKind.i64.wrap (b + 14)).tmod 16 < (↑16 : Int))) (jm d e f g h i (c.getD ((IntKind.i64.wrap (b + 14)).tmod 16).toNat 0) 1 fun r => br (decide (0 ≤ b.tmod 16)) (br (decide (b.tmod 16 < (↑16 : Int))) (nx j (IntKind.i64.wrap (b + 1)) (c.set (b.tmod 16).toNat (IntKind.u64.wrap (IntKind.u64.wrap (IntKind.u64.wrap (c.getD (b.tmod 16).toNat 0 + q) + c.getD ((IntKind.i64.wrap (b + 9)).tmod 16).toNat 0) + r))) k l d e f g h i ((((List.take 1 a).append (List.take 7 (List.take 7 (List.drop 0 a)) ++ List.drop (1 + min 7 (List.take 7 (List.drop 0 a)).length) a)).set 4 (IntKind.u64.wrap (((List.take 1 a).append (List.take 7 (List.take 7 (List.drop 0 a)) ++ List.drop (1 + min 7 (List.take 7 (List.drop 0 a)).length) a)).getD 4 0 + IntKind.u64.wrap (IntKind.u64.wrap (IntKind.u64.wrap (IntKind.u64.wrap (a.getD 7 0 + m) + bits BinOp.xor IntKind.u64 (a.getD 6 0) (bits BinOp.and IntKind.u64 (a.getD 4 0) (bits BinOp.xor IntKind.u64 (a.getD 5 0) (a.getD 6 0)))) + n) + c.getD (b.tmod 16).toNat 0)))).set 0 (IntKind.u64.wrap (IntKind.u64.wrap (IntKind.u64.wrap (IntKind.u64.wrap (IntKind.u64.wrap (a.getD 7 0 + m) + bits BinOp.xor IntKind.u64 (a.getD 6 0) (bits BinOp.and IntKind.u64 (a.getD 4 0) (bits BinOp.xor IntKind.u64 (a.getD 5 0) (a.getD 6 0)))) + n) + c.getD (b.tmod 16).toNat 0) + IntKind.u64.wrap (p + bits BinOp.or IntKind.u64 (bits BinOp.and IntKind.u64 (a.getD 0 0) (a.getD 1 0)) (bits BinOp.and IntKind.u64 (a.getD 2 0) (bits BinOp.or IntKind.u64 (a.getD 0 0) (a.getD 1 0)))))))) none) none) none) none) none) none) none) none) none) none) (o j b c k l d e f g h i a)
abbrev bwu := Int × Int × (List Int) × (List Int) × (List Int) × Int × Int × (List Int) × (List Int) × (List Int) × (List Int) × (List Int)
abbrev b3o := bwu
def b0b {ρ : Type} (f : bwu → Option ρ) : b0x ρ := fun l m a b c d e g h i j k => f (l, m, a, b, c, d, e, g, h, i, j, k)
def bvk {ρ : Type} : adw bwu b3o ρ := fun (k, l, a, b, c, d, e, f, g, h, i, j) next ex => xk k l a b c d e f g h i j (b0b next) (b0b ex)
def b0d {ρ : Type} := shut (lp (bvk (ρ := ρ)))
theorem b44 {ρ : Type} : b0d (ρ := ρ) = lp bvk := av _
def bzv {ρ : Type} (f : adx bwu b3o ρ) (l m : Int) (a b c : List Int) (d e : Int) (g h i j k : List Int) (n : b0x ρ) : Option ρ := f (l, m, a, b, c, d, e, g, h, i, j, k) (fun (l, m, a, b, c, d, e, g, h, i, j, k) => n l m a b c d e g h i j k)
def abj {ρ : Type} := bzv (lp (bvk (ρ := ρ)))
def su {ρ : Type} := bzv (b0d (ρ := ρ))
theorem aez {ρ : Type} : su (ρ := ρ) = abj := congrArg bzv b44
abbrev bz8 (ρ : Type) := Int → (List Int) → (List Int) → (List Int) → Option ρ
def xw {ρ : Type} (a : Int) (b d c : List Int) (nx e : bz8 ρ) : Option ρ := br (decide (a < 8)) (br (decide (0 ≤ a)) (br (decide (a < (↑8 : Int))) (br (decide (0 ≤ a)) (br (decide (a < (↑8 : Int))) (br (decide (0 ≤ a)) (br (decide (a < (↑8 : Int))) (nx (IntKind.i64.wrap (a + 1)) b d (c.set a.toNat (IntKind.u64.wrap (c.getD a.toNat 0 + b.getD a.toNat 0)))) none) none) none) none) none) none) (e a b d c)
abbrev bwm := Int × (List Int) × (List Int) × (List Int)
abbrev b2u := bwm
def b4t {ρ : Type} (f : bwm → Option ρ) : bz8 ρ := fun a b c d => f (a, b, c, d)
def bv7 {ρ : Type} : adw bwm b2u ρ := fun (a, b, c, d) next ex => xw a b c d (b4t next) (b4t ex)
def b4e {ρ : Type} := shut (lp (bv7 (ρ := ρ)))
theorem b7d {ρ : Type} : b4e (ρ := ρ) = lp bv7 := av _
def bxs {ρ : Type} (f : adx bwm b2u ρ) (a : Int) (b c d : List Int) (e : bz8 ρ) : Option ρ := f (a, b, c, d) (fun (a, b, c, d) => e a b c d)
def abf {ρ : Type} := bxs (lp (bv7 (ρ := ρ)))
def qp {ρ : Type} := bxs (b4e (ρ := ρ))
theorem aew {ρ : Type} : qp (ρ := ρ) = abf := congrArg bxs b7d
def xq {ρ : Type} (a f : Int) (b c d e p q : List Int) (k : (List Int) → Option ρ) : Option ρ := yt q (IntKind.i64.wrap (a.tdiv 8)) 0 a f b c d e p [0, 0, 0, 0, 0, 0, 0, 0] [0, 0, 0, 0, 0, 0, 0, 0, 0, 0, 0, 0, 0, 0, 0, 0] fun N O Q r g s t u v h i j => su g 0 j i h r g s t u v h fun w y z l m A B C F G H n => qp 0 m l n fun I J M o => k o
def j5 {ρ : Type} := shut (xq (ρ := ρ))
theorem ab6 {ρ : Type} (f : Int) (e : Int) (a : List Int) (b : List Int) (c : List Int) (d : List Int) (g : List Int) (h : List Int) (k : (List Int) → Option ρ) : j5 f e a b c d g h k = xq f e a b c d g h k := by unfold j5; rw [av]

abbrev b1j (ρ : Type) := (List Int) → (List Int) → Int → Int → Int → (List Int) → (List Int) → (List Int) → (List Int) → (List Int) → (List Int) → (List Int) → Option ρ
def abx {ρ : Type} (l b : List Int) (a c d : Int) (e f g h i j k : List Int) (nx m : b1j ρ) : Option ρ := br (decide (a < 8)) (br (decide (0 ≤ a)) (br (decide (a < (↑8 : Int))) (br (decide (0 ≤ a)) (br (decide (a < (↑8 : Int))) (nx l b (IntKind.i64.wrap (a + 1)) c d e f g h i j (k.set a.toNat (b.getD a.toNat 0))) none) none) none) none) (m l b a c d e f g h i j k)
abbrev bw0 := (List Int) × (List Int) × Int × Int × Int × (List Int) × (List Int) × (List Int) × (List Int) × (List Int) × (List Int) × (List Int)
abbrev b24 := bw0
def b1v {ρ : Type} (f : bw0 → Option ρ) : b1j ρ := fun m k l a b c d e g h i j => f (m, k, l, a, b, c, d, e, g, h, i, j)
def bvl {ρ : Type} : adw bw0 b24 ρ := fun (l, j, k, a, b, c, d, e, f, g, h, i) next ex => abx l j k a b c d e f g h i (b1v next) (b1v ex)
def b1m {ρ : Type} := shut (lp (bvl (ρ := ρ)))
theorem b6g {ρ : Type} : b1m (ρ := ρ) = lp bvl := av _
def bzl {ρ : Type} (f : adx bw0 b24 ρ) (m k : List Int) (l a b : Int) (c d e g h i j : List Int) (n : b1j ρ) : Option ρ := f (m, k, l, a, b, c, d, e, g, h, i, j) (fun (m, k, l, a, b, c, d, e, g, h, i, j) => n m k l a b c d e g h i j)
def ae8 {ρ : Type} := bzl (lp (bvl (ρ := ρ)))
def abh {ρ : Type} := bzl (b1m (ρ := ρ))
theorem ait {ρ : Type} : abh (ρ := ρ) = ae8 := congrArg bzl b6g
abbrev b1c (ρ : Type) := (List Int) → Int → (List Int) → (List Int) → (List Int) → Int → Int → (List Int) → (List Int) → (List Int) → (List Int) → Option ρ
def abn {ρ : Type} (b : List Int) (a : Int) (i j k : List Int) (c d : Int) (e f g h : List Int) (nx l : b1c ρ) : Option ρ := br (decide ((↑b.length : Int) ≥ a)) (br (decide (0 ≤ a)) (br (decide (a ≤ (↑b.length : Int))) (j5 c d e f g h i (List.drop 0 (List.take a.toNat b)) fun m => br (decide (0 ≤ a)) (br (decide (a ≤ (↑b.length : Int))) (br (decide ((↑b.length : Int) ≤ (↑b.length : Int))) (nx (List.drop a.toNat (List.take (↑b.length : Int).toNat b)) a m j k c d e f g h) none) none) none) none) none) (l b a i j k c d e f g h)
abbrev buo := (List Int) × Int × (List Int) × (List Int) × (List Int) × Int × Int × (List Int) × (List Int) × (List Int) × (List Int)
abbrev b2s := buo
def b3d {ρ : Type} (f : buo → Option ρ) : b1c ρ := fun l k a b c d e g h i j => f (l, k, a, b, c, d, e, g, h, i, j)
def bux {ρ : Type} : adw buo b2s ρ := fun (k, j, a, b, c, d, e, f, g, h, i) next ex => abn k j a b c d e f g h i (b3d next) (b3d ex)
def b1s {ρ : Type} := shut (lp (bux (ρ := ρ)))
theorem b48 {ρ : Type} : b1s (ρ := ρ) = lp bux := av _
def byz {ρ : Type} (f : adx buo b2s ρ) (l : List Int) (k : Int) (a b c : List Int) (d e : Int) (g h i j : List Int) (m : b1c ρ) : Option ρ := f (l, k, a, b, c, d, e, g, h, i, j) (fun (l, k, a, b, c, d, e, g, h, i, j) => m l k a b c d e g h i j)
def ae6 {ρ : Type} := byz (lp (bux (ρ := ρ)))
def abo {ρ : Type} := byz (b1s (ρ := ρ))
theorem aiu {ρ : Type} : abo (ρ := ρ) = ae6 := congrArg byz b48
abbrev b1o (ρ : Type) := (List Int) → (List Int) → Int → (List Int) → (List Int) → Option ρ
def aa0 {ρ : Type} (e b : List Int) (a : Int) (c d : List Int) (nx f : b1o ρ) : Option ρ := br (decide (a < 8)) (br (decide (0 ≤ a)) (br (decide (a < (↑8 : Int))) (br (decide (0 ≤ a)) (br (decide (a < (↑8 : Int))) (nx e b (IntKind.i64.wrap (a + 1)) (c.set a.toNat (b.getD a.toNat 0)) d) none) none) none) none) (f e b a c d)
abbrev bwz := (List Int) × (List Int) × Int × (List Int) × (List Int)
abbrev b2e := bwz
def b2t {ρ : Type} (f : bwz → Option ρ) : b1o ρ := fun e c d a b => f (e, c, d, a, b)
def buh {ρ : Type} : adw bwz b2e ρ := fun (e, c, d, a, b) next ex => aa0 e c d a b (b2t next) (b2t ex)
def b4p {ρ : Type} := shut (lp (buh (ρ := ρ)))
theorem b6z {ρ : Type} : b4p (ρ := ρ) = lp buh := av _
def bzb {ρ : Type} (f : adx bwz b2e ρ) (e c : List Int) (d : Int) (a b : List Int) (g : b1o ρ) : Option ρ := f (e, c, d, a, b) (fun (e, c, d, a, b) => g e c d a b)
def ad1 {ρ : Type} := bzb (lp (buh (ρ := ρ)))
def aa4 {ρ : Type} := bzb (b4p (ρ := ρ))
theorem ahq {ρ : Type} : aa4 (ρ := ρ) = ad1 := congrArg bzb b6z
def aa6 {ρ : Type} (f e : Int) (a b c d g r : List Int) (k : (List Int) → (List Int) → Option ρ) : Option ρ := abh r g 0 f e a b c d g [0, 0, 0, 0, 0, 0, 0, 0] [0, 0, 0, 0, 0, 0, 0, 0] fun s O Q h t u v w y z i j => abo s (IntKind.i64.wrap (h * 2)) j i z h t u v w y fun l A m n o B C F G H I => aa4 l m 0 o n fun p J M q N => k q p
def oo {ρ : Type} := shut (aa6 (ρ := ρ))
theorem aex {ρ : Type} (f : Int) (e : Int) (a : List Int) (b : List Int) (c : List Int) (d : List Int) (g : List Int) (h : List Int) (k : (List Int) → (List Int) → Option ρ) : oo f e a b c d g h k = aa6 f e a b c d g h k := by unfold oo; rw [av]

def aqp {ρ : Type} (k : Int → Int → (List Int) → (List Int) → (List Int) → (List Int) → Option ρ) : Option ρ := k 64 80 [1, 8, 7] [19, 61, 6] [28, 34, 39] [14, 18, 41]
def abu {ρ : Type} := shut (aqp (ρ := ρ))
theorem as0 {ρ : Type}  (k : Int → Int → (List Int) → (List Int) → (List Int) → (List Int) → Option ρ) : abu  k = aqp  k := by unfold abu; rw [av]

def ny {ρ : Type} (a : List Int) (k : (List Int) → Option ρ) : Option ρ := br (decide (a.length * 1 ≤ 140737488355328)) (k a) none

def anp {ρ : Type} (a : Int) (b d : List Int) (c : Int) (e : List Int) (k : Int → (List Int) → (List Int) → Int → Option ρ) : Option ρ := iq [d, e] fun f => br (a == 1) (abk fun q r s t u v => oh q r s t u v b f fun w y => ny y fun z => k a w z (IntKind.u64.wrap (c + IntKind.u64.wrap (↑e.length : Int)))) (abu fun g h i j l m => oo g h i j l m b f fun n o => ny o fun p => k a n p (IntKind.u64.wrap (c + IntKind.u64.wrap (↑e.length : Int))))
def uw {ρ : Type} := shut (anp (ρ := ρ))
theorem az0 {ρ : Type} (b : Int) (a : List Int) (c : List Int) (d : Int) (e : List Int) (k : Int → (List Int) → (List Int) → Int → Option ρ) : uw b a c d e k = anp b a c d e k := by unfold uw; rw [av]

def ad7 {ρ : Type} (a : Int) (k : Int → Option ρ) : Option ρ := br (a == 1) (k 64) (k 128)
def qw {ρ : Type} := shut (ad7 (ρ := ρ))
theorem aj9 {ρ : Type} (a : Int) (k : Int → Option ρ) : qw a k = ad7 a k := by unfold qw; rw [av]

abbrev b3x (ρ : Type) := Int → (List Int) → Int → (List Int) → Int → (List Int) → Int → (List Int) → Option ρ
def ant {ρ : Type} (g : Int) (b : List Int) (a : Int) (c : List Int) (d : Int) (e : List Int) (f : Int) (h : List Int) (nx j : b3x ρ) : Option ρ := br (decide (a < 8)) (br (decide (0 ≤ a)) (br (decide (a < (↑8 : Int))) (gq (b.getD a.toNat 0) (IntKind.i64.wrap (g.tdiv 16)) fun i => br (decide ((c.length + i.length) * 1 ≤ 140737488355328)) (nx g b (IntKind.i64.wrap (a + 1)) (c ++ i) d e f h) none) none) none) (j g b a c d e f h)
abbrev bup := Int × (List Int) × Int × (List Int) × Int × (List Int) × Int × (List Int)
abbrev b0n := bup
def bz5 {ρ : Type} (f : bup → Option ρ) : b3x ρ := fun h d e g a b c i => f (h, d, e, g, a, b, c, i)
def bv2 {ρ : Type} : adw bup b0n ρ := fun (g, d, e, f, a, b, c, h) next ex => ant g d e f a b c h (bz5 next) (bz5 ex)
def b3l {ρ : Type} := shut (lp (bv2 (ρ := ρ)))
theorem b5m {ρ : Type} : b3l (ρ := ρ) = lp bv2 := av _
def bxy {ρ : Type} (f : adx bup b0n ρ) (h : Int) (d : List Int) (e : Int) (g : List Int) (a : Int) (b : List Int) (c : Int) (i : List Int) (j : b3x ρ) : Option ρ := f (h, d, e, g, a, b, c, i) (fun (h, d, e, g, a, b, c, i) => j h d e g a b c i)
def axm {ρ : Type} := bxy (lp (bv2 (ρ := ρ)))
def anv {ρ : Type} := bxy (b3l (ρ := ρ))
theorem ayd {ρ : Type} : anv (ρ := ρ) = axm := congrArg bxy b5m
def aod {ρ : Type} (c : Int) (e a : List Int) (d : Int) (k : (List Int) → Option ρ) : Option ρ := qw c fun b => br (decide (1 ≤ b)) (br (decide (b * (↑1 : Int) ≤ (↑140737488355328 : Int))) (br (decide (b = 0)) none (br (decide (0 ≤ IntKind.i64.wrap (IntKind.i64.wrap ((IntKind.i64.wrap (IntKind.i64.wrap (IntKind.i64.wrap (IntKind.i64.wrap (2 * b) - 1) - IntKind.i64.wrap (b.tdiv 8)) - (↑a.length : Int))).tmod b + IntKind.i64.wrap (b.tdiv 8)) - 8))) (br (decide ((1 + (IntKind.i64.wrap (IntKind.i64.wrap ((IntKind.i64.wrap (IntKind.i64.wrap (IntKind.i64.wrap (IntKind.i64.wrap (2 * b) - 1) - IntKind.i64.wrap (b.tdiv 8)) - (↑a.length : Int))).tmod b + IntKind.i64.wrap (b.tdiv 8)) - 8)).toNat) * 1 ≤ 140737488355328)) (gq (IntKind.u64.wrap (d * 2 ^ 3)) 8 fun g => br (decide ((((List.replicate (IntKind.i64.wrap (IntKind.i64.wrap ((IntKind.i64.wrap (IntKind.i64.wrap (IntKind.i64.wrap (IntKind.i64.wrap (2 * b) - 1) - IntKind.i64.wrap (b.tdiv 8)) - (↑a.length : Int))).tmod b + IntKind.i64.wrap (b.tdiv 8)) - 8)).toNat (0 : Int)).length.add 0).succ + g.length) * 1 ≤ 140737488355328)) (uw c e a d ((List.replicate 1 (0 : Int)).set 0 128 ++ List.replicate (IntKind.i64.wrap (IntKind.i64.wrap ((IntKind.i64.wrap (IntKind.i64.wrap (IntKind.i64.wrap (IntKind.i64.wrap (2 * b) - 1) - IntKind.i64.wrap (b.tdiv 8)) - (↑a.length : Int))).tmod b + IntKind.i64.wrap (b.tdiv 8)) - 8)).toNat (0 : Int) ++ g) fun j h l m => anv b h 0 [] j h m l fun q r s f i n o p => br (i == 2) (br (decide (48 ≤ (↑f.length : Int))) (k (List.take ((48 : Int) - (0 : Int)).toNat f)) none) (k f)) none) none) none)) none) none
def aaq {ρ : Type} := shut (aod (ρ := ρ))
theorem azc {ρ : Type} (b : Int) (a : List Int) (c : List Int) (d : Int) (k : (List Int) → Option ρ) : aaq b a c d k = aod b a c d k := by unfold aaq; rw [av]

def an6 {ρ : Type} (i : List Int) (j l : Int) (m : List (List Int)) (k : (List Int) → Option ρ) : Option ρ := aao 1 fun n o p q w => gq j 4 fun r => gq l 2 fun s => eu [i, r, s] fun t => uw n o p q t fun u v a b => eu m fun c => uw u v a b c fun d e f g => aaq d e f g fun h => k h
def ug {ρ : Type} := shut (an6 (ρ := ρ))
theorem az8 {ρ : Type} (a : List Int) (b : Int) (c : Int) (d : List (List Int)) (k : (List Int) → Option ρ) : ug a b c d k = an6 a b c d k := by unfold ug; rw [av]

def ads {ρ : Type} (o : Int) (d : List Int) (e a b c p : Int) (q : List (List Int)) (k : (List Int) → Option ρ) : Option ρ := aao 1 fun r s t u B => gq (IntKind.u64.wrap e) 4 fun v => gq p 2 fun w => eu [d, v, w] fun y => uw r s t u y fun z A f g => eu q fun h => uw z A f g h fun i j l m => aaq i j l m fun n => k n
def ig {ρ : Type} := shut (ads (ρ := ρ))
theorem ain {ρ : Type} (e : Int) (d : List Int) (f : Int) (a : Int) (b : Int) (c : Int) (g : Int) (h : List (List Int)) (k : (List Int) → Option ρ) : ig e d f a b c g h k = ads e d f a b c g h k := by unfold ig; rw [av]

def apd {ρ : Type} (c : List Int) (a b : Int) (k : Bool → Option ρ) : Option ρ := br (decide (a ≥ 1)) (br (decide (a ≤ 24)) (br (decide (b ≥ 0)) (br (decide (a = 0)) none (k (decide (b ≤ IntKind.i64.wrap ((IntKind.i64.wrap ((↑c.length : Int) * 8)).tdiv a))))) (k false)) (k false)) (k false)
def abq {ρ : Type} := shut (apd (ρ := ρ))
theorem asr {ρ : Type} (a : List Int) (b : Int) (c : Int) (k : Bool → Option ρ) : abq a b c k = apd a b c k := by unfold abq; rw [av]

abbrev b0v (ρ : Type) := (List Int) → Int → Int → Int → Int → Int → Int → (List Int) → Option ρ
def ah3 {ρ : Type} (a : List Int) (e g f b c d : Int) (h : List Int) (nx i : b0v ρ) : Option ρ := br (decide (f < e)) (br (decide (0 < (↑a.length : Int))) (br (decide (1 ≤ (↑a.length : Int))) (br (decide ((↑a.length : Int) ≤ (↑a.length : Int))) (nx (List.drop 1 (List.take (↑a.length : Int).toNat a)) e (bits BinOp.or IntKind.u64 (IntKind.u64.wrap (g * 2 ^ 8)) (IntKind.u64.wrap (a.getD 0 0))) (IntKind.i64.wrap (f + 8)) b c d h) none) none) none) (i a e g f b c d h)
abbrev bwo := (List Int) × Int × Int × Int × Int × Int × Int × (List Int)
abbrev b4a := bwo
def b4s {ρ : Type} (f : bwo → Option ρ) : b0v ρ := fun d e g h a b c i => f (d, e, g, h, a, b, c, i)
def bv3 {ρ : Type} : adw bwo b4a ρ := fun (d, e, f, g, a, b, c, h) next ex => ah3 d e f g a b c h (b4s next) (b4s ex)
def b2l {ρ : Type} := shut (lp (bv3 (ρ := ρ)))
theorem b6r {ρ : Type} : b2l (ρ := ρ) = lp bv3 := av _
def byr {ρ : Type} (f : adx bwo b4a ρ) (d : List Int) (e g h a b c : Int) (i : List Int) (j : b0v ρ) : Option ρ := f (d, e, g, h, a, b, c, i) (fun (d, e, g, h, a, b, c, i) => j d e g h a b c i)
def am0 {ρ : Type} := byr (lp (bv3 (ρ := ρ)))
def am6 {ρ : Type} := byr (b2l (ρ := ρ))
theorem aq0 {ρ : Type} : am6 (ρ := ρ) = am0 := congrArg byr b6r
abbrev b3g (ρ : Type) := (List Int) → Int → Int → Int → Int → Int → (List Int) → Option ρ
def aib {ρ : Type} (f : List Int) (g h i c a : Int) (j : List Int) (nx m : b3g ρ) : Option ρ := br (decide (a < c)) (am6 f g h i a c a j fun n b k d e o p l => br (decide (IntKind.i64.wrap (d - b) < 0)) none (br (decide (b < 0)) none (br (decide (0 ≤ e)) (br (decide (e < (↑l.length : Int))) (nx n b k (IntKind.i64.wrap (d - b)) o (IntKind.i64.wrap (p + 1)) (l.set e.toNat (IntKind.u32.wrap (bits BinOp.and IntKind.u64 (k.fdiv (2 ^ min (IntKind.i64.wrap (d - b)).toNat 64)) (IntKind.u64.wrap (IntKind.u64.wrap (1 * 2 ^ min b.toNat 64) - 1)))))) none) none))) (m f g h i c a j)
abbrev bun := (List Int) × Int × Int × Int × Int × Int × (List Int)
abbrev b4z := bun
def b04 {ρ : Type} (f : bun → Option ρ) : b3g ρ := fun c d e g a b h => f (c, d, e, g, a, b, h)
def bwe {ρ : Type} : adw bun b4z ρ := fun (c, d, e, f, a, b, g) next ex => aib c d e f a b g (b04 next) (b04 ex)
def b3y {ρ : Type} := shut (lp (bwe (ρ := ρ)))
theorem b45 {ρ : Type} : b3y (ρ := ρ) = lp bwe := av _
def bxz {ρ : Type} (f : adx bun b4z ρ) (c : List Int) (d e g a b : Int) (h : List Int) (i : b3g ρ) : Option ρ := f (c, d, e, g, a, b, h) (fun (c, d, e, g, a, b, h) => i c d e g a b h)
def am1 {ρ : Type} := bxz (lp (bwe (ρ := ρ)))
def am4 {ρ : Type} := bxz (b3y (ρ := ρ))
theorem ar5 {ρ : Type} : am4 (ρ := ρ) = am1 := congrArg bxz b45
def agt {ρ : Type} (b : List Int) (c a : Int) (k : (List Int) → Option ρ) : Option ρ := abq b c a fun d => br (!d) (k []) (br (decide (0 ≤ a)) (br (decide (a ≤ a)) (br (decide (a * (↑4 : Int) ≤ (↑140737488355328 : Int))) (am4 b c 0 0 (↑(List.replicate a.toNat (0 : Int)).length : Int) 0 (List.replicate a.toNat (0 : Int)) fun f g h i j l e => k e) none) none) none)
def uo {ρ : Type} := shut (agt (ρ := ρ))
theorem am7 {ρ : Type} (a : List Int) (b : Int) (c : Int) (k : (List Int) → Option ρ) : uo a b c k = agt a b c k := by unfold uo; rw [av]

abbrev b4y (ρ : Type) := Int → Int → Int → Int → Int → Int → Int → (List Int) → Option ρ
def agd {ρ : Type} (g h b a c d e : Int) (f : List Int) (nx i : b4y ρ) : Option ρ := br (decide (a < b)) (br (decide (0 ≤ a)) (br (decide (a < (↑f.length : Int))) (nx g (IntKind.u64.wrap (h - IntKind.u64.wrap (f.getD a.toNat 0))) b (IntKind.i64.wrap (a + 1)) c d e f) none) none) (i g h b a c d e f)
abbrev bwf := Int × Int × Int × Int × Int × Int × Int × (List Int)
abbrev b4x := bwf
def b2a {ρ : Type} (f : bwf → Option ρ) : b4y ρ := fun g h d e a b c i => f (g, h, d, e, a, b, c, i)
def bv0 {ρ : Type} : adw bwf b4x ρ := fun (f, g, d, e, a, b, c, h) next ex => agd f g d e a b c h (b2a next) (b2a ex)
def b2x {ρ : Type} := shut (lp (bv0 (ρ := ρ)))
theorem b6x {ρ : Type} : b2x (ρ := ρ) = lp bv0 := av _
def bzj {ρ : Type} (f : adx bwf b4x ρ) (g h d e a b c : Int) (i : List Int) (j : b4y ρ) : Option ρ := f (g, h, d, e, a, b, c, i) (fun (g, h, d, e, a, b, c, i) => j g h d e a b c i)
def al6 {ρ : Type} := bzj (lp (bv0 (ρ := ρ)))
def ak0 {ρ : Type} := bzj (b2x (ρ := ρ))
theorem apl {ρ : Type} : ak0 (ρ := ρ) = al6 := congrArg bzj b6x
def afn {ρ : Type} (a : Int) (f : List Int) (k : (List Int) → Int → Option ρ) : Option ρ := ni a fun h i j l => br (!l) (k [] 9) (br ((↑f.length : Int) != 32) (k [] 14) (br (decide (a = 0)) none (uo f a (IntKind.i64.wrap (Int.tdiv 256 a)) fun e => br (decide (a < 0)) none (ak0 a (IntKind.u64.wrap (IntKind.u64.wrap (↑e.length : Int) * IntKind.u64.wrap (IntKind.u64.wrap (1 * 2 ^ min a.toNat 64) - 1))) (↑e.length : Int) 0 h i j e fun m n q r o c p b => br (decide (c < 0)) none (gq (IntKind.u64.wrap (n * 2 ^ min c.toNat 64)) 2 fun g => uo g m (IntKind.i64.wrap (o - (↑b.length : Int))) fun d => br (decide ((b.length + d.length) * 4 ≤ 140737488355328)) (k (b ++ d) 0) none)))))
def y7 {ρ : Type} := shut (afn (ρ := ρ))
theorem akr {ρ : Type} (a : Int) (b : List Int) (k : (List Int) → Int → Option ρ) : y7 a b k = afn a b k := by unfold y7; rw [av]

def aar {ρ : Type} (d : Int) (e : List Int) (f a b c : Int) (g h : List Int) (k : (List Int) → Option ρ) : Option ρ := ig d e f a b c 33153 [g, h] fun i => y7 d i fun j l => k j
def jv {ρ : Type} := shut (aar (ρ := ρ))
theorem ady {ρ : Type} (e : Int) (d : List Int) (f : Int) (a : Int) (b : Int) (c : Int) (g : List Int) (h : List Int) (k : (List Int) → Option ρ) : jv e d f a b c g h k = aar e d f a b c g h k := by unfold jv; rw [av]

abbrev b3f (ρ : Type) := Int → Int → (List Int) → Int → Int → Int → (List Int) → Int → Int → Int → Int → Option ρ
def ac1 {ρ : Type} (i j : Int) (k : List Int) (h g a : Int) (b : List Int) (c d e f : Int) (nx l : b3f ρ) : Option ρ := br (decide (g < h)) (ig a b c d e f (IntKind.u64.wrap i) [[IntKind.u8.wrap (IntKind.u32.wrap (j + g))], k] fun m => nx i j m h (IntKind.u32.wrap (g + 1)) a b c d e f) (l i j k h g a b c d e f)
abbrev bvc := Int × Int × (List Int) × Int × Int × Int × (List Int) × Int × Int × Int × Int
abbrev b05 := bvc
def b3b {ρ : Type} (f : bvc → Option ρ) : b3f ρ := fun j k l h i a b c d e g => f (j, k, l, h, i, a, b, c, d, e, g)
def bv4 {ρ : Type} : adw bvc b05 ρ := fun (i, j, k, g, h, a, b, c, d, e, f) next ex => ac1 i j k g h a b c d e f (b3b next) (b3b ex)
def b4j {ρ : Type} := shut (lp (bv4 (ρ := ρ)))
theorem b6d {ρ : Type} : b4j (ρ := ρ) = lp bv4 := av _
def bxd {ρ : Type} (f : adx bvc b05 ρ) (j k : Int) (l : List Int) (h i a : Int) (b : List Int) (c d e g : Int) (m : b3f ρ) : Option ρ := f (j, k, l, h, i, a, b, c, d, e, g) (fun (j, k, l, h, i, a, b, c, d, e, g) => m j k l h i a b c d e g)
def agq {ρ : Type} := bxd (lp (bv4 (ρ := ρ)))
def agr {ρ : Type} := bxd (b4j (ρ := ρ))
theorem akg {ρ : Type} : agr (ρ := ρ) = agq := congrArg bxd b6d
def acd {ρ : Type} (e : Int) (d : List Int) (f a b c g h i : Int) (j : List Int) (k : (List Int) → Option ρ) : Option ρ := agr g h j i 0 e d f a b c fun n o l p q r s t u v m => k l
def jr {ρ : Type} := shut (acd (ρ := ρ))
theorem af8 {ρ : Type} (e : Int) (d : List Int) (f : Int) (a : Int) (b : Int) (c : Int) (g : Int) (h : Int) (i : Int) (j : List Int) (k : (List Int) → Option ρ) : jr e d f a b c g h i j k = acd e d f a b c g h i j k := by unfold jr; rw [av]

def afo {ρ : Type} (c : Int) (e : List Int) (f a b d : Int) (k : Int → Option ρ) : Option ρ := br (decide (c < 0)) none (k (IntKind.u32.wrap (IntKind.u32.wrap (1 * 2 ^ min c.toNat 32) - 1)))
def l8 {ρ : Type} := shut (afo (ρ := ρ))
theorem agp {ρ : Type} (e : Int) (d : List Int) (f : Int) (a : Int) (b : Int) (c : Int) (k : Int → Option ρ) : l8 e d f a b c k = afo e d f a b c k := by unfold l8; rw [av]

def agv {ρ : Type} (a : Int) (b : List Int) (c : Int) (k : Int → (List Int) → Int → Int → Int → Int → Int → Option ρ) : Option ρ := ni a fun d e f g => br (!g) (k 0 [] 0 0 0 0 9) (br ((↑b.length : Int) != 16) (k 0 [] 0 0 0 0 14) (k a b c d e f 0))
def wm {ρ : Type} := shut (agv (ρ := ρ))
theorem am5 {ρ : Type} (a : Int) (b : List Int) (c : Int) (k : Int → (List Int) → Int → Int → Int → Int → Int → Option ρ) : wm a b c k = agv a b c k := by unfold wm; rw [av]

abbrev b4g (ρ : Type) := (List Int) → Int → Int → (List Int) → Int → (List Int) → Int → Int → Int → Int → (List Int) → Option ρ
def adi {ρ : Type} (a : List Int) (i b : Int) (k : List Int) (c : Int) (d : List Int) (e f g h : Int) (j : List Int) (nx m : b4g ρ) : Option ρ := br (decide (b < i)) (br (decide (0 ≤ b)) (br (decide (b < (↑j.length : Int))) (l8 c d e f g h fun n => br (decide (32 ≤ (↑a.length : Int))) (jr c d e f g h b (j.getD b.toNat 0) (IntKind.u32.wrap (n - j.getD b.toNat 0)) (List.drop 0 (List.take (Int.toNat 32) a)) fun l => br (decide ((k.length + l.length) * 1 ≤ 140737488355328)) (br (decide (32 ≤ (↑a.length : Int))) (br (decide ((↑a.length : Int) ≤ (↑a.length : Int))) (nx (List.drop 32 (List.take (↑a.length : Int).toNat a)) i (IntKind.i64.wrap (b + 1)) (k ++ l) c d e f g h j) none) none) none) none) none) none) (m a i b k c d e f g h j)
abbrev buw := (List Int) × Int × Int × (List Int) × Int × (List Int) × Int × Int × Int × Int × (List Int)
abbrev bz1 := buw
def b08 {ρ : Type} (f : buw → Option ρ) : b4g ρ := fun h i j k a b c d e g l => f (h, i, j, k, a, b, c, d, e, g, l)
def bu3 {ρ : Type} : adw buw bz1 ρ := fun (g, h, i, j, a, b, c, d, e, f, k) next ex => adi g h i j a b c d e f k (b08 next) (b08 ex)
def b0g {ρ : Type} := shut (lp (bu3 (ρ := ρ)))
theorem b5g {ρ : Type} : b0g (ρ := ρ) = lp bu3 := av _
def bya {ρ : Type} (f : adx buw bz1 ρ) (h : List Int) (i j : Int) (k : List Int) (a : Int) (b : List Int) (c d e g : Int) (l : List Int) (m : b4g ρ) : Option ρ := f (h, i, j, k, a, b, c, d, e, g, l) (fun (h, i, j, k, a, b, c, d, e, g, l) => m h i j k a b c d e g l)
def ahi {ρ : Type} := bya (lp (bu3 (ρ := ρ)))
def ag6 {ρ : Type} := bya (b0g (ρ := ρ))
theorem ale {ρ : Type} : ag6 (ρ := ρ) = ahi := congrArg bya b5g
def acs {ρ : Type} (c : Int) (t : List Int) (u : Int) (v a : List Int) (k : (List Int) → Int → Option ρ) : Option ρ := wm c t u fun d e f g h b i => br (i != 0) (k [] i) (jk c fun w => br ((↑a.length : Int) != w) (k [] 1) (br (decide (4 ≤ (↑a.length : Int))) (jh (List.drop 0 (List.take (Int.toNat 4) a)) fun y => br (y != IntKind.u64.wrap b) (k [] 1) (br (decide (36 ≤ (↑a.length : Int))) (br (decide ((↑a.length : Int) ≤ (↑a.length : Int))) (br (decide (36 ≤ (↑a.length : Int))) (jv d e f g h b (List.drop 4 (List.take (Int.toNat 36) a)) v fun j => ag6 (List.drop 36 (List.take (↑a.length : Int).toNat a)) (↑j.length : Int) 0 [] d e f g h b j fun z A B l m n o p q r C => ig m n o p q r 32896 [l] fun s => k s 0) none) none) none)) none))
def ko {ρ : Type} := shut (acs (ρ := ρ))
theorem ag7 {ρ : Type} (a : Int) (b : List Int) (c : Int) (d : List Int) (e : List Int) (k : (List Int) → Int → Option ρ) : ko a b c d e k = acs a b c d e k := by unfold ko; rw [av]

abbrev b1x (ρ : Type) := Int → (List Int) → (List Int) → (List Int) → (List Int) → Option ρ
def ai6 {ρ : Type} (c : Int) (b e d a : List Int) (nx f : b1x ρ) : Option ρ := br (decide (c > (1 : Int))) (br (decide ((32 : Int) ≤ (↑a.length : Int))) (br (c.tmod (2 : Int) == (1 : Int)) (ug b (IntKind.u64.wrap (c.tdiv (2 : Int))) (33667 : Int) [List.drop 0 (List.take (Int.toNat (32 : Int)) a), d] fun g => br (decide ((32 : Int) ≤ (↑a.length : Int))) (br (decide ((↑a.length : Int) ≤ (↑a.length : Int))) (nx (IntKind.u64.wrap (c.tdiv (2 : Int))) b e g (List.drop 32 (List.take (↑a.length : Int).toNat a))) none) none) (ug b (IntKind.u64.wrap (c.tdiv (2 : Int))) (33667 : Int) [d, List.drop 0 (List.take (Int.toNat (32 : Int)) a)] fun h => br (decide ((32 : Int) ≤ (↑a.length : Int))) (br (decide ((↑a.length : Int) ≤ (↑a.length : Int))) (nx (IntKind.u64.wrap (c.tdiv (2 : Int))) b e h (List.drop 32 (List.take (↑a.length : Int).toNat a))) none) none)) none) (f c b e d a)
abbrev bu8 := Int × (List Int) × (List Int) × (List Int) × (List Int)
abbrev b4f := bu8
def b1a {ρ : Type} (f : bu8 → Option ρ) : b1x ρ := fun d a e b c => f (d, a, e, b, c)
def bxc {ρ : Type} : adw bu8 b4f ρ := fun (d, a, e, b, c) next ex => ai6 d a e b c (b1a next) (b1a ex)
def bz6 {ρ : Type} := shut (lp (bxc (ρ := ρ)))
theorem b41 {ρ : Type} : bz6 (ρ := ρ) = lp bxc := av _
def bxt {ρ : Type} (f : adx bu8 b4f ρ) (d : Int) (a e b c : List Int) (g : b1x ρ) : Option ρ := f (d, a, e, b, c) (fun (d, a, e, b, c) => g d a e b c)
def apn {ρ : Type} := bxt (lp (bxc (ρ := ρ)))
def ajk {ρ : Type} := bxt (bz6 (ρ := ρ))
theorem atp {ρ : Type} : ajk (ρ := ρ) = apn := congrArg bxt b41
def ahd {ρ : Type} (a d : Int) (e h b : List Int) (k : (List Int) → Option ρ) : Option ρ := br (decide (4 ≤ (↑b.length : Int))) (jh (List.drop 0 (List.take (Int.toNat 4) b)) fun f => jk d fun c => br (decide (4 ≤ IntKind.i64.wrap (4 + c))) (br (decide (IntKind.i64.wrap (4 + c) ≤ (↑b.length : Int))) (ko d e (IntKind.u32.wrap f) h (List.drop 4 (List.take (IntKind.i64.wrap (4 + c)).toNat b)) fun i l => br (decide (a < 0)) none (ug e (IntKind.u64.wrap (IntKind.u64.wrap (1 * 2 ^ min a.toNat 64) + IntKind.u64.wrap (IntKind.u32.wrap f))) 33410 [i] fun g => br (decide (0 ≤ IntKind.i64.wrap (IntKind.i64.wrap (4 + c) + 4))) (br (decide (IntKind.i64.wrap (IntKind.i64.wrap (4 + c) + 4) ≤ (↑b.length : Int))) (br (decide ((↑b.length : Int) ≤ (↑b.length : Int))) (br (decide (a < 0)) none (ajk (IntKind.u64.wrap (IntKind.u64.wrap (1 * 2 ^ min a.toNat 64) + IntKind.u64.wrap (IntKind.u32.wrap f))) e g g (List.drop (IntKind.i64.wrap (IntKind.i64.wrap (4 + c) + 4)).toNat (List.take (↑b.length : Int).toNat b)) fun m n o j p => k j)) none) none) none)) none) none) none
def ada {ρ : Type} := shut (ahd (ρ := ρ))
theorem anw {ρ : Type} (a : Int) (b : Int) (c : List Int) (d : List Int) (e : List Int) (k : (List Int) → Option ρ) : ada a b c d e k = ahd a b c d e k := by unfold ada; rw [av]

def mh {ρ : Type} (a j b : List Int) (k : Int → Option ρ) : Option ρ := br ((↑a.length : Int) != 56) (k 10) (br (decide (4 ≤ (↑a.length : Int))) (jh (List.drop 0 (List.take (Int.toNat 4) a)) fun l => mg l fun m => br (m == 0) (k 10) (br (decide (8 ≤ (↑a.length : Int))) (jh (List.drop 4 (List.take (Int.toNat 8) a)) fun n => p8 n fun o => br (o == 0) (k 10) (zi b fun r c d p e => br (e != 0) (k e) (br (decide ((↑p.length : Int) > 0)) (k 1) (aco c d fun q => br (decide (8 ≤ (↑a.length : Int))) (qj q (List.drop 0 (List.take (Int.toNat 8) a)) fun f => br (!f) (k 1) (br (decide (4 ≤ (↑b.length : Int))) (jh (List.drop 0 (List.take (Int.toNat 4) b)) fun g => br (decide (c < 0)) none (br (g.fdiv (2 ^ min c.toNat 64) != 0) (k 13) (br (decide (24 ≤ (↑a.length : Int))) (ada c d (List.drop 8 (List.take (Int.toNat 24) a)) j b fun h => br (decide (24 ≤ (↑a.length : Int))) (br (decide ((↑a.length : Int) ≤ (↑a.length : Int))) (qj h (List.drop 24 (List.take (↑a.length : Int).toNat a)) fun i => br (!i) (k 11) (k 0)) none) none) none))) none)) none)))) none)) none)
def oq {ρ : Type} := shut (mh (ρ := ρ))
theorem ajh {ρ : Type} (a : List Int) (b : List Int) (c : List Int) (k : Int → Option ρ) : oq a b c k = mh a b c k := by unfold oq; rw [av]

def akt {ρ : Type} (b e f : List Int) (g : Bool) (k : (List Int) → (List Int) → Int → Option ρ) : Option ρ := zi f fun c j l a d => br (d != 0) (k [] [] d) (br g (br (decide ((↑a.length : Int) > 0)) (k [] [] 1) (oq b e c fun h => k [] [] h)) (br (decide ((↑a.length : Int) < 56)) (k [] [] 1) (br (decide (56 ≤ (↑a.length : Int))) (br (decide (56 ≤ (↑a.length : Int))) (br (decide ((↑a.length : Int) ≤ (↑a.length : Int))) (oq b (List.take ((56 : Int) - (0 : Int)).toNat (List.drop 0 a)) c fun i => k (List.take ((56 : Int) - (0 : Int)).toNat (List.drop 0 a)) (List.take ((↑a.length : Int) - 56).toNat (List.drop 56 a)) i) none) none) none)))
def ahk {ρ : Type} := shut (akt (ρ := ρ))
theorem axi {ρ : Type} (a : List Int) (b : List Int) (c : List Int) (d : Bool) (k : (List Int) → (List Int) → Int → Option ρ) : ahk a b c d k = akt a b c d k := by unfold ahk; rw [av]

abbrev b37 (ρ : Type) := (List Int) → Int → (List Int) → (List Int) → Option ρ
def apy {ρ : Type} (b : List Int) (a : Int) (c d : List Int) (nx f : b37 ρ) (g : Int → Option ρ) : Option ρ := br (decide (a > 0)) (ahk c b d (a == 1) fun h i e => br (e != 0) (g e) (nx b (IntKind.u64.wrap (a - 1)) h i)) (f b a c d)
abbrev bxl := (List Int) × Int × (List Int) × (List Int)
abbrev b3r := ((List Int) × Int × (List Int) × (List Int)) ⊕ (Int)
def b5t {ρ : Type} (f : bxl → Option ρ) : b37 ρ := fun a b c d => f (a, b, c, d)
def bwk {ρ : Type} : adw bxl b3r ρ := fun (a, b, c, d) next ex => apy a b c d (b5t next) (fun a b c d => ex (.inl (a, b, c, d))) (fun e => ex (.inr e))
def b4l {ρ : Type} := shut (lp (bwk (ρ := ρ)))
theorem b67 {ρ : Type} : b4l (ρ := ρ) = lp bwk := av _
def bzu {ρ : Type} (f : adx bxl b3r ρ) (a : List Int) (b : Int) (c d : List Int) (e : b37 ρ) (g : Int → Option ρ) : Option ρ := f (a, b, c, d) (Sum.elim (fun (a, b, c, d) => e a b c d) (fun x => g x))
def aqd {ρ : Type} := bzu (lp (bwk (ρ := ρ)))
def ajr {ρ : Type} := bzu (b4l (ρ := ρ))
theorem aua {ρ : Type} : ajr (ρ := ρ) = aqd := congrArg bzu b67
def aek {ρ : Type} (a d b : List Int) (k : Int → Option ρ) : Option ρ := br ((↑a.length : Int) != 60) (k 10) (br (decide (4 ≤ (↑a.length : Int))) (jh (List.drop 0 (List.take (Int.toNat 4) a)) fun c => br (decide (c < 1)) (k 10) (br (decide (c > 8)) (k 10) (br (decide ((↑b.length : Int) < 4)) (k 1) (br (decide (4 ≤ (↑b.length : Int))) (jh (List.drop 0 (List.take (Int.toNat 4) b)) fun e => br (e != IntKind.u64.wrap (c - 1)) (k 1) (br (decide (4 ≤ (↑a.length : Int))) (br (decide ((↑a.length : Int) ≤ (↑a.length : Int))) (br (decide (4 ≤ (↑b.length : Int))) (br (decide ((↑b.length : Int) ≤ (↑b.length : Int))) (ajr d c (List.drop 4 (List.take (↑a.length : Int).toNat a)) (List.drop 4 (List.take (↑b.length : Int).toNat b)) (fun g h i j => k 0) fun f => k f) none) none) none) none)) none)))) none)
def tq {ρ : Type} := shut (aek (ρ := ρ))
theorem ajd {ρ : Type} (a : List Int) (b : List Int) (c : List Int) (k : Int → Option ρ) : tq a b c k = aek a b c k := by unfold tq; rw [av]

def ajy {ρ : Type} (k : Bool → Option ρ) : Option ρ := qg 2 [(2 : Int), (3 : Int)] [(1 : Int), (1 : Int)] (List.replicate 16 (0 : Int)) (List.replicate 32 (0 : Int)) (9 : Int) fun a b => yw 2 [(2 : Int), (3 : Int)] [(1 : Int), (1 : Int)] (List.replicate 16 (0 : Int)) (List.replicate 32 (0 : Int)) fun c => br (c == (32 : Int)) (br (b == (0 : Int)) (br ((↑a.length : Int) == (2 : Int)) (br (decide ((0 : Int) < (↑a.length : Int))) (br (a.getD 0 (0 : Int) == (1 : Int)) (br (decide ((1 : Int) < (↑a.length : Int))) (br (a.getD 1 (0 : Int) == (1 : Int)) (tq [] [] [] fun d => k (d == (10 : Int))) (k false)) none) (k false)) none) (k false)) (k false)) (k false)
def zx {ρ : Type} := shut (ajy (ρ := ρ))
theorem asu {ρ : Type}  (k : Bool → Option ρ) : zx  k = ajy  k := by unfold zx; rw [av]

def wz {ρ : Type} (a b : Int) (c d : List Int) (k : Int → Option ρ) : Option ρ := acg a b fun e => br (!e) (k 9) (br ((↑c.length : Int) != 16) (k 14) (br ((↑d.length : Int) != 32) (k 14) (br (decide (a > 10)) (k 8) (k 0))))
def ql {ρ : Type} := shut (wz (ρ := ρ))
theorem ak1 {ρ : Type} (a : Int) (b : Int) (c : List Int) (d : List Int) (k : Int → Option ρ) : ql a b c d k = wz a b c d k := by unfold ql; rw [av]

def afh {ρ : Type} (h : Int) (i : List Int) (j : Int) (l : List Int) (k : Int → (List Int) → Int → Int → Int → Int → Int → Option ρ) : Option ρ := wm h i j fun b c d e f g a => br (a == 0) (br ((↑l.length : Int) != 32) (k 0 [] 0 0 0 0 14) (k b c d e f g a)) (k b c d e f g a)
def tu {ρ : Type} := shut (afh (ρ := ρ))
theorem alb {ρ : Type} (a : Int) (b : List Int) (c : Int) (d : List Int) (k : Int → (List Int) → Int → Int → Int → Int → Int → Option ρ) : tu a b c d k = afh a b c d k := by unfold tu; rw [av]

def acu {ρ : Type} (e : Int) (d : List Int) (f a b c g : Int) (h : List Int) (k : (List Int) → Option ρ) : Option ρ := ig e d f a b c g [[255], h] fun i => k i
def l9 {ρ : Type} := shut (acu (ρ := ρ))
theorem ag9 {ρ : Type} (e : Int) (d : List Int) (f : Int) (a : Int) (b : Int) (c : Int) (g : Int) (h : List Int) (k : (List Int) → Option ρ) : l9 e d f a b c g h k = acu e d f a b c g h k := by unfold l9; rw [av]

abbrev b2y (ρ : Type) := (List Int) → Int → Int → (List Int) → Int → (List Int) → Int → Int → Int → Int → Option ρ
def agk {ρ : Type} (i : List Int) (h g : Int) (j : List Int) (a : Int) (b : List Int) (c d e f : Int) (nx l : b2y ρ) : Option ρ := br (decide (g < h)) (l8 a b c d e f fun m => l9 a b c d e f (IntKind.u64.wrap g) i fun n => jr a b c d e f g 0 m n fun k => br (decide ((j.length + k.length) * 1 ≤ 140737488355328)) (nx i h (IntKind.i64.wrap (g + 1)) (j ++ k) a b c d e f) none) (l i h g j a b c d e f)
abbrev bvo := (List Int) × Int × Int × (List Int) × Int × (List Int) × Int × Int × Int × Int
abbrev b0q := bvo
def b4o {ρ : Type} (f : bvo → Option ρ) : b2y ρ := fun j h i k a b c d e g => f (j, h, i, k, a, b, c, d, e, g)
def bxb {ρ : Type} : adw bvo b0q ρ := fun (i, g, h, j, a, b, c, d, e, f) next ex => agk i g h j a b c d e f (b4o next) (b4o ex)
def b4h {ρ : Type} := shut (lp (bxb (ρ := ρ)))
theorem b5q {ρ : Type} : b4h (ρ := ρ) = lp bxb := av _
def bza {ρ : Type} (f : adx bvo b0q ρ) (j : List Int) (h i : Int) (k : List Int) (a : Int) (b : List Int) (c d e g : Int) (l : b2y ρ) : Option ρ := f (j, h, i, k, a, b, c, d, e, g) (fun (j, h, i, k, a, b, c, d, e, g) => l j h i k a b c d e g)
def alh {ρ : Type} := bza (lp (bxb (ρ := ρ)))
def alp {ρ : Type} := bza (b4h (ρ := ρ))
theorem ap4 {ρ : Type} : alp (ρ := ρ) = alh := congrArg bza b5q
def afe {ρ : Type} (m : Int) (n : List Int) (o : Int) (a : List Int) (k : (List Int) → Int → Option ρ) : Option ρ := tu m n o a fun p q r b s t c => br (c != 0) (k [] c) (alp a b 0 [] p q r b s t fun u v w d e f g h i j => ig e f g h i j 32896 [d] fun l => k l 0)
def y8 {ρ : Type} := shut (afe (ρ := ρ))
theorem ak7 {ρ : Type} (a : Int) (b : List Int) (c : Int) (d : List Int) (k : (List Int) → Int → Option ρ) : y8 a b c d k = afe a b c d k := by unfold y8; rw [av]

def aaj {ρ : Type} (rc : Int → Int → (List Int) → (List Int) → Int → ((List Int) → Option ρ) → Option ρ) (a b : Int) (c d : List Int) (e : Int) (k : (List Int) → Option ρ) : Option ρ := br (decide (a < 0)) none (br (decide (e ≥ IntKind.u64.wrap (1 * 2 ^ min a.toNat 64))) (y8 b c (IntKind.u32.wrap (IntKind.u64.wrap (e - IntKind.u64.wrap (1 * 2 ^ min a.toNat 64)))) d fun f l => ug c e 33410 [f] fun g => k g) (rc a b c d (IntKind.u64.wrap (2 * e)) fun h => rc a b c d (IntKind.u64.wrap (IntKind.u64.wrap (2 * e) + 1)) fun i => ug c e 33667 [h, i] fun j => k j))
def gu {ρ : Type} (n : Nat) : Int → Int → (List Int) → (List Int) → Int → ((List Int) → Option ρ) → Option ρ := Nat.rec (fun _ _ _ _ _ _ => none) (fun _ rc => shut (aaj (ρ := ρ) rc)) n
theorem adk {ρ : Type} (n : Nat) : gu (ρ := ρ) (n + 1) = aaj (gu n) := av _

def ah1 {ρ : Type} (a b : Int) (c d : List Int) (k : (List Int) → Int → Option ρ) : Option ρ := ql a b c d fun e => br (e != 0) (k [] e) (aco a b fun f => gu (a.toNat + 2) a b c d 1 fun g => eu [f, c, g] fun h => k h 0)
def aaw {ρ : Type} := shut (ah1 (ρ := ρ))
theorem aoq {ρ : Type} (a : Int) (b : Int) (c : List Int) (d : List Int) (k : (List Int) → Int → Option ρ) : aaw a b c d k = ah1 a b c d k := by unfold aaw; rw [av]

def zn {ρ : Type} (a b : Int) (d c : List Int) (e : Int) (k : (List Int) → Option ρ) : Option ρ := aaw a b d c fun f g => k f
def iw {ρ : Type} := shut (zn (ρ := ρ))
theorem ac3 {ρ : Type} (a : Int) (b : Int) (d : List Int) (c : List Int) (e : Int) (k : (List Int) → Option ρ) : iw a b d c e k = zn a b d c e k := by unfold iw; rw [av]

def ahy {ρ : Type} (a : Nat) (b c e d : List Int) (k : (List Int) → Int → Option ρ) : Option ρ := acv a b c e d fun f => br (!f) (k [] 10) (br (decide (0 < (↑a : Int))) (gq (IntKind.u64.wrap (↑a : Int)) 4 fun g => iw (b.getD 0 0) (c.getD 0 0) e d 0 fun h => eu [g, h] fun i => k i 0) none)
def abz {ρ : Type} := shut (ahy (ρ := ρ))
theorem aox {ρ : Type} (a : Nat) (b : List Int) (c : List Int) (e : List Int) (d : List Int) (k : (List Int) → Int → Option ρ) : abz a b c e d k = ahy a b c e d k := by unfold abz; rw [av]

abbrev b0t (ρ : Type) := (List Int) → Int → Int → (List Int) → Int → (List Int) → Int → Int → Int → Int → (List Int) → Option ρ
def ajv {ρ : Type} (k : List Int) (h a : Int) (i : List Int) (b : Int) (c : List Int) (d e f g : Int) (j : List Int) (nx m : b0t ρ) : Option ρ := br (decide (a < h)) (br (decide (0 ≤ a)) (br (decide (a < (↑j.length : Int))) (l9 b c d e f g (IntKind.u64.wrap a) k fun n => jr b c d e f g a 0 (j.getD a.toNat 0) n fun l => br (decide ((i.length + l.length) * 1 ≤ 140737488355328)) (nx k h (IntKind.i64.wrap (a + 1)) (i ++ l) b c d e f g j) none) none) none) (m k h a i b c d e f g j)
abbrev bw4 := (List Int) × Int × Int × (List Int) × Int × (List Int) × Int × Int × Int × Int × (List Int)
abbrev b4d := bw4
def b2j {ρ : Type} (f : bw4 → Option ρ) : b0t ρ := fun k h i j a b c d e g l => f (k, h, i, j, a, b, c, d, e, g, l)
def bvs {ρ : Type} : adw bw4 b4d ρ := fun (j, g, h, i, a, b, c, d, e, f, k) next ex => ajv j g h i a b c d e f k (b2j next) (b2j ex)
def bz2 {ρ : Type} := shut (lp (bvs (ρ := ρ)))
theorem b6j {ρ : Type} : bz2 (ρ := ρ) = lp bvs := av _
def bx2 {ρ : Type} (f : adx bw4 b4d ρ) (k : List Int) (h i : Int) (j : List Int) (a : Int) (b : List Int) (c d e g : Int) (l : List Int) (m : b0t ρ) : Option ρ := f (k, h, i, j, a, b, c, d, e, g, l) (fun (k, h, i, j, a, b, c, d, e, g, l) => m k h i j a b c d e g l)
def ap2 {ρ : Type} := bx2 (lp (bvs (ρ := ρ)))
def ap9 {ρ : Type} := bx2 (bz2 (ρ := ρ))
theorem at7 {ρ : Type} : ap9 (ρ := ρ) = ap2 := congrArg bx2 b6j
def ah4 {ρ : Type} (m : Int) (n : List Int) (o : Int) (c p : List Int) (k : (List Int) → Int → Option ρ) : Option ρ := tu m n o c fun d e f g h a i => br (i != 0) (k [] i) (l9 d e f g h a 65533 c fun j => gq (IntKind.u64.wrap a) 4 fun q => eu [q, j] fun r => jv d e f g h a j p fun b => ap9 c (↑b.length : Int) 0 r d e f g h a b fun s t u l v w y z A B C => k l 0)
def uy {ρ : Type} := shut (ah4 (ρ := ρ))
theorem ap6 {ρ : Type} (a : Int) (b : List Int) (c : Int) (d : List Int) (e : List Int) (k : (List Int) → Int → Option ρ) : uy a b c d e k = ah4 a b c d e k := by unfold uy; rw [av]

abbrev b3i (ρ : Type) := Int → (List Int) → Int → Int → (List Int) → (List Int) → Option ρ
def aju {ρ : Type} (f : Int) (e : List Int) (a b : Int) (c d : List Int) (nx h : b3i ρ) : Option ρ := br (decide (f > 1)) (gu (a.toNat + 2) a b c d (bits BinOp.xor IntKind.u64 f 1) fun g => br (decide ((e.length + g.length) * 1 ≤ 140737488355328)) (nx (IntKind.u64.wrap (f.tdiv 2)) (e ++ g) a b c d) none) (h f e a b c d)
abbrev bva := Int × (List Int) × Int × Int × (List Int) × (List Int)
abbrev b4k := bva
def b3j {ρ : Type} (f : bva → Option ρ) : b3i ρ := fun g e a b c d => f (g, e, a, b, c, d)
def bvw {ρ : Type} : adw bva b4k ρ := fun (f, e, a, b, c, d) next ex => aju f e a b c d (b3j next) (b3j ex)
def b2i {ρ : Type} := shut (lp (bvw (ρ := ρ)))
theorem b5c {ρ : Type} : b2i (ρ := ρ) = lp bvw := av _
def by9 {ρ : Type} (f : adx bva b4k ρ) (g : Int) (e : List Int) (a b : Int) (c d : List Int) (h : b3i ρ) : Option ρ := f (g, e, a, b, c, d) (fun (g, e, a, b, c, d) => h g e a b c d)
def ao5 {ρ : Type} := by9 (lp (bvw (ρ := ρ)))
def apj {ρ : Type} := by9 (b2i (ρ := ρ))
theorem aue {ρ : Type} : apj (ρ := ρ) = ao5 := congrArg by9 b5c
def ak6 {ρ : Type} (a b : Int) (d e : List Int) (c : Int) (g : List Int) (k : (List Int) → Int → Option ρ) : Option ρ := ql a b d e fun f => br (f != 0) (k [] f) (br (decide (a < 0)) none (br ((IntKind.u64.wrap c).fdiv (2 ^ min a.toNat 64) != 0) (k [] 13) (uy b d c e g fun h r => gq (IntKind.u64.wrap c) 4 fun i => pz a fun j => gq j 4 fun l => eu [i, h, l] fun m => br (decide (a < 0)) none (apj (IntKind.u64.wrap (IntKind.u64.wrap (1 * 2 ^ min a.toNat 64) + IntKind.u64.wrap c)) m a b d e fun s n t o p q => k n 0))))
def ael {ρ : Type} := shut (ak6 (ρ := ρ))
theorem av2 {ρ : Type} (a : Int) (b : Int) (c : List Int) (d : List Int) (e : Int) (f : List Int) (k : (List Int) → Int → Option ρ) : ael a b c d e f k = ak6 a b c d e f k := by unfold ael; rw [av]

def aa7 {ρ : Type} (a b : Int) (d c : List Int) (e : Int) (f : List Int) (k : (List Int) → Option ρ) : Option ρ := ael a b d c e f fun g h => k g
def lq {ρ : Type} := shut (aa7 (ρ := ρ))
theorem aea {ρ : Type} (a : Int) (b : Int) (d : List Int) (c : List Int) (e : Int) (f : List Int) (k : (List Int) → Option ρ) : lq a b d c e f k = aa7 a b d c e f k := by unfold lq; rw [av]

def an3 {ρ : Type} (b : Int) (c : List Int) (k : (List Int) → Int → Option ρ) : Option ρ := aao b fun d e f g a => br (a != 0) (k [] a) (uw d e f g c fun h i j l => aaq h i j l fun m => k m 0)
def af5 {ρ : Type} := shut (an3 (ρ := ρ))
theorem azg {ρ : Type} (a : Int) (b : List Int) (k : (List Int) → Int → Option ρ) : af5 a b k = an3 a b k := by unfold af5; rw [av]

def acw {ρ : Type} (c d : Int) (b a : List Int) (e f : Int) (k : (List Int) → Option ρ) : Option ρ := gq (IntKind.u64.wrap e) 4 fun g => gq f 2 fun h => eu [b, g, h, [255], a] fun i => af5 1 i fun j l => k j
def jc {ρ : Type} := shut (acw (ρ := ρ))
theorem agy {ρ : Type} (a : Int) (b : Int) (d : List Int) (c : List Int) (e : Int) (f : Int) (k : (List Int) → Option ρ) : jc a b d c e f k = acw a b d c e f k := by unfold jc; rw [av]

abbrev bz0 (ρ : Type) := (List Int) → (List Int) → (List Int) → Nat → (List Int) → (List Int) → Int → Int → (List Int) → (List Int) → Nat → Int → Int → (List Int) → (List Int) → Int → (List Int) → Option ρ
def aji {ρ : Type} (g i j : List Int) (h : Nat) (c d : List Int) (p a : Int) (f q : List Int) (e : Nat) (k l : Int) (m n : List Int) (o : Int) (b : List Int) (nx v : bz0 ρ) : Option ρ := br (decide (a < p)) (br (decide (0 ≤ a)) (br (decide (a < (↑h : Int))) (br (decide (0 ≤ a)) (br (decide (a < (↑b.length : Int))) (br (!decide (e = 0)) (iw (c.getD a.toNat 0) (d.getD a.toNat 0) i j (b.getD a.toNat 0) fun r => br (decide (e = 1)) (br (decide (e = 1)) (lq k l m n o r fun s => br (decide ((f.length + s.length) * 1 ≤ 140737488355328)) (br (decide (((f ++ s).length + r.length) * 1 ≤ 140737488355328)) (jc (c.getD a.toNat 0) (d.getD a.toNat 0) i j (b.getD a.toNat 0) 65535 fun t => br (decide (16 ≤ (↑t.length : Int))) (jc (c.getD a.toNat 0) (d.getD a.toNat 0) i j (b.getD a.toNat 0) 65534 fun w => nx g (List.take ((16 : Int) - (0 : Int)).toNat (List.drop 0 t)) w h c d p (IntKind.i64.wrap (a + 1)) (f ++ s ++ r) q 1 (c.getD a.toNat 0) (d.getD a.toNat 0) i j (b.getD a.toNat 0) b) none) none) none) none) none) (jc (c.getD a.toNat 0) (d.getD a.toNat 0) i j (b.getD a.toNat 0) 65535 fun u => br (decide (16 ≤ (↑u.length : Int))) (jc (c.getD a.toNat 0) (d.getD a.toNat 0) i j (b.getD a.toNat 0) 65534 fun y => nx g (List.take ((16 : Int) - (0 : Int)).toNat (List.drop 0 u)) y h c d p (IntKind.i64.wrap (a + 1)) f q 1 (c.getD a.toNat 0) (d.getD a.toNat 0) i j (b.getD a.toNat 0) b) none)) none) none) none) none) (v g i j h c d p a f q e k l m n o b)
abbrev bvf := (List Int) × (List Int) × (List Int) × Nat × (List Int) × (List Int) × Int × Int × (List Int) × (List Int) × Nat × Int × Int × (List Int) × (List Int) × Int × (List Int)
abbrev b1q := bvf
def b03 {ρ : Type} (f : bvf → Option ρ) : bz0 ρ := fun g p q i j k n o l r h a b c d e m => f (g, p, q, i, j, k, n, o, l, r, h, a, b, c, d, e, m)
def bwi {ρ : Type} : adw bvf b1q ρ := fun (f, o, p, h, i, j, m, n, k, q, g, a, b, c, d, e, l) next ex => aji f o p h i j m n k q g a b c d e l (b03 next) (b03 ex)
def b3m {ρ : Type} := shut (lp (bwi (ρ := ρ)))
theorem b5o {ρ : Type} : b3m (ρ := ρ) = lp bwi := av _
def byn {ρ : Type} (f : adx bvf b1q ρ) (g p q : List Int) (i : Nat) (j k : List Int) (n o : Int) (l r : List Int) (h : Nat) (a b : Int) (c d : List Int) (e : Int) (m : List Int) (s : bz0 ρ) : Option ρ := f (g, p, q, i, j, k, n, o, l, r, h, a, b, c, d, e, m) (fun (g, p, q, i, j, k, n, o, l, r, h, a, b, c, d, e, m) => s g p q i j k n o l r h a b c d e m)
def aqv {ρ : Type} := byn (lp (bwi (ρ := ρ)))
def aps {ρ : Type} := byn (b3m (ρ := ρ))
theorem at6 {ρ : Type} : aps (ρ := ρ) = aqv := congrArg byn b5o
def alc {ρ : Type} (a : Nat) (b c e d : List Int) (r : Int) (j : List Int) (k : (List Int) → Int → Option ρ) : Option ρ := qg a b c e d r fun i l => br (l != 0) (k [] l) (gq (IntKind.u64.wrap (IntKind.i64.wrap ((↑i.length : Int) - 1))) 4 fun s => aps j e d a b c (↑a : Int) 0 s i 0 0 0 [] [] 0 i fun w y z A B C F t f u g m n o p q v => br (decide (g = 1)) (br (decide (g = 1)) (lq m n o p q j fun h => br (decide ((f.length + h.length) * 1 ≤ 140737488355328)) (k (f ++ h) 0) none) none) none)
def aft {ρ : Type} := shut (alc (ρ := ρ))
theorem av6 {ρ : Type} (a : Nat) (b : List Int) (c : List Int) (e : List Int) (d : List Int) (f : Int) (g : List Int) (k : (List Int) → Int → Option ρ) : aft a b c e d f g k = alc a b c e d f g k := by unfold aft; rw [av]

def afg {ρ : Type} (b c : Int) (d e : List Int) (i : Int) (a : List Int) (k : Bool → Option ρ) : Option ρ := afl [a] fun j => br (!j) (zx fun l => k l) (yw 2 [1, IntKind.i64.wrap (1 + IntKind.i64.wrap (b.tmod 2))] [1, IntKind.i64.wrap (1 + IntKind.i64.wrap (c.tmod 2))] (List.take 16 (List.drop 0 d)) (List.take 32 (List.drop 0 e)) fun f => br (f == 0) (k false) (br (decide (f = 0)) none (abz 2 [1, IntKind.i64.wrap (1 + IntKind.i64.wrap (b.tmod 2))] [1, IntKind.i64.wrap (1 + IntKind.i64.wrap (c.tmod 2))] (List.take 16 (List.drop 0 d)) (List.take 32 (List.drop 0 e)) fun h m => aft 2 [1, IntKind.i64.wrap (1 + IntKind.i64.wrap (b.tmod 2))] [1, IntKind.i64.wrap (1 + IntKind.i64.wrap (c.tmod 2))] (List.take 16 (List.drop 0 d)) (List.take 32 (List.drop 0 e)) ((IntKind.u64.wrap i).tmod f) a fun g n => br (m == 0) (br (n == 0) (tq h a g fun o => br (o == 0) (br (decide ((g.length + 1) * 1 ≤ 140737488355328)) (tq h a (g ++ [0]) fun p => br (p == 1) (zx fun q => k q) (k false)) none) (k false)) (k false)) (k false))))
def za {ρ : Type} := shut (afg (ρ := ρ))
theorem al3 {ρ : Type} (a : Int) (b : Int) (c : List Int) (d : List Int) (e : Int) (f : List Int) (k : Bool → Option ρ) : za a b c d e f k = afg a b c d e f k := by unfold za; rw [av]



def as4 {ρ : Type} (c : List Int) (a b : Int) (k : Bool → Option ρ) : Option ρ := br (decide (a ≥ 1)) (br (decide (a ≤ 24)) (br (decide (b ≥ 0)) (br (decide (a = 0)) none (k (decide (b ≤ IntKind.i64.wrap ((IntKind.i64.wrap ((↑c.length : Int) * 8)).tdiv a))))) (k false)) (k false)) (k false)
def ama {ρ : Type} := shut (as4 (ρ := ρ))
theorem bf3 {ρ : Type} (a : List Int) (b : Int) (c : Int) (k : Bool → Option ρ) : ama a b c k = as4 a b c k := by unfold ama; rw [av]



abbrev b0u (ρ : Type) := (List Int) → Int → Int → Int → Int → Int → (List Int) → Option ρ
def ai5 {ρ : Type} (d : List Int) (b e c f a : Int) (g : List Int) (nx h : b0u ρ) : Option ρ := br (decide (a < b)) (br (decide (0 ≤ IntKind.i64.wrap ((IntKind.i64.wrap (IntKind.i64.wrap (c * b) + a)).tdiv 8))) (br (decide (IntKind.i64.wrap ((IntKind.i64.wrap (IntKind.i64.wrap (c * b) + a)).tdiv 8) < (↑d.length : Int))) (br (decide (IntKind.i64.wrap (7 - (IntKind.i64.wrap (IntKind.i64.wrap (c * b) + a)).tmod 8) < 0)) none (nx d b e c (IntKind.u32.wrap (IntKind.u32.wrap (f * 2) + IntKind.u32.wrap (bits BinOp.and IntKind.u8 ((d.getD (IntKind.i64.wrap ((IntKind.i64.wrap (IntKind.i64.wrap (c * b) + a)).tdiv 8)).toNat 0).fdiv (2 ^ min (IntKind.i64.wrap (7 - (IntKind.i64.wrap (IntKind.i64.wrap (c * b) + a)).tmod 8)).toNat 8)) 1))) (IntKind.i64.wrap (a + 1)) g)) none) none) (h d b e c f a g)
abbrev bze := (List Int) × Int × Int × Int × Int × Int × (List Int)
abbrev b58 := bze
def b1r {ρ : Type} (f : bze → Option ρ) : b0u ρ := fun b c d e g a h => f (b, c, d, e, g, a, h)
def bxf {ρ : Type} : adw bze b58 ρ := fun (b, c, d, e, f, a, g) next ex => ai5 b c d e f a g (b1r next) (b1r ex)
def b5j {ρ : Type} := shut (lp (bxf (ρ := ρ)))
theorem ze35 {ρ : Type} : b5j (ρ := ρ) = lp bxf := av _
def bx6 {ρ : Type} (f : adx bze b58 ρ) (b : List Int) (c d e g a : Int) (h : List Int) (i : b0u ρ) : Option ρ := f (b, c, d, e, g, a, h) (fun (b, c, d, e, g, a, h) => i b c d e g a h)
def ap8 {ρ : Type} := bx6 (lp (bxf (ρ := ρ)))
def apu {ρ : Type} := bx6 (b5j (ρ := ρ))
theorem atz {ρ : Type} : apu (ρ := ρ) = ap8 := congrArg bx6 ze35
abbrev b2v (ρ : Type) := (List Int) → Int → Int → Int → (List Int) → Option ρ
def ajt {ρ : Type} (c : List Int) (d a b : Int) (e : List Int) (nx g : b2v ρ) : Option ρ := br (decide (b < a)) (apu c d a b 0 0 e fun h i j k l m f => br (decide ((f.length + 1) * 4 ≤ 140737488355328)) (nx h i j (IntKind.i64.wrap (k + 1)) (f ++ [l])) none) (g c d a b e)
abbrev bzh := (List Int) × Int × Int × Int × (List Int)
abbrev b6k := bzh
def b29 {ρ : Type} (f : bzh → Option ρ) : b2v ρ := fun a b c d e => f (a, b, c, d, e)
def byd {ρ : Type} : adw bzh b6k ρ := fun (a, b, c, d, e) next ex => ajt a b c d e (b29 next) (b29 ex)
def b47 {ρ : Type} := shut (lp (byd (ρ := ρ)))
theorem ze36 {ρ : Type} : b47 (ρ := ρ) = lp byd := av _
def bzn {ρ : Type} (f : adx bzh b6k ρ) (a : List Int) (b c d : Int) (e : List Int) (g : b2v ρ) : Option ρ := f (a, b, c, d, e) (fun (a, b, c, d, e) => g a b c d e)
def aos {ρ : Type} := bzn (lp (byd (ρ := ρ)))
def ao4 {ρ : Type} := bzn (b47 (ρ := ρ))
theorem atx {ρ : Type} : ao4 (ρ := ρ) = aos := congrArg bzn ze36
def ahp {ρ : Type} (a : List Int) (b c : Int) (k : (List Int) → Option ρ) : Option ρ := ama a b c fun d => br (!d) (k []) (ao4 a b c 0 [] fun f g h i e => k e)
def ac6 {ρ : Type} := shut (ahp (ρ := ρ))
theorem ba3 {ρ : Type} (a : List Int) (b : Int) (c : Int) (k : (List Int) → Option ρ) : ac6 a b c k = ahp a b c k := by unfold ac6; rw [av]



def aj1 {ρ : Type} (k : (List Int) → Option ρ) : Option ρ := k [1116352408, 1899447441, 3049323471, 3921009573, 961987163, 1508970993, 2453635748, 2870763221, 3624381080, 310598401, 607225278, 1426881987, 1925078388, 2162078206, 2614888103, 3248222580, 3835390401, 4022224774, 264347078, 604807628, 770255983, 1249150122, 1555081692, 1996064986, 2554220882, 2821834349, 2952996808, 3210313671, 3336571891, 3584528711, 113926993, 338241895, 666307205, 773529912, 1294757372, 1396182291, 1695183700, 1986661051, 2177026350, 2456956037, 2730485921, 2820302411, 3259730800, 3345764771, 3516065817, 3600352804, 4094571909, 275423344, 430227734, 506948616, 659060556, 883997877, 958139571, 1322822218, 1537002063, 1747873779, 1955562222, 2024104815, 2227730452, 2361852424, 2428436474, 2756734187, 3204031479, 3329325298]
def afa {ρ : Type} := shut (aj1 (ρ := ρ))
theorem alo {ρ : Type}  (k : (List Int) → Option ρ) : afa  k = aj1  k := by unfold afa; rw [av]

def aj7 {ρ : Type} (k : (List Int) → Option ρ) : Option ρ := k [4794697086780616226, 8158064640168781261, 13096744586834688815, 16840607885511220156, 4131703408338449720, 6480981068601479193, 10538285296894168987, 12329834152419229976, 15566598209576043074, 1334009975649890238, 2608012711638119052, 6128411473006802146, 8268148722764581231, 9286055187155687089, 11230858885718282805, 13951009754708518548, 16472876342353939154, 17275323862435702243, 1135362057144423861, 2597628984639134821, 3308224258029322869, 5365058923640841347, 6679025012923562964, 8573033837759648693, 10970295158949994411, 12119686244451234320, 12683024718118986047, 13788192230050041572, 14330467153632333762, 15395433587784984357, 489312712824947311, 1452737877330783856, 2861767655752347644, 3322285676063803686, 5560940570517711597, 5996557281743188959, 7280758554555802590, 8532644243296465576, 9350256976987008742, 10552545826968843579, 11727347734174303076, 12113106623233404929, 14000437183269869457, 14369950271660146224, 15101387698204529176, 15463397548674623760, 17586052441742319658, 1182934255886127544, 1847814050463011016, 2177327727835720531, 2830643537854262169, 3796741975233480872, 4115178125766777443, 5681478168544905931, 6601373596472566643, 7507060721942968483, 8399075790359081724, 8693463985226723168, 9568029438360202098, 10144078919501101548, 10430055236837252648, 11840083180663258601, 13761210420658862357, 14299343276471374635, 14566680578165727644, 15097957966210449927, 16922976911328602910, 17689382322260857208, 500013540394364858, 748580250866718886, 1242879168328830382, 1977374033974150939, 2944078676154940804, 3659926193048069267, 4368137639120453308, 4836135668995329356, 5532061633213252278, 6448918945643986474, 6902733635092675308, 7801388544844847127]
def afc {ρ : Type} := shut (aj7 (ρ := ρ))
theorem alu {ρ : Type}  (k : (List Int) → Option ρ) : afc  k = aj7  k := by unfold afc; rw [av]

def adt {ρ : Type} (b a : Int) (c : Bool) (k : Int → Option ρ) : Option ρ := br c (br (decide (a < 0)) none (br (decide (IntKind.i64.wrap (64 - a) < 0)) none (k (bits BinOp.or IntKind.u64 (b.fdiv (2 ^ min a.toNat 64)) (IntKind.u64.wrap (b * 2 ^ min (IntKind.i64.wrap (64 - a)).toNat 64)))))) (br (decide (a < 0)) none (br (decide (IntKind.i64.wrap (32 - a) < 0)) none (k (bits BinOp.or IntKind.u64 (b.fdiv (2 ^ min a.toNat 64)) (bits BinOp.and IntKind.u64 (IntKind.u64.wrap (b * 2 ^ min (IntKind.i64.wrap (32 - a)).toNat 64)) 4294967295)))))
def aci {ρ : Type} := shut (adt (ρ := ρ))
theorem ak2 {ρ : Type} (a : Int) (b : Int) (c : Bool) (k : Int → Option ρ) : aci a b c k = adt a b c k := by unfold aci; rw [av]

def abg {ρ : Type} (a d e c : Int) (f b : Bool) (k : Int → Option ρ) : Option ρ := br (decide (c < 0)) none (br (!f) (aci a c b fun g => aci a d b fun h => aci a e b fun i => k (bits BinOp.xor IntKind.u64 (bits BinOp.xor IntKind.u64 h i) g)) (aci a d b fun j => aci a e b fun l => k (bits BinOp.xor IntKind.u64 (bits BinOp.xor IntKind.u64 j l) (a.fdiv (2 ^ min c.toNat 64)))))
def ab9 {ρ : Type} := shut (abg (ρ := ρ))
theorem af4 {ρ : Type} (a : Int) (b : Int) (c : Int) (d : Int) (e : Bool) (f : Bool) (k : Int → Option ρ) : ab9 a b c d e f k = abg a b c d e f k := by unfold ab9; rw [av]

abbrev b1y (ρ : Type) := (List Int) → Int → Int → Option ρ
def arw {ρ : Type} (b : List Int) (c a : Int) (nx d : b1y ρ) : Option ρ := br (decide (a < (↑b.length : Int))) (br (decide (0 ≤ a)) (br (decide (a < (↑b.length : Int))) (nx b (IntKind.u64.wrap (IntKind.u64.wrap (c * 256) + IntKind.u64.wrap (b.getD a.toNat 0))) (IntKind.i64.wrap (a + 1))) none) none) (d b c a)
abbrev bxw := (List Int) × Int × Int
abbrev b49 := bxw
def b1t {ρ : Type} (f : bxw → Option ρ) : b1y ρ := fun a b c => f (a, b, c)
def bzq {ρ : Type} : adw bxw b49 ρ := fun (a, b, c) next ex => arw a b c (b1t next) (b1t ex)
def b42 {ρ : Type} := shut (lp (bzq (ρ := ρ)))
theorem ze37 {ρ : Type} : b42 (ρ := ρ) = lp bzq := av _
def byo {ρ : Type} (f : adx bxw b49 ρ) (a : List Int) (b c : Int) (d : b1y ρ) : Option ρ := f (a, b, c) (fun (a, b, c) => d a b c)
def azp {ρ : Type} := byo (lp (bzq (ρ := ρ)))
def azb {ρ : Type} := byo (b42 (ρ := ρ))
theorem ba6 {ρ : Type} : azb (ρ := ρ) = azp := congrArg byo ze37
def aol {ρ : Type} (a : List Int) (k : Int → Option ρ) : Option ρ := azb a 0 0 fun c b d => k b
def acf {ρ : Type} := shut (aol (ρ := ρ))
theorem bj3 {ρ : Type} (a : List Int) (k : Int → Option ρ) : acf a k = aol a k := by unfold acf; rw [av]

abbrev b3v (ρ : Type) := (List Int) → Bool → Int → Int → Int → Int → (List Int) → Option ρ
def aev {ρ : Type} (d : List Int) (f : Bool) (g e c a : Int) (b : List Int) (nx h : b3v ρ) : Option ρ := br (decide (a < g)) (br (decide (a < 16)) (br (decide (0 ≤ IntKind.i64.wrap (a * c))) (br (decide (IntKind.i64.wrap (a * c) ≤ IntKind.i64.wrap (IntKind.i64.wrap (a * c) + c))) (br (decide (IntKind.i64.wrap (IntKind.i64.wrap (a * c) + c) ≤ (↑d.length : Int))) (acf (List.drop (IntKind.i64.wrap (a * c)).toNat (List.take (IntKind.i64.wrap (IntKind.i64.wrap (a * c) + c)).toNat d)) fun i => br (decide ((b.length + 1) * 8 ≤ 140737488355328)) (nx d f g e c (IntKind.i64.wrap (a + 1)) (b ++ [i])) none) none) none) none) (br (decide (0 ≤ IntKind.i64.wrap (a - 15))) (br (decide (IntKind.i64.wrap (a - 15) < (↑b.length : Int))) (ab9 (b.getD (IntKind.i64.wrap (a - 15)).toNat 0) 7 18 3 true false fun j => br (decide (0 ≤ IntKind.i64.wrap (a - 2))) (br (decide (IntKind.i64.wrap (a - 2) < (↑b.length : Int))) (ab9 (b.getD (IntKind.i64.wrap (a - 2)).toNat 0) 17 19 10 true false fun k => br f (br (decide (0 ≤ IntKind.i64.wrap (a - 15))) (br (decide (IntKind.i64.wrap (a - 15) < (↑b.length : Int))) (ab9 (b.getD (IntKind.i64.wrap (a - 15)).toNat 0) 1 8 7 true true fun l => br (decide (0 ≤ IntKind.i64.wrap (a - 2))) (br (decide (IntKind.i64.wrap (a - 2) < (↑b.length : Int))) (ab9 (b.getD (IntKind.i64.wrap (a - 2)).toNat 0) 19 61 6 true true fun m => br (decide (0 ≤ IntKind.i64.wrap (a - 7))) (br (decide (IntKind.i64.wrap (a - 7) < (↑b.length : Int))) (br (decide (0 ≤ IntKind.i64.wrap (a - 16))) (br (decide (IntKind.i64.wrap (a - 16) < (↑b.length : Int))) (br (decide ((b.length + 1) * 8 ≤ 140737488355328)) (nx d f g e c (IntKind.i64.wrap (a + 1)) (b ++ [bits BinOp.and IntKind.u64 (IntKind.u64.wrap (IntKind.u64.wrap (IntKind.u64.wrap (m + b.getD (IntKind.i64.wrap (a - 7)).toNat 0) + l) + b.getD (IntKind.i64.wrap (a - 16)).toNat 0)) e])) none) none) none) none) none) none) none) none) none) (br (decide (0 ≤ IntKind.i64.wrap (a - 7))) (br (decide (IntKind.i64.wrap (a - 7) < (↑b.length : Int))) (br (decide (0 ≤ IntKind.i64.wrap (a - 16))) (br (decide (IntKind.i64.wrap (a - 16) < (↑b.length : Int))) (br (decide ((b.length + 1) * 8 ≤ 140737488355328)) (nx d f g e c (IntKind.i64.wrap (a + 1)) (b ++ [bits BinOp.and IntKind.u64 (IntKind.u64.wrap (IntKind.u64.wrap (IntKind.u64.wrap (k + b.getD (IntKind.i64.wrap (a - 7)).toNat 0) + j) + b.getD (IntKind.i64.wrap (a - 16)).toNat 0)) e])) none) none) none) none) none)) none) none) none) none)) (h d f g e c a b)
abbrev bxg := (List Int) × Bool × Int × Int × Int × Int × (List Int)
abbrev b6s := bxg
def byf {ρ : Type} (f : bxg → Option ρ) : b3v ρ := fun b c d e g a h => f (b, c, d, e, g, a, h)
def bvb {ρ : Type} : adw bxg b6s ρ := fun (b, c, d, e, f, a, g) next ex => aev b c d e f a g (byf next) (byf ex)
def b5p {ρ : Type} := shut (lp (bvb (ρ := ρ)))
theorem ze38 {ρ : Type} : b5p (ρ := ρ) = lp bvb := av _
def bv6 {ρ : Type} (f : adx bxg b6s ρ) (b : List Int) (c : Bool) (d e g a : Int) (h : List Int) (i : b3v ρ) : Option ρ := f (b, c, d, e, g, a, h) (fun (b, c, d, e, g, a, h) => i b c d e g a h)
def alq {ρ : Type} := bv6 (lp (bvb (ρ := ρ)))
def alj {ρ : Type} := bv6 (b5p (ρ := ρ))
theorem akp {ρ : Type} : alj (ρ := ρ) = alq := congrArg bv6 ze38
def afv {ρ : Type} (b : List Int) (a : Bool) (c d : Int) (k : (List Int) → Option ρ) : Option ρ := br a (alj b a c d 8 0 [] fun j l m n o p f => k f) (alj b a c d 4 0 [] fun q r s g h i e => k e)
def aii {ρ : Type} := shut (afv (ρ := ρ))
theorem as3 {ρ : Type} (a : List Int) (b : Bool) (c : Int) (d : Int) (k : (List Int) → Option ρ) : aii a b c d k = afv a b c d k := by unfold aii; rw [av]

abbrev b4i (ρ : Type) := Bool → Int → Int → Int → (List Int) → (List Int) → (List Int) → (List Int) → (List Int) → (List Int) → Option ρ
def adl {ρ : Type} (i : Bool) (j c b : Int) (g h d e f a : List Int) (nx m : b4i ρ) : Option ρ := br (decide (b < j)) (ab9 (a.getD 0 0) 2 13 22 false false fun n => ab9 (a.getD 4 0) 6 11 25 false false fun k => br i (ab9 (a.getD 0 0) 28 34 39 false true fun o => ab9 (a.getD 4 0) 14 18 41 false true fun l => br (decide (0 ≤ b)) (br (decide (b < (↑80 : Int))) (br (decide (0 ≤ b)) (br (decide (b < (↑f.length : Int))) (nx i j c (IntKind.i64.wrap (b + 1)) g h d e f [bits BinOp.and IntKind.u64 (IntKind.u64.wrap (IntKind.u64.wrap (IntKind.u64.wrap (IntKind.u64.wrap (IntKind.u64.wrap (a.getD 7 0 + l) + bits BinOp.xor IntKind.u64 (bits BinOp.and IntKind.u64 (a.getD 4 0) (a.getD 5 0)) (bits BinOp.and IntKind.u64 (bits BinOp.xor IntKind.u64 c (a.getD 4 0)) (a.getD 6 0))) + e.getD b.toNat 0) + f.getD b.toNat 0) + IntKind.u64.wrap (o + bits BinOp.xor IntKind.u64 (bits BinOp.xor IntKind.u64 (bits BinOp.and IntKind.u64 (a.getD 0 0) (a.getD 1 0)) (bits BinOp.and IntKind.u64 (a.getD 0 0) (a.getD 2 0))) (bits BinOp.and IntKind.u64 (a.getD 1 0) (a.getD 2 0))))) c, a.getD 0 0, a.getD 1 0, a.getD 2 0, bits BinOp.and IntKind.u64 (IntKind.u64.wrap (a.getD 3 0 + IntKind.u64.wrap (IntKind.u64.wrap (IntKind.u64.wrap (IntKind.u64.wrap (a.getD 7 0 + l) + bits BinOp.xor IntKind.u64 (bits BinOp.and IntKind.u64 (a.getD 4 0) (a.getD 5 0)) (bits BinOp.and IntKind.u64 (bits BinOp.xor IntKind.u64 c (a.getD 4 0)) (a.getD 6 0))) + e.getD b.toNat 0) + f.getD b.toNat 0))) c, a.getD 4 0, a.getD 5 0, a.getD 6 0]) none) none) none) none) (br (decide (0 ≤ b)) (br (decide (b < (↑64 : Int))) (br (decide (0 ≤ b)) (br (decide (b < (↑f.length : Int))) (nx i j c (IntKind.i64.wrap (b + 1)) g h d e f [bits BinOp.and IntKind.u64 (IntKind.u64.wrap (IntKind.u64.wrap (IntKind.u64.wrap (IntKind.u64.wrap (IntKind.u64.wrap (a.getD 7 0 + k) + bits BinOp.xor IntKind.u64 (bits BinOp.and IntKind.u64 (a.getD 4 0) (a.getD 5 0)) (bits BinOp.and IntKind.u64 (bits BinOp.xor IntKind.u64 c (a.getD 4 0)) (a.getD 6 0))) + d.getD b.toNat 0) + f.getD b.toNat 0) + IntKind.u64.wrap (n + bits BinOp.xor IntKind.u64 (bits BinOp.xor IntKind.u64 (bits BinOp.and IntKind.u64 (a.getD 0 0) (a.getD 1 0)) (bits BinOp.and IntKind.u64 (a.getD 0 0) (a.getD 2 0))) (bits BinOp.and IntKind.u64 (a.getD 1 0) (a.getD 2 0))))) c, a.getD 0 0, a.getD 1 0, a.getD 2 0, bits BinOp.and IntKind.u64 (IntKind.u64.wrap (a.getD 3 0 + IntKind.u64.wrap (IntKind.u64.wrap (IntKind.u64.wrap (IntKind.u64.wrap (a.getD 7 0 + k) + bits BinOp.xor IntKind.u64 (bits BinOp.and IntKind.u64 (a.getD 4 0) (a.getD 5 0)) (bits BinOp.and IntKind.u64 (bits BinOp.xor IntKind.u64 c (a.getD 4 0)) (a.getD 6 0))) + d.getD b.toNat 0) + f.getD b.toNat 0))) c, a.getD 4 0, a.getD 5 0, a.getD 6 0]) none) none) none) none)) (m i j c b g h d e f a)
abbrev byu := Bool × Int × Int × Int × (List Int) × (List Int) × (List Int) × (List Int) × (List Int) × (List Int)
abbrev b5d := byu
def byi {ρ : Type} (f : byu → Option ρ) : b4i ρ := fun h i j g a b c d k e => f (h, i, j, g, a, b, c, d, k, e)
def bwg {ρ : Type} : adw byu b5d ρ := fun (g, h, i, f, a, b, c, d, j, e) next ex => adl g h i f a b c d j e (byi next) (byi ex)
def b6a {ρ : Type} := shut (lp (bwg (ρ := ρ)))
theorem ze39 {ρ : Type} : b6a (ρ := ρ) = lp bwg := av _
def bw6 {ρ : Type} (f : adx byu b5d ρ) (h : Bool) (i j g : Int) (a b c d k e : List Int) (l : b4i ρ) : Option ρ := f (h, i, j, g, a, b, c, d, k, e) (fun (h, i, j, g, a, b, c, d, k, e) => l h i j g a b c d k e)
def ajz {ρ : Type} := bw6 (lp (bwg (ρ := ρ)))
def adu {ρ : Type} := bw6 (b6a (ρ := ρ))
theorem aj6 {ρ : Type} : adu (ρ := ρ) = ajz := congrArg bw6 ze39
abbrev b2q (ρ : Type) := Int → Int → (List Int) → (List Int) → (List Int) → Option ρ
def adv {ρ : Type} (e a : Int) (b d c : List Int) (nx f : b2q ρ) : Option ρ := br (decide (a < 8)) (br (decide (0 ≤ a)) (br (decide (a < (↑8 : Int))) (br (decide (0 ≤ a)) (br (decide (a < (↑8 : Int))) (br (decide (0 ≤ a)) (br (decide (a < (↑8 : Int))) (nx e (IntKind.i64.wrap (a + 1)) b d (c.set a.toNat (bits BinOp.and IntKind.u64 (IntKind.u64.wrap (c.getD a.toNat 0 + b.getD a.toNat 0)) e))) none) none) none) none) none) none) (f e a b d c)
abbrev by1 := Int × Int × (List Int) × (List Int) × (List Int)
abbrev b62 := by1
def bxo {ρ : Type} (f : by1 → Option ρ) : b2q ρ := fun e d a b c => f (e, d, a, b, c)
def bvz {ρ : Type} : adw by1 b62 ρ := fun (e, d, a, b, c) next ex => adv e d a b c (bxo next) (bxo ex)
def b5z {ρ : Type} := shut (lp (bvz (ρ := ρ)))
theorem ze40 {ρ : Type} : b5z (ρ := ρ) = lp bvz := av _
def bwj {ρ : Type} (f : adx by1 b62 ρ) (e d : Int) (a b c : List Int) (g : b2q ρ) : Option ρ := f (e, d, a, b, c) (fun (e, d, a, b, c) => g e d a b c)
def ajg {ρ : Type} := bwj (lp (bvz (ρ := ρ)))
def adb {ρ : Type} := bwj (b5z (ρ := ρ))
theorem aj4 {ρ : Type} : adb (ρ := ρ) = ajg := congrArg bwj ze40
def afr {ρ : Type} (b c : List Int) (a : Bool) (k : (List Int) → Option ρ) : Option ρ := afa fun d => afc fun e => br a (aii c a 80 18446744073709551615 fun o => adu a 80 18446744073709551615 0 b [0, 0, 0, 0, 0, 0, 0, 0] d e o b fun N O p Q q r U s t f => adb p 0 q r f fun u v w y g => k g) (aii c a 64 4294967295 fun h => adu a 64 4294967295 0 b [0, 0, 0, 0, 0, 0, 0, 0] d e h b fun z A i B j l C F G m => adb i 0 j l m fun H I J M n => k n)
def al8 {ρ : Type} := shut (afr (ρ := ρ))
theorem atc {ρ : Type} (a : List Int) (b : List Int) (c : Bool) (k : (List Int) → Option ρ) : al8 a b c k = afr a b c k := by unfold al8; rw [av]

abbrev b4u (ρ : Type) := (List (List Int)) → Int → (List Int) → Option ρ
def aog {ρ : Type} (b : List (List Int)) (a : Int) (c : List Int) (nx d : b4u ρ) : Option ρ := br (decide (a < (↑b.length : Int))) (br (decide (0 ≤ a)) (br (decide (a < (↑b.length : Int))) (br (decide ((c.length + (b.getD a.toNat []).length) * 1 ≤ 140737488355328)) (nx b (IntKind.i64.wrap (a + 1)) (c ++ b.getD a.toNat [])) none) none) none) (d b a c)
abbrev bx8 := (List (List Int)) × Int × (List Int)
abbrev b7c := bx8
def b0j {ρ : Type} (f : bx8 → Option ρ) : b4u ρ := fun a b c => f (a, b, c)
def bxk {ρ : Type} : adw bx8 b7c ρ := fun (a, b, c) next ex => aog a b c (b0j next) (b0j ex)
def b6e {ρ : Type} := shut (lp (bxk (ρ := ρ)))
theorem ze41 {ρ : Type} : b6e (ρ := ρ) = lp bxk := av _
def by2 {ρ : Type} (f : adx bx8 b7c ρ) (a : List (List Int)) (b : Int) (c : List Int) (d : b4u ρ) : Option ρ := f (a, b, c) (fun (a, b, c) => d a b c)
def awe {ρ : Type} := by2 (lp (bxk (ρ := ρ)))
def avi {ρ : Type} := by2 (b6e (ρ := ρ))
theorem ayi {ρ : Type} : avi (ρ := ρ) = awe := congrArg by2 ze41
def al0 {ρ : Type} (a : List (List Int)) (k : (List Int) → Option ρ) : Option ρ := avi a 0 [] fun c d b => k b
def yg {ρ : Type} := shut (al0 (ρ := ρ))
theorem bhk {ρ : Type} (a : List (List Int)) (k : (List Int) → Option ρ) : yg a k = al0 a k := by unfold yg; rw [av]

def ajo {ρ : Type} (a : Int) (k : Int → Option ρ) : Option ρ := br (a == 1) (k 64) (k 128)
def ae3 {ρ : Type} := shut (ajo (ρ := ρ))
theorem be6 {ρ : Type} (a : Int) (k : Int → Option ρ) : ae3 a k = ajo a k := by unfold ae3; rw [av]

abbrev b0c (ρ : Type) := Int → (List Int) → Int → (List Int) → (List Int) → Int → Int → (List Int) → Int → Option ρ
def aiy {ρ : Type} (a : Int) (b : List Int) (c : Int) (d e : List Int) (f g : Int) (h : List Int) (i : Int) (nx j : b0c ρ) : Option ρ := br (decide ((↑b.length : Int) ≥ a)) (br (decide (0 ≤ a)) (br (decide (a ≤ (↑b.length : Int))) (al8 d (List.drop 0 (List.take a.toNat b)) (a == 128) fun k => br (decide (0 ≤ a)) (br (decide (a ≤ (↑b.length : Int))) (br (decide ((↑b.length : Int) ≤ (↑b.length : Int))) (nx a (List.drop a.toNat (List.take (↑b.length : Int).toNat b)) c k e f g h i) none) none) none) none) none) (j a b c d e f g h i)
abbrev byq := Int × (List Int) × Int × (List Int) × (List Int) × Int × Int × (List Int) × Int
abbrev b7a := byq
def bzr {ρ : Type} (f : byq → Option ρ) : b0c ρ := fun i j a b c d e g h => f (i, j, a, b, c, d, e, g, h)
def bu5 {ρ : Type} : adw byq b7a ρ := fun (h, i, a, b, c, d, e, f, g) next ex => aiy h i a b c d e f g (bzr next) (bzr ex)
def b69 {ρ : Type} := shut (lp (bu5 (ρ := ρ)))
theorem ze42 {ρ : Type} : b69 (ρ := ρ) = lp bu5 := av _
def bwx {ρ : Type} (f : adx byq b7a ρ) (i : Int) (j : List Int) (a : Int) (b c : List Int) (d e : Int) (g : List Int) (h : Int) (k : b0c ρ) : Option ρ := f (i, j, a, b, c, d, e, g, h) (fun (i, j, a, b, c, d, e, g, h) => k i j a b c d e g h)
def aro {ρ : Type} := bwx (lp (bu5 (ρ := ρ)))
def amn {ρ : Type} := bwx (b69 (ρ := ρ))
theorem aqe {ρ : Type} : amn (ρ := ρ) = aro := congrArg bwx ze42
def ank {ρ : Type} (a : Int) (c b : List Int) (d : Int) (e : List Int) (k : Int → (List Int) → (List Int) → Int → Option ρ) : Option ρ := ae3 a fun f => yg [b, e] fun g => amn f g a c b (IntKind.u64.wrap (d + IntKind.u64.wrap (↑e.length : Int))) 0 [0, 0, 0, 0, 0, 0, 0, 0] 0 fun n h i j o l p q m => k i j h l
def ahv {ρ : Type} := shut (ank (ρ := ρ))
theorem bka {ρ : Type} (b : Int) (a : List Int) (c : List Int) (d : Int) (e : List Int) (k : Int → (List Int) → (List Int) → Int → Option ρ) : ahv b a c d e k = ank b a c d e k := by unfold ahv; rw [av]

abbrev b0p (ρ : Type) := Int → Int → (List Int) → Option ρ
def axb {ρ : Type} (b a : Int) (c : List Int) (nx d : b0p ρ) : Option ρ := br (decide (a ≥ 0)) (br (decide (0 ≤ a)) (br (decide (a < (↑c.length : Int))) (nx (b.fdiv (2 ^ 8)) (IntKind.i64.wrap (a - 1)) (c.set a.toNat (IntKind.u8.wrap (bits BinOp.and IntKind.u64 b 255)))) none) none) (d b a c)
abbrev bym := Int × Int × (List Int)
abbrev b61 := bym
def b2b {ρ : Type} (f : bym → Option ρ) : b0p ρ := fun a b c => f (a, b, c)
def bxj {ρ : Type} : adw bym b61 ρ := fun (a, b, c) next ex => axb a b c (b2b next) (b2b ex)
def b6y {ρ : Type} := shut (lp (bxj (ρ := ρ)))
theorem ze43 {ρ : Type} : b6y (ρ := ρ) = lp bxj := av _
def bxu {ρ : Type} (f : adx bym b61 ρ) (a b : Int) (c : List Int) (d : b0p ρ) : Option ρ := f (a, b, c) (fun (a, b, c) => d a b c)
def bdi {ρ : Type} := bxu (lp (bxj (ρ := ρ)))
def be1 {ρ : Type} := bxu (b6y (ρ := ρ))
theorem bes {ρ : Type} : be1 (ρ := ρ) = bdi := congrArg bxu ze43
def ar8 {ρ : Type} (b a : Int) (k : (List Int) → Option ρ) : Option ρ := br (decide (a < 0)) (k []) (br (decide (a > 65536)) (k []) (br (decide (0 ≤ a)) (br (decide (a ≤ a)) (br (decide (a * (↑1 : Int) ≤ (↑140737488355328 : Int))) (be1 b (IntKind.i64.wrap (a - 1)) (List.replicate a.toNat (0 : Int)) fun d e c => k c) none) none) none))
def oz {ρ : Type} := shut (ar8 (ρ := ρ))
theorem bnx {ρ : Type} (a : Int) (b : Int) (k : (List Int) → Option ρ) : oz a b k = ar8 a b k := by unfold oz; rw [av]

end P
end
