/-
  LeaseOnce, part 11: an interpreter of my own over abstract values, the pure functions, the walks and the plain law.
-/

import Derived.Test.YtkfjafaabbmapaaDoorLeaseOnceH
import Derived.Test.YtkfjafaabbmapaaDoorLeaseOnceJ
import Derived.Test.YtkfjafaabbmapaaDoorLeaseOnceI

noncomputable section
open Go Go.Abs
set_option linter.unusedVariables false
namespace P

def aec {ρ : Type} (a : Int) (k : Int → Option ρ) : Option ρ := br (decide (0 ≤ a)) (br (decide (a < (↑64 : Int))) (k (roots256.getD a.toNat 0)) none) none
def lu {ρ : Type} := shut (aec (ρ := ρ))
theorem ah5 {ρ : Type} (a : Int) (k : Int → Option ρ) : lu a k = aec a k := by unfold lu; rw [dw]

def ql {ρ : Type} (a g : Int) (b c d e : List Int) (h f : Int) (k : Int → Option ρ) : Option ρ := br (decide (f < 0)) none (br (decide (IntKind.i64.wrap (a - f) < 0)) none (k (bits BinOp.or IntKind.u32 (h.fdiv (2 ^ min f.toNat 32)) (IntKind.u32.wrap (h * 2 ^ min (IntKind.i64.wrap (a - f)).toNat 32)))))
def ay {ρ : Type} := shut (ql (ρ := ρ))
theorem zl {ρ : Type} (f : Int) (e : Int) (a : List Int) (b : List Int) (c : List Int) (d : List Int) (g : Int) (h : Int) (k : Int → Option ρ) : ay f e a b c d g h k = ql f e a b c d g h k := by unfold ay; rw [dw]

def o8 {ρ : Type} (f e : Int) (a b c d : List Int) (g h : Int) (k : Int → Option ρ) : Option ρ := br (decide (h = (↑0 : Int))) (ay f e a b c d g (a.getD 0 0) fun l => ay f e a b c d g (a.getD 1 0) fun m => ay f e a b c d g (a.getD 2 0) fun n => k (bits BinOp.xor IntKind.u32 (bits BinOp.xor IntKind.u32 l m) n)) (br (decide (h = (↑1 : Int))) (ay f e a b c d g (b.getD 0 0) fun o => ay f e a b c d g (b.getD 1 0) fun p => ay f e a b c d g (b.getD 2 0) fun q => k (bits BinOp.xor IntKind.u32 (bits BinOp.xor IntKind.u32 o p) q)) (br (decide (h = (↑2 : Int))) (ay f e a b c d g (c.getD 0 0) fun r => ay f e a b c d g (c.getD 1 0) fun s => ay f e a b c d g (c.getD 2 0) fun t => k (bits BinOp.xor IntKind.u32 (bits BinOp.xor IntKind.u32 r s) t)) (br (decide (h = (↑3 : Int))) (ay f e a b c d g (d.getD 0 0) fun u => ay f e a b c d g (d.getD 1 0) fun i => ay f e a b c d g (d.getD 2 0) fun j => k (bits BinOp.xor IntKind.u32 (bits BinOp.xor IntKind.u32 u i) j)) none)))
def jf {ρ : Type} := shut (o8 (ρ := ρ))
theorem uz {ρ : Type} (f : Int) (e : Int) (a : List Int) (b : List Int) (c : List Int) (d : List Int) (g : Int) (h : Int) (k : Int → Option ρ) : jf f e a b c d g h k = o8 f e a b c d g h k := by unfold jf; rw [dw]

def qb {ρ : Type} (f e : Int) (a b c d : List Int) (g h : Int) (k : Int → Option ρ) : Option ρ := br (decide (h = (↑0 : Int))) (ay f e a b c d g (a.getD 0 (0 : Int)) fun i => ay f e a b c d g (a.getD 1 (0 : Int)) fun j => br (decide (a.getD 2 (0 : Int) < (0 : Int))) none (k (bits BinOp.xor IntKind.u32 (bits BinOp.xor IntKind.u32 i j) (g.fdiv ((2 : Int) ^ min (a.getD 2 (0 : Int)).toNat 32))))) (br (decide (h = (↑1 : Int))) (ay f e a b c d g (b.getD 0 (0 : Int)) fun l => ay f e a b c d g (b.getD 1 (0 : Int)) fun m => br (decide (b.getD 2 (0 : Int) < (0 : Int))) none (k (bits BinOp.xor IntKind.u32 (bits BinOp.xor IntKind.u32 l m) (g.fdiv ((2 : Int) ^ min (b.getD 2 (0 : Int)).toNat 32))))) (br (decide (h = (↑2 : Int))) (ay f e a b c d g (c.getD 0 (0 : Int)) fun n => ay f e a b c d g (c.getD 1 (0 : Int)) fun o => br (decide (c.getD 2 (0 : Int) < (0 : Int))) none (k (bits BinOp.xor IntKind.u32 (bits BinOp.xor IntKind.u32 n o) (g.fdiv ((2 : Int) ^ min (c.getD 2 (0 : Int)).toNat 32))))) (br (decide (h = (↑3 : Int))) (ay f e a b c d g (d.getD 0 (0 : Int)) fun p => ay f e a b c d g (d.getD 1 (0 : Int)) fun q => br (decide (d.getD 2 (0 : Int) < (0 : Int))) none (k (bits BinOp.xor IntKind.u32 (bits BinOp.xor IntKind.u32 p q) (g.fdiv ((2 : Int) ^ min (d.getD 2 (0 : Int)).toNat 32))))) none)))
def ji {ρ : Type} := shut (qb (ρ := ρ))
theorem vo {ρ : Type} (f : Int) (e : Int) (a : List Int) (b : List Int) (c : List Int) (d : List Int) (g : Int) (h : Int) (k : Int → Option ρ) : ji f e a b c d g h k = qb f e a b c d g h k := by unfold ji; rw [dw]

abbrev zc7 (ρ : Type) := (List Int) → Int → Int → Int → Int → (List Int) → (List Int) → (List Int) → (List Int) → (List Int) → (List Int) → (List Int) → Option ρ
def uq {ρ : Type} (l : List Int) (b a c d : Int) (e f g h i j k : List Int) (nx m : zc7 ρ) : Option ρ := br (decide (a < 16)) (br (decide (0 ≤ IntKind.i64.wrap (a * b))) (br (decide (IntKind.i64.wrap (a * b) ≤ IntKind.i64.wrap (IntKind.i64.wrap (a + 1) * b))) (br (decide (IntKind.i64.wrap (IntKind.i64.wrap (a + 1) * b) ≤ (↑l.length : Int))) (pq (List.drop (IntKind.i64.wrap (a * b)).toNat (List.take (IntKind.i64.wrap (IntKind.i64.wrap (a + 1) * b)).toNat l)) fun n => br (decide (0 ≤ a)) (br (decide (a < (↑16 : Int))) (nx l b (IntKind.i64.wrap (a + 1)) c d e f g h i j (k.set a.toNat (IntKind.u32.wrap n))) none) none) none) none) none) (m l b a c d e f g h i j k)
abbrev zt7 := (List Int) × Int × Int × Int × Int × (List Int) × (List Int) × (List Int) × (List Int) × (List Int) × (List Int) × (List Int)
abbrev zy7 := zt7
def zu7 {ρ : Type} (f : zt7 → Option ρ) : zc7 ρ := fun l m k a b c d e g h i j => f (l, m, k, a, b, c, d, e, g, h, i, j)
def zs7 {ρ : Type} : ag9 zt7 zy7 ρ := fun (k, l, j, a, b, c, d, e, f, g, h, i) next ex => uq k l j a b c d e f g h i (zu7 next) (zu7 ex)
def zm7 {ρ : Type} := shut (lp (zs7 (ρ := ρ)))
theorem ze7 {ρ : Type} : zm7 (ρ := ρ) = lp zs7 := dw _
def zk7 {ρ : Type} (f : agy zt7 zy7 ρ) (l : List Int) (m k a b : Int) (c d e g h i j : List Int) (n : zc7 ρ) : Option ρ := f (l, m, k, a, b, c, d, e, g, h, i, j) (fun (l, m, k, a, b, c, d, e, g, h, i, j) => n l m k a b c d e g h i j)
def aa3 {ρ : Type} := zk7 (lp (zs7 (ρ := ρ)))
def uo {ρ : Type} := zk7 (zm7 (ρ := ρ))
theorem adf {ρ : Type} : uo (ρ := ρ) = aa3 := congrArg zk7 ze7
abbrev zc8 (ρ : Type) := Int → Int → (List Int) → (List Int) → (List Int) → Int → Int → (List Int) → (List Int) → (List Int) → (List Int) → (List Int) → Option ρ
def uj {ρ : Type} (j b : Int) (c k l : List Int) (d e : Int) (f g h i a : List Int) (nx o : zc8 ρ) : Option ρ := br (decide (b < j)) (br (decide (0 ≤ b.tmod 16)) (br (decide (b.tmod 16 < (↑16 : Int))) (jf d e f g h i (a.getD 4 0) 3 fun m => lu b fun n => jf d e f g h i (a.getD 0 0) 2 fun p => br (decide (0 ≤ (IntKind.i64.wrap (b + 1)).tmod 16)) (br (decide ((IntKind.i64.wrap (b + 1)).tmod 16 < (↑16 : Int))) (ji d e f g h i (c.getD ((IntKind.i64.wrap (b + 1)).tmod 16).toNat 0) 0 fun q => br (decide (0 ≤ (IntKind.i64.wrap (b + 9)).tmod 16)) (br (decide ((IntKind.i64.wrap (b + 9)).tmod 16 < (↑16 : Int))) (br (decide (0 ≤ (IntKind.i64.wrap (b + 14)).tmod 16)) (br (decide ((IntKind.i64.wrap (b + 14)).tmod 16 < (↑16 : Int))) (ji d e f g h i (c.getD ((IntKind.i64.wrap (b + 14)).tmod 16).toNat 0) 1 fun r => br (decide (0 ≤ b.tmod 16)) (br (decide (b.tmod 16 < (↑16 : Int))) (nx j (IntKind.i64.wrap (b + 1)) (c.set (b.tmod 16).toNat (IntKind.u32.wrap (IntKind.u32.wrap (IntKind.u32.wrap (c.getD (b.tmod 16).toNat 0 + q) + c.getD ((IntKind.i64.wrap (b + 9)).tmod 16).toNat 0) + r))) k l d e f g h i ((((List.take 1 a).append (List.take 7 (List.take 7 (List.drop 0 a)) ++ List.drop (1 + min 7 (List.take 7 (List.drop 0 a)).length) a)).set 4 (IntKind.u32.wrap (((List.take 1 a).append (List.take 7 (List.take 7 (List.drop 0 a)) ++ List.drop (1 + min 7 (List.take 7 (List.drop 0 a)).length) a)).getD 4 0 + IntKind.u32.wrap (IntKind.u32.wrap (IntKind.u32.wrap (IntKind.u32.wrap (a.getD 7 0 + m) + bits BinOp.xor IntKind.u32 (a.getD 6 0) (bits BinOp.and IntKind.u32 (a.getD 4 0) (bits BinOp.xor IntKind.u32 (a.getD 5 0) (a.getD 6 0)))) + n) + c.getD (b.tmod 16).toNat 0)))).set 0 (IntKind.u32.wrap (IntKind.u32.wrap (IntKind.u32.wrap (IntKind.u32.wrap (IntKind.u32.wrap (a.getD 7 0 + m) + bits BinOp.xor IntKind.u32 (a.getD 6 0) (bits BinOp.and IntKind.u32 (a.getD 4 0) (bits BinOp.xor IntKind.u32 (a.getD 5 0) (a.getD 6 0)))) + n) + c.getD (b.tmod 16).toNat 0) + IntKind.u32.wrap (p + bits BinOp.or IntKind.u32 (bits BinOp.and IntKind.u32 (a.getD 0 0) (a.getD 1 0)) (bits BinOp.and IntKind.u32 (a.getD 2 0) (bits BinOp.or IntKind.u32 (a.getD 0 0) (a.getD 1 0)))))))) none) none) none) none) none) none) none) none) none) none) (o j b c k l d e f g h i a)
abbrev zt8 := Int × Int × (List Int) × (List Int) × (List Int) × Int × Int × (List Int) × (List Int) × (List Int) × (List Int) × (List Int)
abbrev zy8 := zt8
def zu8 {ρ : Type} (f : zt8 → Option ρ) : zc8 ρ := fun l m a b c d e g h i j k => f (l, m, a, b, c, d, e, g, h, i, j, k)
def zs8 {ρ : Type} : ag9 zt8 zy8 ρ := fun (k, l, a, b, c, d, e, f, g, h, i, j) next ex => uj k l a b c d e f g h i j (zu8 next) (zu8 ex)
def zm8 {ρ : Type} := shut (lp (zs8 (ρ := ρ)))
theorem ze8 {ρ : Type} : zm8 (ρ := ρ) = lp zs8 := dw _
def zk8 {ρ : Type} (f : agy zt8 zy8 ρ) (l m : Int) (a b c : List Int) (d e : Int) (g h i j k : List Int) (n : zc8 ρ) : Option ρ := f (l, m, a, b, c, d, e, g, h, i, j, k) (fun (l, m, a, b, c, d, e, g, h, i, j, k) => n l m a b c d e g h i j k)
def aaq {ρ : Type} := zk8 (lp (zs8 (ρ := ρ)))
def ow {ρ : Type} := zk8 (zm8 (ρ := ρ))
theorem ac9 {ρ : Type} : ow (ρ := ρ) = aaq := congrArg zk8 ze8
abbrev zc9 (ρ : Type) := Int → (List Int) → (List Int) → (List Int) → Option ρ
def ug {ρ : Type} (a : Int) (b d c : List Int) (nx e : zc9 ρ) : Option ρ := br (decide (a < 8)) (br (decide (0 ≤ a)) (br (decide (a < (↑8 : Int))) (br (decide (0 ≤ a)) (br (decide (a < (↑8 : Int))) (br (decide (0 ≤ a)) (br (decide (a < (↑8 : Int))) (nx (IntKind.i64.wrap (a + 1)) b d (c.set a.toNat (IntKind.u32.wrap (c.getD a.toNat 0 + b.getD a.toNat 0)))) none) none) none) none) none) none) (e a b d c)
abbrev zt9 := Int × (List Int) × (List Int) × (List Int)
abbrev zy9 := zt9
def zu9 {ρ : Type} (f : zt9 → Option ρ) : zc9 ρ := fun a b c d => f (a, b, c, d)
def zs9 {ρ : Type} : ag9 zt9 zy9 ρ := fun (a, b, c, d) next ex => ug a b c d (zu9 next) (zu9 ex)
def zm9 {ρ : Type} := shut (lp (zs9 (ρ := ρ)))
theorem ze9 {ρ : Type} : zm9 (ρ := ρ) = lp zs9 := dw _
def zk9 {ρ : Type} (f : agy zt9 zy9 ρ) (a : Int) (b c d : List Int) (e : zc9 ρ) : Option ρ := f (a, b, c, d) (fun (a, b, c, d) => e a b c d)
def aad {ρ : Type} := zk9 (lp (zs9 (ρ := ρ)))
def ou {ρ : Type} := zk9 (zm9 (ρ := ρ))
theorem ac6 {ρ : Type} : ou (ρ := ρ) = aad := congrArg zk9 ze9
def ru {ρ : Type} (a f : Int) (b c d e p q : List Int) (k : (List Int) → Option ρ) : Option ρ := uo q (IntKind.i64.wrap (a.tdiv 8)) 0 a f b c d e p [0, 0, 0, 0, 0, 0, 0, 0] [0, 0, 0, 0, 0, 0, 0, 0, 0, 0, 0, 0, 0, 0, 0, 0] fun N O Q r g s t u v h i j => ow g 0 j i h r g s t u v h fun w y z l m A B C F G H n => ou 0 m l n fun I J M o => k o
def jq {ρ : Type} := shut (ru (ρ := ρ))
theorem aa4 {ρ : Type} (f : Int) (e : Int) (a : List Int) (b : List Int) (c : List Int) (d : List Int) (g : List Int) (h : List Int) (k : (List Int) → Option ρ) : jq f e a b c d g h k = ru f e a b c d g h k := by unfold jq; rw [dw]

abbrev bm8 (ρ : Type) := (List Int) → (List Int) → Int → Int → Int → (List Int) → (List Int) → (List Int) → (List Int) → (List Int) → (List Int) → (List Int) → Option ρ
def aap {ρ : Type} (l b : List Int) (a c d : Int) (e f g h i j k : List Int) (nx m : bm8 ρ) : Option ρ := br (decide (a < 8)) (br (decide (0 ≤ a)) (br (decide (a < (↑8 : Int))) (br (decide (0 ≤ a)) (br (decide (a < (↑8 : Int))) (nx l b (IntKind.i64.wrap (a + 1)) c d e f g h i j (k.set a.toNat (IntKind.u32.wrap (b.getD a.toNat 0)))) none) none) none) none) (m l b a c d e f g h i j k)
abbrev bjl := (List Int) × (List Int) × Int × Int × Int × (List Int) × (List Int) × (List Int) × (List Int) × (List Int) × (List Int) × (List Int)
abbrev bof := bjl
def bng {ρ : Type} (f : bjl → Option ρ) : bm8 ρ := fun m k l a b c d e g h i j => f (m, k, l, a, b, c, d, e, g, h, i, j)
def bic {ρ : Type} : ag9 bjl bof ρ := fun (l, j, k, a, b, c, d, e, f, g, h, i) next ex => aap l j k a b c d e f g h i (bng next) (bng ex)
def bl3 {ρ : Type} := shut (lp (bic (ρ := ρ)))
theorem bqe {ρ : Type} : bl3 (ρ := ρ) = lp bic := dw _
def bky {ρ : Type} (f : agy bjl bof ρ) (m k : List Int) (l a b : Int) (c d e g h i j : List Int) (n : bm8 ρ) : Option ρ := f (m, k, l, a, b, c, d, e, g, h, i, j) (fun (m, k, l, a, b, c, d, e, g, h, i, j) => n m k l a b c d e g h i j)
def ac4 {ρ : Type} := bky (lp (bic (ρ := ρ)))
def aah {ρ : Type} := bky (bl3 (ρ := ρ))
theorem afe {ρ : Type} : aah (ρ := ρ) = ac4 := congrArg bky bqe
abbrev bm7 (ρ : Type) := (List Int) → Int → (List Int) → (List Int) → (List Int) → Int → Int → (List Int) → (List Int) → (List Int) → (List Int) → Option ρ
def aae {ρ : Type} (b : List Int) (a : Int) (i j k : List Int) (c d : Int) (e f g h : List Int) (nx l : bm7 ρ) : Option ρ := br (decide ((↑b.length : Int) ≥ a)) (br (decide (0 ≤ a)) (br (decide (a ≤ (↑b.length : Int))) (jq c d e f g h i (List.drop 0 (List.take a.toNat b)) fun m => br (decide (0 ≤ a)) (br (decide (a ≤ (↑b.length : Int))) (br (decide ((↑b.length : Int) ≤ (↑b.length : Int))) (nx (List.drop a.toNat (List.take (↑b.length : Int).toNat b)) a m j k c d e f g h) none) none) none) none) none) (l b a i j k c d e f g h)
abbrev bj9 := (List Int) × Int × (List Int) × (List Int) × (List Int) × Int × Int × (List Int) × (List Int) × (List Int) × (List Int)
abbrev bon := bj9
def bog {ρ : Type} (f : bj9 → Option ρ) : bm7 ρ := fun l k a b c d e g h i j => f (l, k, a, b, c, d, e, g, h, i, j)
def bjn {ρ : Type} : ag9 bj9 bon ρ := fun (k, j, a, b, c, d, e, f, g, h, i) next ex => aae k j a b c d e f g h i (bog next) (bog ex)
def bnq {ρ : Type} := shut (lp (bjn (ρ := ρ)))
theorem bp1 {ρ : Type} : bnq (ρ := ρ) = lp bjn := dw _
def bk7 {ρ : Type} (f : agy bj9 bon ρ) (l : List Int) (k : Int) (a b c : List Int) (d e : Int) (g h i j : List Int) (m : bm7 ρ) : Option ρ := f (l, k, a, b, c, d, e, g, h, i, j) (fun (l, k, a, b, c, d, e, g, h, i, j) => m l k a b c d e g h i j)
def ac8 {ρ : Type} := bk7 (lp (bjn (ρ := ρ)))
def aam {ρ : Type} := bk7 (bnq (ρ := ρ))
theorem afi {ρ : Type} : aam (ρ := ρ) = ac8 := congrArg bk7 bp1
abbrev bn9 (ρ : Type) := (List Int) → (List Int) → Int → (List Int) → (List Int) → Option ρ
def za {ρ : Type} (e b : List Int) (a : Int) (c d : List Int) (nx f : bn9 ρ) : Option ρ := br (decide (a < 8)) (br (decide (0 ≤ a)) (br (decide (a < (↑8 : Int))) (br (decide (0 ≤ a)) (br (decide (a < (↑8 : Int))) (nx e b (IntKind.i64.wrap (a + 1)) (c.set a.toNat (IntKind.u64.wrap (b.getD a.toNat 0))) d) none) none) none) none) (f e b a c d)
abbrev bje := (List Int) × (List Int) × Int × (List Int) × (List Int)
abbrev bm1 := bje
def boe {ρ : Type} (f : bje → Option ρ) : bn9 ρ := fun e c d a b => f (e, c, d, a, b)
def zs12 {ρ : Type} : ag9 bje bm1 ρ := fun (e, c, d, a, b) next ex => za e c d a b (boe next) (boe ex)
def bnv {ρ : Type} := shut (lp (zs12 (ρ := ρ)))
theorem bp4 {ρ : Type} : bnv (ρ := ρ) = lp zs12 := dw _
def bki {ρ : Type} (f : agy bje bm1 ρ) (e c : List Int) (d : Int) (a b : List Int) (g : bn9 ρ) : Option ρ := f (e, c, d, a, b) (fun (e, c, d, a, b) => g e c d a b)
def ab2 {ρ : Type} := bki (lp (zs12 (ρ := ρ)))
def ze {ρ : Type} := bki (bnv (ρ := ρ))
theorem ae9 {ρ : Type} : ze (ρ := ρ) = ab2 := congrArg bki bp4
def y8 {ρ : Type} (f e : Int) (a b c d g r : List Int) (k : (List Int) → (List Int) → Option ρ) : Option ρ := aah r g 0 f e a b c d g [0, 0, 0, 0, 0, 0, 0, 0] [0, 0, 0, 0, 0, 0, 0, 0] fun s O Q h t u v w y z i j => aam s (IntKind.i64.wrap (h * 2)) j i z h t u v w y fun l A m n o B C F G H I => ze l m 0 o n fun p J M q N => k q p
def l8 {ρ : Type} := shut (y8 (ρ := ρ))
theorem acv {ρ : Type} (f : Int) (e : Int) (a : List Int) (b : List Int) (c : List Int) (d : List Int) (g : List Int) (h : List Int) (k : (List Int) → (List Int) → Option ρ) : l8 f e a b c d g h k = y8 f e a b c d g h k := by unfold l8; rw [dw]

def ajv {ρ : Type} (k : Int → Int → (List Int) → (List Int) → (List Int) → (List Int) → Option ρ) : Option ρ := k 32 64 [7, 18, 3] [17, 19, 10] [2, 13, 22] [6, 11, 25]
def aar {ρ : Type} := shut (ajv (ρ := ρ))
theorem ama {ρ : Type}  (k : Int → Int → (List Int) → (List Int) → (List Int) → (List Int) → Option ρ) : aar  k = ajv  k := by unfold aar; rw [dw]

def ady {ρ : Type} (a : Int) (k : Int → Option ρ) : Option ρ := br (decide (0 ≤ a)) (br (decide (a < (↑80 : Int))) (k (roots512.getD a.toNat 0)) none) none
def lq {ρ : Type} := shut (ady (ρ := ρ))
theorem ah7 {ρ : Type} (a : Int) (k : Int → Option ρ) : lq a k = ady a k := by unfold lq; rw [dw]

def qm {ρ : Type} (a g : Int) (b c d e : List Int) (h f : Int) (k : Int → Option ρ) : Option ρ := br (decide (f < 0)) none (br (decide (IntKind.i64.wrap (a - f) < 0)) none (k (bits BinOp.or IntKind.u64 (h.fdiv (2 ^ min f.toNat 64)) (IntKind.u64.wrap (h * 2 ^ min (IntKind.i64.wrap (a - f)).toNat 64)))))
def av {ρ : Type} := shut (qm (ρ := ρ))
theorem zk {ρ : Type} (f : Int) (e : Int) (a : List Int) (b : List Int) (c : List Int) (d : List Int) (g : Int) (h : Int) (k : Int → Option ρ) : av f e a b c d g h k = qm f e a b c d g h k := by unfold av; rw [dw]

def o7 {ρ : Type} (f e : Int) (a b c d : List Int) (g h : Int) (k : Int → Option ρ) : Option ρ := br (decide (h = (↑0 : Int))) (av f e a b c d g (a.getD 0 0) fun l => av f e a b c d g (a.getD 1 0) fun m => av f e a b c d g (a.getD 2 0) fun n => k (bits BinOp.xor IntKind.u64 (bits BinOp.xor IntKind.u64 l m) n)) (br (decide (h = (↑1 : Int))) (av f e a b c d g (b.getD 0 0) fun o => av f e a b c d g (b.getD 1 0) fun p => av f e a b c d g (b.getD 2 0) fun q => k (bits BinOp.xor IntKind.u64 (bits BinOp.xor IntKind.u64 o p) q)) (br (decide (h = (↑2 : Int))) (av f e a b c d g (c.getD 0 0) fun r => av f e a b c d g (c.getD 1 0) fun s => av f e a b c d g (c.getD 2 0) fun t => k (bits BinOp.xor IntKind.u64 (bits BinOp.xor IntKind.u64 r s) t)) (br (decide (h = (↑3 : Int))) (av f e a b c d g (d.getD 0 0) fun u => av f e a b c d g (d.getD 1 0) fun i => av f e a b c d g (d.getD 2 0) fun j => k (bits BinOp.xor IntKind.u64 (bits BinOp.xor IntKind.u64 u i) j)) none)))
def je {ρ : Type} := shut (o7 (ρ := ρ))
theorem u7 {ρ : Type} (f : Int) (e : Int) (a : List Int) (b : List Int) (c : List Int) (d : List Int) (g : Int) (h : Int) (k : Int → Option ρ) : je f e a b c d g h k = o7 f e a b c d g h k := by unfold je; rw [dw]

def qc {ρ : Type} (f e : Int) (a b c d : List Int) (g h : Int) (k : Int → Option ρ) : Option ρ := br (decide (h = (↑0 : Int))) (av f e a b c d g (a.getD 0 (0 : Int)) fun i => av f e a b c d g (a.getD 1 (0 : Int)) fun j => br (decide (a.getD 2 (0 : Int) < (0 : Int))) none (k (bits BinOp.xor IntKind.u64 (bits BinOp.xor IntKind.u64 i j) (g.fdiv ((2 : Int) ^ min (a.getD 2 (0 : Int)).toNat 64))))) (br (decide (h = (↑1 : Int))) (av f e a b c d g (b.getD 0 (0 : Int)) fun l => av f e a b c d g (b.getD 1 (0 : Int)) fun m => br (decide (b.getD 2 (0 : Int) < (0 : Int))) none (k (bits BinOp.xor IntKind.u64 (bits BinOp.xor IntKind.u64 l m) (g.fdiv ((2 : Int) ^ min (b.getD 2 (0 : Int)).toNat 64))))) (br (decide (h = (↑2 : Int))) (av f e a b c d g (c.getD 0 (0 : Int)) fun n => av f e a b c d g (c.getD 1 (0 : Int)) fun o => br (decide (c.getD 2 (0 : Int) < (0 : Int))) none (k (bits BinOp.xor IntKind.u64 (bits BinOp.xor IntKind.u64 n o) (g.fdiv ((2 : Int) ^ min (c.getD 2 (0 : Int)).toNat 64))))) (br (decide (h = (↑3 : Int))) (av f e a b c d g (d.getD 0 (0 : Int)) fun p => av f e a b c d g (d.getD 1 (0 : Int)) fun q => br (decide (d.getD 2 (0 : Int) < (0 : Int))) none (k (bits BinOp.xor IntKind.u64 (bits BinOp.xor IntKind.u64 p q) (g.fdiv ((2 : Int) ^ min (d.getD 2 (0 : Int)).toNat 64))))) none)))
def jl {ρ : Type} := shut (qc (ρ := ρ))
theorem wz {ρ : Type} (f : Int) (e : Int) (a : List Int) (b : List Int) (c : List Int) (d : List Int) (g : Int) (h : Int) (k : Int → Option ρ) : jl f e a b c d g h k = qc f e a b c d g h k := by unfold jl; rw [dw]

abbrev bmj (ρ : Type) := (List Int) → Int → Int → Int → Int → (List Int) → (List Int) → (List Int) → (List Int) → (List Int) → (List Int) → (List Int) → Option ρ
def um {ρ : Type} (l : List Int) (b a c d : Int) (e f g h i j k : List Int) (nx m : bmj ρ) : Option ρ := br (decide (a < 16)) (br (decide (0 ≤ IntKind.i64.wrap (a * b))) (br (decide (IntKind.i64.wrap (a * b) ≤ IntKind.i64.wrap (IntKind.i64.wrap (a + 1) * b))) (br (decide (IntKind.i64.wrap (IntKind.i64.wrap (a + 1) * b) ≤ (↑l.length : Int))) (pq (List.drop (IntKind.i64.wrap (a * b)).toNat (List.take (IntKind.i64.wrap (IntKind.i64.wrap (a + 1) * b)).toNat l)) fun n => br (decide (0 ≤ a)) (br (decide (a < (↑16 : Int))) (nx l b (IntKind.i64.wrap (a + 1)) c d e f g h i j (k.set a.toNat n)) none) none) none) none) none) (m l b a c d e f g h i j k)
abbrev bjw := (List Int) × Int × Int × Int × Int × (List Int) × (List Int) × (List Int) × (List Int) × (List Int) × (List Int) × (List Int)
abbrev bmy := bjw
def bo2 {ρ : Type} (f : bjw → Option ρ) : bmj ρ := fun l m k a b c d e g h i j => f (l, m, k, a, b, c, d, e, g, h, i, j)
def bhn {ρ : Type} : ag9 bjw bmy ρ := fun (k, l, j, a, b, c, d, e, f, g, h, i) next ex => um k l j a b c d e f g h i (bo2 next) (bo2 ex)
def bpb {ρ : Type} := shut (lp (bhn (ρ := ρ)))
theorem bpn {ρ : Type} : bpb (ρ := ρ) = lp bhn := dw _
def bko {ρ : Type} (f : agy bjw bmy ρ) (l : List Int) (m k a b : Int) (c d e g h i j : List Int) (n : bmj ρ) : Option ρ := f (l, m, k, a, b, c, d, e, g, h, i, j) (fun (l, m, k, a, b, c, d, e, g, h, i, j) => n l m k a b c d e g h i j)
def aa1 {ρ : Type} := bko (lp (bhn (ρ := ρ)))
def uw {ρ : Type} := bko (bpb (ρ := ρ))
theorem adk {ρ : Type} : uw (ρ := ρ) = aa1 := congrArg bko bpn
abbrev bm9 (ρ : Type) := Int → Int → (List Int) → (List Int) → (List Int) → Int → Int → (List Int) → (List Int) → (List Int) → (List Int) → (List Int) → Option ρ
def uh {ρ : Type} (j b : Int) (c k l : List Int) (d e : Int) (f g h i a : List Int) (nx o : bm9 ρ) : Option ρ := br (decide (b < j)) (br (decide (0 ≤ b.tmod 16)) (br (decide (b.tmod 16 < (↑16 : Int))) (je d e f g h i (a.getD 4 0) 3 fun m => lq b fun n => je d e f g h i (a.getD 0 0) 2 fun p => br (decide (0 ≤ (IntKind.i64.wrap (b + 1)).tmod 16)) (br (decide ((IntKind.i64.wrap (b + 1)).tmod 16 < (↑16 : Int))) (jl d e f g h i (c.getD ((IntKind.i64.wrap (b + 1)).tmod 16).toNat 0) 0 fun q => br (decide (0 ≤ (IntKind.i64.wrap (b + 9)).tmod 16)) (br (decide ((IntKind.i64.wrap (b + 9)).tmod 16 < (↑16 : Int))) (br (decide (0 ≤ (IntKind.i64.wrap (b + 14)).tmod 16)) (br (decide ((IntKind.i64.wrap (b + 14)).tmod 16 < (↑16 : Int))) (jl d e f g h i (c.getD ((IntKind.i64.wrap (b + 14)).tmod 16).toNat 0) 1 fun r => br (decide (0 ≤ b.tmod 16)) (br (decide (b.tmod 16 < (↑16 : Int))) (nx j (IntKind.i64.wrap (b + 1)) (c.set (b.tmod 16).toNat (IntKind.u64.wrap (IntKind.u64.wrap (IntKind.u64.wrap (c.getD (b.tmod 16).toNat 0 + q) + c.getD ((IntKind.i64.wrap (b + 9)).tmod 16).toNat 0) + r))) k l d e f g h i ((((List.take 1 a).append (List.take 7 (List.take 7 (List.drop 0 a)) ++ List.drop (1 + min 7 (List.take 7 (List.drop 0 a)).length) a)).set 4 (IntKind.u64.wrap (((List.take 1 a).append (List.take 7 (List.take 7 (List.drop 0 a)) ++ List.drop (1 + min 7 (List.take 7 (List.drop 0 a)).length) a)).getD 4 0 + IntKind.u64.wrap (IntKind.u64.wrap (IntKind.u64.wrap (IntKind.u64.wrap (a.getD 7 0 + m) + bits BinOp.xor IntKind.u64 (a.getD 6 0) (bits BinOp.and IntKind.u64 (a.getD 4 0) (bits BinOp.xor IntKind.u64 (a.getD 5 0) (a.getD 6 0)))) + n) + c.getD (b.tmod 16).toNat 0)))).set 0 (IntKind.u64.wrap (IntKind.u64.wrap (IntKind.u64.wrap (IntKind.u64.wrap (IntKind.u64.wrap (a.getD 7 0 + m) + bits BinOp.xor IntKind.u64 (a.getD 6 0) (bits BinOp.and IntKind.u64 (a.getD 4 0) (bits BinOp.xor IntKind.u64 (a.getD 5 0) (a.getD 6 0)))) + n) + c.getD (b.tmod 16).toNat 0) + IntKind.u64.wrap (p + bits BinOp.or IntKind.u64 (bits BinOp.and IntKind.u64 (a.getD 0 0) (a.getD 1 0)) (bits BinOp.and IntKind.u64 (a.getD 2 0) (bits BinOp.or IntKind.u64 (a.getD 0 0) (a.getD 1 0)))))))) none) none) none) none) none) none) none) none) none) none) (o j b c k l d e f g h i a)
abbrev bhx := Int × Int × (List Int) × (List Int) × (List Int) × Int × Int × (List Int) × (List Int) × (List Int) × (List Int) × (List Int)
abbrev bni := bhx
def bny {ρ : Type} (f : bhx → Option ρ) : bm9 ρ := fun l m a b c d e g h i j k => f (l, m, a, b, c, d, e, g, h, i, j, k)
def bjk {ρ : Type} : ag9 bhx bni ρ := fun (k, l, a, b, c, d, e, f, g, h, i, j) next ex => uh k l a b c d e f g h i j (bny next) (bny ex)
def bls {ρ : Type} := shut (lp (bjk (ρ := ρ)))
theorem bpp {ρ : Type} : bls (ρ := ρ) = lp bjk := dw _
def bk9 {ρ : Type} (f : agy bhx bni ρ) (l m : Int) (a b c : List Int) (d e : Int) (g h i j k : List Int) (n : bm9 ρ) : Option ρ := f (l, m, a, b, c, d, e, g, h, i, j, k) (fun (l, m, a, b, c, d, e, g, h, i, j, k) => n l m a b c d e g h i j k)
def aao {ρ : Type} := bk9 (lp (bjk (ρ := ρ)))
def og {ρ : Type} := bk9 (bls (ρ := ρ))
theorem ac0 {ρ : Type} : og (ρ := ρ) = aao := congrArg bk9 bpp
abbrev bmu (ρ : Type) := Int → (List Int) → (List Int) → (List Int) → Option ρ
def rz {ρ : Type} (a : Int) (b d c : List Int) (nx e : bmu ρ) : Option ρ := br (decide (a < 8)) (br (decide (0 ≤ a)) (br (decide (a < (↑8 : Int))) (br (decide (0 ≤ a)) (br (decide (a < (↑8 : Int))) (br (decide (0 ≤ a)) (br (decide (a < (↑8 : Int))) (nx (IntKind.i64.wrap (a + 1)) b d (c.set a.toNat (IntKind.u64.wrap (c.getD a.toNat 0 + b.getD a.toNat 0)))) none) none) none) none) none) none) (e a b d c)
abbrev bj0 := Int × (List Int) × (List Int) × (List Int)
abbrev boc := bj0
def bl0 {ρ : Type} (f : bj0 → Option ρ) : bmu ρ := fun a b c d => f (a, b, c, d)
def bi5 {ρ : Type} : ag9 bj0 boc ρ := fun (a, b, c, d) next ex => rz a b c d (bl0 next) (bl0 ex)
def bnt {ρ : Type} := shut (lp (bi5 (ρ := ρ)))
theorem bp0 {ρ : Type} : bnt (ρ := ρ) = lp bi5 := dw _
def blb {ρ : Type} (f : agy bj0 boc ρ) (a : Int) (b c d : List Int) (e : bmu ρ) : Option ρ := f (a, b, c, d) (fun (a, b, c, d) => e a b c d)
def aan {ρ : Type} := blb (lp (bi5 (ρ := ρ)))
def om {ρ : Type} := blb (bnt (ρ := ρ))
theorem ac5 {ρ : Type} : om (ρ := ρ) = aan := congrArg blb bp0
def su {ρ : Type} (a f : Int) (b c d e p q : List Int) (k : (List Int) → Option ρ) : Option ρ := uw q (IntKind.i64.wrap (a.tdiv 8)) 0 a f b c d e p [0, 0, 0, 0, 0, 0, 0, 0] [0, 0, 0, 0, 0, 0, 0, 0, 0, 0, 0, 0, 0, 0, 0, 0] fun N O Q r g s t u v h i j => og g 0 j i h r g s t u v h fun w y z l m A B C F G H n => om 0 m l n fun I J M o => k o
def jr {ρ : Type} := shut (su (ρ := ρ))
theorem aa2 {ρ : Type} (f : Int) (e : Int) (a : List Int) (b : List Int) (c : List Int) (d : List Int) (g : List Int) (h : List Int) (k : (List Int) → Option ρ) : jr f e a b c d g h k = su f e a b c d g h k := by unfold jr; rw [dw]

abbrev bor (ρ : Type) := (List Int) → (List Int) → Int → Int → Int → (List Int) → (List Int) → (List Int) → (List Int) → (List Int) → (List Int) → (List Int) → Option ρ
def zy {ρ : Type} (l b : List Int) (a c d : Int) (e f g h i j k : List Int) (nx m : bor ρ) : Option ρ := br (decide (a < 8)) (br (decide (0 ≤ a)) (br (decide (a < (↑8 : Int))) (br (decide (0 ≤ a)) (br (decide (a < (↑8 : Int))) (nx l b (IntKind.i64.wrap (a + 1)) c d e f g h i j (k.set a.toNat (b.getD a.toNat 0))) none) none) none) none) (m l b a c d e f g h i j k)
abbrev bi4 := (List Int) × (List Int) × Int × Int × Int × (List Int) × (List Int) × (List Int) × (List Int) × (List Int) × (List Int) × (List Int)
abbrev boj := bi4
def bmn {ρ : Type} (f : bi4 → Option ρ) : bor ρ := fun m k l a b c d e g h i j => f (m, k, l, a, b, c, d, e, g, h, i, j)
def bjy {ρ : Type} : ag9 bi4 boj ρ := fun (l, j, k, a, b, c, d, e, f, g, h, i) next ex => zy l j k a b c d e f g h i (bmn next) (bmn ex)
def bnp {ρ : Type} := shut (lp (bjy (ρ := ρ)))
theorem bpy {ρ : Type} : bnp (ρ := ρ) = lp bjy := dw _
def bk5 {ρ : Type} (f : agy bi4 boj ρ) (m k : List Int) (l a b : Int) (c d e g h i j : List Int) (n : bor ρ) : Option ρ := f (m, k, l, a, b, c, d, e, g, h, i, j) (fun (m, k, l, a, b, c, d, e, g, h, i, j) => n m k l a b c d e g h i j)
def ac7 {ρ : Type} := bk5 (lp (bjy (ρ := ρ)))
def aag {ρ : Type} := bk5 (bnp (ρ := ρ))
theorem afg {ρ : Type} : aag (ρ := ρ) = ac7 := congrArg bk5 bpy
abbrev blr (ρ : Type) := (List Int) → Int → (List Int) → (List Int) → (List Int) → Int → Int → (List Int) → (List Int) → (List Int) → (List Int) → Option ρ
def aas {ρ : Type} (b : List Int) (a : Int) (i j k : List Int) (c d : Int) (e f g h : List Int) (nx l : blr ρ) : Option ρ := br (decide ((↑b.length : Int) ≥ a)) (br (decide (0 ≤ a)) (br (decide (a ≤ (↑b.length : Int))) (jr c d e f g h i (List.drop 0 (List.take a.toNat b)) fun m => br (decide (0 ≤ a)) (br (decide (a ≤ (↑b.length : Int))) (br (decide ((↑b.length : Int) ≤ (↑b.length : Int))) (nx (List.drop a.toNat (List.take (↑b.length : Int).toNat b)) a m j k c d e f g h) none) none) none) none) none) (l b a i j k c d e f g h)
abbrev bhj := (List Int) × Int × (List Int) × (List Int) × (List Int) × Int × Int × (List Int) × (List Int) × (List Int) × (List Int)
abbrev bmr := bhj
def bo8 {ρ : Type} (f : bhj → Option ρ) : blr ρ := fun l k a b c d e g h i j => f (l, k, a, b, c, d, e, g, h, i, j)
def bi3 {ρ : Type} : ag9 bhj bmr ρ := fun (k, j, a, b, c, d, e, f, g, h, i) next ex => aas k j a b c d e f g h i (bo8 next) (bo8 ex)
def bo9 {ρ : Type} := shut (lp (bi3 (ρ := ρ)))
theorem bph {ρ : Type} : bo9 (ρ := ρ) = lp bi3 := dw _
def bk3 {ρ : Type} (f : agy bhj bmr ρ) (l : List Int) (k : Int) (a b c : List Int) (d e : Int) (g h i j : List Int) (m : blr ρ) : Option ρ := f (l, k, a, b, c, d, e, g, h, i, j) (fun (l, k, a, b, c, d, e, g, h, i, j) => m l k a b c d e g h i j)
def ac2 {ρ : Type} := bk3 (lp (bi3 (ρ := ρ)))
def aaj {ρ : Type} := bk3 (bo9 (ρ := ρ))
theorem afk {ρ : Type} : aaj (ρ := ρ) = ac2 := congrArg bk3 bph
abbrev bl6 (ρ : Type) := (List Int) → (List Int) → Int → (List Int) → (List Int) → Option ρ
def y5 {ρ : Type} (e b : List Int) (a : Int) (c d : List Int) (nx f : bl6 ρ) : Option ρ := br (decide (a < 8)) (br (decide (0 ≤ a)) (br (decide (a < (↑8 : Int))) (br (decide (0 ≤ a)) (br (decide (a < (↑8 : Int))) (nx e b (IntKind.i64.wrap (a + 1)) (c.set a.toNat (b.getD a.toNat 0)) d) none) none) none) none) (f e b a c d)
abbrev bj2 := (List Int) × (List Int) × Int × (List Int) × (List Int)
abbrev bnw := bj2
def bow {ρ : Type} (f : bj2 → Option ρ) : bl6 ρ := fun e c d a b => f (e, c, d, a, b)
def bkh {ρ : Type} : ag9 bj2 bnw ρ := fun (e, c, d, a, b) next ex => y5 e c d a b (bow next) (bow ex)
def bo1 {ρ : Type} := shut (lp (bkh (ρ := ρ)))
theorem bpx {ρ : Type} : bo1 (ρ := ρ) = lp bkh := dw _
def bk0 {ρ : Type} (f : agy bj2 bnw ρ) (e c : List Int) (d : Int) (a b : List Int) (g : bl6 ρ) : Option ρ := f (e, c, d, a, b) (fun (e, c, d, a, b) => g e c d a b)
def ab4 {ρ : Type} := bk0 (lp (bkh (ρ := ρ)))
def y7 {ρ : Type} := bk0 (bo1 (ρ := ρ))
theorem ae8 {ρ : Type} : y7 (ρ := ρ) = ab4 := congrArg bk0 bpx
def zh {ρ : Type} (f e : Int) (a b c d g r : List Int) (k : (List Int) → (List Int) → Option ρ) : Option ρ := aag r g 0 f e a b c d g [0, 0, 0, 0, 0, 0, 0, 0] [0, 0, 0, 0, 0, 0, 0, 0] fun s O Q h t u v w y z i j => aaj s (IntKind.i64.wrap (h * 2)) j i z h t u v w y fun l A m n o B C F G H I => y7 l m 0 o n fun p J M q N => k q p
def l7 {ρ : Type} := shut (zh (ρ := ρ))
theorem ada {ρ : Type} (f : Int) (e : Int) (a : List Int) (b : List Int) (c : List Int) (d : List Int) (g : List Int) (h : List Int) (k : (List Int) → (List Int) → Option ρ) : l7 f e a b c d g h k = zh f e a b c d g h k := by unfold l7; rw [dw]

def aj0 {ρ : Type} (k : Int → Int → (List Int) → (List Int) → (List Int) → (List Int) → Option ρ) : Option ρ := k 64 80 [1, 8, 7] [19, 61, 6] [28, 34, 39] [14, 18, 41]
def zn {ρ : Type} := shut (aj0 (ρ := ρ))
theorem aly {ρ : Type}  (k : Int → Int → (List Int) → (List Int) → (List Int) → (List Int) → Option ρ) : zn  k = aj0  k := by unfold zn; rw [dw]

def air {ρ : Type} (a : Int) (b d : List Int) (c : Int) (e : List Int) (k : Int → (List Int) → (List Int) → Int → Option ρ) : Option ρ := jc [d, e] fun f => br (a == 1) (aar fun q r s t u v => l8 q r s t u v b f fun w y => fq y fun z => k a w z (IntKind.u64.wrap (c + IntKind.u64.wrap (↑e.length : Int)))) (zn fun g h i j l m => l7 g h i j l m b f fun n o => fq o fun p => k a n p (IntKind.u64.wrap (c + IntKind.u64.wrap (↑e.length : Int))))
def abd {ρ : Type} := shut (air (ρ := ρ))
theorem aqk {ρ : Type} (b : Int) (a : List Int) (c : List Int) (d : Int) (e : List Int) (k : Int → (List Int) → (List Int) → Int → Option ρ) : abd b a c d e k = air b a c d e k := by unfold abd; rw [dw]

def acd {ρ : Type} (a : Int) (k : Int → Option ρ) : Option ρ := br (a == 1) (k 64) (k 128)
def oo {ρ : Type} := shut (acd (ρ := ρ))
theorem agc {ρ : Type} (a : Int) (k : Int → Option ρ) : oo a k = acd a k := by unfold oo; rw [dw]

abbrev bn8 (ρ : Type) := Int → (List Int) → Int → (List Int) → Int → (List Int) → Int → (List Int) → Option ρ
def ai8 {ρ : Type} (g : Int) (b : List Int) (a : Int) (c : List Int) (d : Int) (e : List Int) (f : Int) (h : List Int) (nx j : bn8 ρ) : Option ρ := br (decide (a < 8)) (br (decide (0 ≤ a)) (br (decide (a < (↑8 : Int))) (xk (b.getD a.toNat 0) (IntKind.i64.wrap (g.tdiv 16)) fun i => br (decide ((c.length + i.length) * 1 ≤ 140737488355328)) (nx g b (IntKind.i64.wrap (a + 1)) (c ++ i) d e f h) none) none) none) (j g b a c d e f h)
abbrev bi9 := Int × (List Int) × Int × (List Int) × Int × (List Int) × Int × (List Int)
abbrev bnh := bi9
def bmx {ρ : Type} (f : bi9 → Option ρ) : bn8 ρ := fun h d e g a b c i => f (h, d, e, g, a, b, c, i)
def bj7 {ρ : Type} : ag9 bi9 bnh ρ := fun (g, d, e, f, a, b, c, h) next ex => ai8 g d e f a b c h (bmx next) (bmx ex)
def bmh {ρ : Type} := shut (lp (bj7 (ρ := ρ)))
theorem bp9 {ρ : Type} : bmh (ρ := ρ) = lp bj7 := dw _
def bk8 {ρ : Type} (f : agy bi9 bnh ρ) (h : Int) (d : List Int) (e : Int) (g : List Int) (a : Int) (b : List Int) (c : Int) (i : List Int) (j : bn8 ρ) : Option ρ := f (h, d, e, g, a, b, c, i) (fun (h, d, e, g, a, b, c, i) => j h d e g a b c i)
def ao4 {ρ : Type} := bk8 (lp (bj7 (ρ := ρ)))
def aiu {ρ : Type} := bk8 (bmh (ρ := ρ))
theorem apk {ρ : Type} : aiu (ρ := ρ) = ao4 := congrArg bk8 bp9
def aib {ρ : Type} (c : Int) (e a : List Int) (d : Int) (k : (List Int) → Option ρ) : Option ρ := oo c fun b => br (decide (1 ≤ b)) (br (decide (b * (↑1 : Int) ≤ (↑140737488355328 : Int))) (br (decide (b = 0)) none (br (decide (0 ≤ IntKind.i64.wrap (IntKind.i64.wrap ((IntKind.i64.wrap (IntKind.i64.wrap (IntKind.i64.wrap (IntKind.i64.wrap (2 * b) - 1) - IntKind.i64.wrap (b.tdiv 8)) - (↑a.length : Int))).tmod b + IntKind.i64.wrap (b.tdiv 8)) - 8))) (br (decide ((1 + (IntKind.i64.wrap (IntKind.i64.wrap ((IntKind.i64.wrap (IntKind.i64.wrap (IntKind.i64.wrap (IntKind.i64.wrap (2 * b) - 1) - IntKind.i64.wrap (b.tdiv 8)) - (↑a.length : Int))).tmod b + IntKind.i64.wrap (b.tdiv 8)) - 8)).toNat) * 1 ≤ 140737488355328)) (xk (IntKind.u64.wrap (d * 2 ^ 3)) 8 fun g => br (decide ((((List.replicate (IntKind.i64.wrap (IntKind.i64.wrap ((IntKind.i64.wrap (IntKind.i64.wrap (IntKind.i64.wrap (IntKind.i64.wrap (2 * b) - 1) - IntKind.i64.wrap (b.tdiv 8)) - (↑a.length : Int))).tmod b + IntKind.i64.wrap (b.tdiv 8)) - 8)).toNat (0 : Int)).length.add 0).succ + g.length) * 1 ≤ 140737488355328)) (abd c e a d ((List.replicate 1 (0 : Int)).set 0 128 ++ List.replicate (IntKind.i64.wrap (IntKind.i64.wrap ((IntKind.i64.wrap (IntKind.i64.wrap (IntKind.i64.wrap (IntKind.i64.wrap (2 * b) - 1) - IntKind.i64.wrap (b.tdiv 8)) - (↑a.length : Int))).tmod b + IntKind.i64.wrap (b.tdiv 8)) - 8)).toNat (0 : Int) ++ g) fun j h l m => aiu b h 0 [] j h m l fun q r s f i n o p => br (i == 2) (br (decide (48 ≤ (↑f.length : Int))) (k (List.take ((48 : Int) - (0 : Int)).toNat f)) none) (k f)) none) none) none)) none) none
def adz {ρ : Type} := shut (aib (ρ := ρ))
theorem apv {ρ : Type} (b : Int) (a : List Int) (c : List Int) (d : Int) (k : (List Int) → Option ρ) : adz b a c d k = aib b a c d k := by unfold adz; rw [dw]

def aiz {ρ : Type} (b : Int) (c : List Int) (k : (List Int) → Int → Option ρ) : Option ρ := aea b fun d e f g a => br (a != 0) (k [] a) (abd d e f g c fun h i j l => adz h i j l fun m => k m 0)
def aa9 {ρ : Type} := shut (aiz (ρ := ρ))
theorem aq2 {ρ : Type} (a : Int) (b : List Int) (k : (List Int) → Int → Option ρ) : aa9 a b k = aiz a b k := by unfold aa9; rw [dw]

abbrev bll (ρ : Type) := (List Int) → (List Int) → Int → Int → Int → Option ρ
def agw {ρ : Type} (c d : List Int) (e b a : Int) (nx f : bll ρ) : Option ρ := br (decide (a < b)) (br (decide (0 ≤ a)) (br (decide (a < (↑c.length : Int))) (br (decide (0 ≤ a)) (br (decide (a < (↑d.length : Int))) (nx c d (bits BinOp.or IntKind.u8 e (bits BinOp.xor IntKind.u8 (c.getD a.toNat 0) (d.getD a.toNat 0))) b (IntKind.i64.wrap (a + 1))) none) none) none) none) (f c d e b a)
abbrev bi1 := (List Int) × (List Int) × Int × Int × Int
abbrev bmq := bi1
def bnk {ρ : Type} (f : bi1 → Option ρ) : bll ρ := fun c d e a b => f (c, d, e, a, b)
def bjs {ρ : Type} : ag9 bi1 bmq ρ := fun (c, d, e, a, b) next ex => agw c d e a b (bnk next) (bnk ex)
def bm5 {ρ : Type} := shut (lp (bjs (ρ := ρ)))
theorem bp6 {ρ : Type} : bm5 (ρ := ρ) = lp bjs := dw _
def bkx {ρ : Type} (f : agy bi1 bmq ρ) (c d : List Int) (e a b : Int) (g : bll ρ) : Option ρ := f (c, d, e, a, b) (fun (c, d, e, a, b) => g c d e a b)
def al2 {ρ : Type} := bkx (lp (bjs (ρ := ρ)))
def al8 {ρ : Type} := bkx (bm5 (ρ := ρ))
theorem ao5 {ρ : Type} : al8 (ρ := ρ) = al2 := congrArg bkx bp6
def afv {ρ : Type} (a b : List Int) (k : Bool → Option ρ) : Option ρ := br ((↑a.length : Int) != (↑b.length : Int)) (k false) (al8 a b 0 (↑a.length : Int) 0 fun d e c f g => k (c == 0))
def zo {ρ : Type} := shut (afv (ρ := ρ))
theorem alr {ρ : Type} (a : List Int) (b : List Int) (k : Bool → Option ρ) : zo a b k = afv a b k := by unfold zo; rw [dw]

def aek {ρ : Type} (a : List Int) (k : Int → Int → Bool → Option ρ) : Option ρ := br ((↑a.length : Int) != 48) (k 0 0 false) (br (decide (16 ≤ (↑a.length : Int))) (aa9 1 (List.drop 0 (List.take (Int.toNat 16) a)) fun b f => br (decide (16 ≤ (↑a.length : Int))) (br (decide ((↑a.length : Int) ≤ (↑a.length : Int))) (zo b (List.drop 16 (List.take (↑a.length : Int).toNat a)) fun c => br (!c) (k 0 0 false) (br (decide (8 ≤ (↑a.length : Int))) (pq (List.drop 0 (List.take (Int.toNat 8) a)) fun d => br (decide (16 ≤ (↑a.length : Int))) (pq (List.drop 8 (List.take (Int.toNat 16) a)) fun e => k d e true) none) none)) none) none) none)
def lg {ρ : Type} := shut (aek (ρ := ρ))
theorem ah3 {ρ : Type} (a : List Int) (k : Int → Int → Bool → Option ρ) : lg a k = aek a k := by unfold lg; rw [dw]

abbrev bpe (ρ : Type) := (List Int) → (List Int) → Int → Int → Int → Int → Int → Int → Int → Option ρ
def aa7 {ρ : Type} (a b : List Int) (e c d f h i g : Int) (nx n : bpe ρ) : Option ρ := br (decide (e < 2)) (br (decide (e = (↑0 : Int))) (lg a fun j l o => br o (br (g != 0) (nx a b (IntKind.i64.wrap (e + 1)) c d j l e 0) (br (decide (j > f)) (nx a b (IntKind.i64.wrap (e + 1)) c d j l e 0) (nx a b (IntKind.i64.wrap (e + 1)) c d f h i g))) (nx a b (IntKind.i64.wrap (e + 1)) c d f h i g)) (br (decide (e = (↑1 : Int))) (lg b fun k m p => br p (br (g != 0) (nx a b (IntKind.i64.wrap (e + 1)) c d k m e 0) (br (decide (k > f)) (nx a b (IntKind.i64.wrap (e + 1)) c d k m e 0) (nx a b (IntKind.i64.wrap (e + 1)) c d f h i g))) (nx a b (IntKind.i64.wrap (e + 1)) c d f h i g)) none)) (n a b e c d f h i g)
abbrev bjj := (List Int) × (List Int) × Int × Int × Int × Int × Int × Int × Int
abbrev bos := bjj
def bmf {ρ : Type} (f : bjj → Option ρ) : bpe ρ := fun a b j c d e g h i => f (a, b, j, c, d, e, g, h, i)
def bi0 {ρ : Type} : ag9 bjj bos ρ := fun (a, b, i, c, d, e, f, g, h) next ex => aa7 a b i c d e f g h (bmf next) (bmf ex)
def bly {ρ : Type} := shut (lp (bi0 (ρ := ρ)))
theorem bp3 {ρ : Type} : bly (ρ := ρ) = lp bi0 := dw _
def bkj {ρ : Type} (f : agy bjj bos ρ) (a b : List Int) (j c d e g h i : Int) (k : bpe ρ) : Option ρ := f (a, b, j, c, d, e, g, h, i) (fun (a, b, j, c, d, e, g, h, i) => k a b j c d e g h i)
def af9 {ρ : Type} := bkj (lp (bi0 (ρ := ρ)))
def agm {ρ : Type} := bkj (bly (ρ := ρ))
theorem aic {ρ : Type} : agm (ρ := ρ) = af9 := congrArg bkj bp3
def aeg {ρ : Type} (a b : List Int) (k : Int → Int → Int → Int → Option ρ) : Option ρ := agm a b 0 0 0 0 0 0 21 fun g h i j l c d e f => k c d e f
def bf {ρ : Type} := shut (aeg (ρ := ρ))
theorem ah8 {ρ : Type} (a : List Int) (b : List Int) (k : Int → Int → Int → Int → Option ρ) : bf a b k = aeg a b k := by unfold bf; rw [dw]

def ae3 {ρ : Type} (a b : List Int) (c d : Int) (k : (List Int) → (List Int) → Int → Int → Int → Int → Bool → Int → Option ρ) : Option ρ := br (decide (c > 1152921504606846976)) (k [] [] 0 0 0 0 false 8) (br (decide (d < 1)) (k [] [] 0 0 0 0 false 8) (br (decide (d > 4294967296)) (k [] [] 0 0 0 0 false 8) (bf a b fun g e j f => br (f != 0) (k [] [] 0 0 0 0 false f) (br (decide (e > c)) (k [] [] 0 0 0 0 false 8) (br (decide (g ≥ 1152921504606846976)) (k [] [] 0 0 0 0 false 8) (fq a fun h => fq b fun i => k h i c d e e true 0))))))
def gy {ρ : Type} := shut (ae3 (ρ := ρ))
theorem aje {ρ : Type} (a : List Int) (b : List Int) (c : Int) (d : Int) (k : (List Int) → (List Int) → Int → Int → Int → Int → Bool → Int → Option ρ) : gy a b c d k = ae3 a b c d k := by unfold gy; rw [dw]

def af7 {ρ : Type} (a : List (List Int)) (k : (List Int) → Option ρ) : Option ρ := jc a fun b => k b
def aac {ρ : Type} := shut (af7 (ρ := ρ))
theorem al6 {ρ : Type} (a : List (List Int)) (k : (List Int) → Option ρ) : aac a k = af7 a k := by unfold aac; rw [dw]

def ade {ρ : Type} (a b : Int) (k : (List Int) → Option ρ) : Option ρ := xk a 8 fun e => xk b 8 fun f => aac [e, f] fun c => aa9 1 c fun d g => br (decide ((c.length + d.length) * 1 ≤ 140737488355328)) (k (c ++ d)) none
def ko {ρ : Type} := shut (ade (ρ := ρ))
theorem ahl {ρ : Type} (a : Int) (b : Int) (k : (List Int) → Option ρ) : ko a b k = ade a b k := by unfold ko; rw [dw]

def ae5 {ρ : Type} (k : (List Int) → (List Int) → Option ρ) : Option ρ := ko 0 0 fun a => ko 0 0 fun b => k a b
def vk {ρ : Type} := shut (ae5 (ρ := ρ))
theorem ajm {ρ : Type}  (k : (List Int) → (List Int) → Option ρ) : vk  k = ae5  k := by unfold vk; rw [dw]

def afz {ρ : Type} (a b : Int) (k : (List Int) → (List Int) → Int → Int → Int → Int → Bool → Int → Option ρ) : Option ρ := vk fun c d => gy c d a b fun e f g h i j l m => k e f g h i j l m
def tq {ρ : Type} := shut (afz (ρ := ρ))
theorem alu {ρ : Type} (a : Int) (b : Int) (k : (List Int) → (List Int) → Int → Int → Int → Int → Bool → Int → Option ρ) : tq a b k = afz a b k := by unfold tq; rw [dw]

def ach {ρ : Type} (a b : List Int) (k : (List Int) → (List Int) → Option ρ) : Option ρ := fq a fun c => fq b fun d => k c d
def ku {ρ : Type} := shut (ach (ρ := ρ))
theorem aga {ρ : Type} (a : List Int) (b : List Int) (k : (List Int) → (List Int) → Option ρ) : ku a b k = ach a b k := by unfold ku; rw [dw]

def ad7 {ρ : Type} (a b h : List Int) (k : (List Int) → (List Int) → Int → Int → Option ρ) : Option ρ := ku a b fun d e => bf a b fun i j c f => br (f != 0) (k d e 0 f) (fq h fun g => br (decide (IntKind.i64.wrap (1 - c) = (↑0 : Int))) (k g e (IntKind.i64.wrap (1 - c)) 0) (br (decide (IntKind.i64.wrap (1 - c) = (↑1 : Int))) (k d g (IntKind.i64.wrap (1 - c)) 0) none))
def nu {ρ : Type} := shut (ad7 (ρ := ρ))
theorem aia {ρ : Type} (a : List Int) (b : List Int) (c : List Int) (k : (List Int) → (List Int) → Int → Int → Option ρ) : nu a b c k = ad7 a b c k := by unfold nu; rw [dw]

def adg {ρ : Type} (c d : List Int) (a b : Int) (k : (List Int) → (List Int) → Int → Int → Option ρ) : Option ρ := ko a b fun e => nu c d e fun f g h i => k f g h i
def bn {ρ : Type} := shut (adg (ρ := ρ))
theorem ahd {ρ : Type} (c : List Int) (d : List Int) (a : Int) (b : Int) (k : (List Int) → (List Int) → Int → Int → Option ρ) : bn c d a b k = adg c d a b k := by unfold bn; rw [dw]

def aef {ρ : Type} (a b : List Int) (c d f : Int) (i : List Int) (k : (List Int) → (List Int) → Int → Option ρ) : Option ρ := ku a b fun g h => br (f == 1) (bn a b c d fun j l t m => k j l m) (br (f == 2) (nu a b i fun n o u p => k n o p) (bf a b fun q r s e => br (e == 0) (br (f != 0) (k g h 8) (k g h e)) (k g h e)))
def gq {ρ : Type} := shut (aef (ρ := ρ))
theorem ah9 {ρ : Type} (c : List Int) (d : List Int) (a : Int) (b : Int) (e : Int) (f : List Int) (k : (List Int) → (List Int) → Int → Option ρ) : gq c d a b e f k = aef c d a b e f k := by unfold gq; rw [dw]

def afd {ρ : Type} (e f : List Int) (a c d b : Int) (g : Bool) (k : (List Int) → (List Int) → Int → Int → Int → Int → Bool → Int → Int → Option ρ) : Option ρ := br (!g) (k e f a c d b g 0 21) (br (d == b) (br (!g) (k e f a c d b g 0 21) (br (b == a) (k e f a c d b g 0 13) (bf e f fun l r s j => br (j != 0) (br (j != 0) (br (j != 0) (k e f a c d b g 0 j) (k e f a c (IntKind.u64.wrap (d + 1)) b g (IntKind.u64.wrap (IntKind.u64.wrap (d + 1) - 1)) 0)) (bn e f 0 0 fun m n t i => br (i == 0) (br (i != 0) (k m n a c d 0 g 0 i) (k m n a c (IntKind.u64.wrap (d + 1)) 0 g (IntKind.u64.wrap (IntKind.u64.wrap (d + 1) - 1)) 0)) (br (i != 0) (k e f a c d b g 0 i) (k e f a c (IntKind.u64.wrap (d + 1)) b g (IntKind.u64.wrap (IntKind.u64.wrap (d + 1) - 1)) 0)))) (br (decide (l ≥ 1152921504606846976)) (k e f a c d b g 0 8) (bn e f (IntKind.u64.wrap (l + 1)) (IntKind.u64.wrap (b + bif decide (IntKind.u64.wrap (a - b) < c) then IntKind.u64.wrap (a - b) else c)) fun o p q h => br (h == 0) (br (h != 0) (k o p a c d (IntKind.u64.wrap (b + bif decide (IntKind.u64.wrap (a - b) < c) then IntKind.u64.wrap (a - b) else c)) g 0 h) (k o p a c (IntKind.u64.wrap (d + 1)) (IntKind.u64.wrap (b + bif decide (IntKind.u64.wrap (a - b) < c) then IntKind.u64.wrap (a - b) else c)) g (IntKind.u64.wrap (IntKind.u64.wrap (d + 1) - 1)) 0)) (br (h != 0) (k e f a c d b g 0 h) (k e f a c (IntKind.u64.wrap (d + 1)) b g (IntKind.u64.wrap (IntKind.u64.wrap (d + 1) - 1)) 0))))))) (k e f a c (IntKind.u64.wrap (d + 1)) b g (IntKind.u64.wrap (IntKind.u64.wrap (d + 1) - 1)) 0))
def wu {ρ : Type} := shut (afd (ρ := ρ))
theorem aji {ρ : Type} (a : List Int) (b : List Int) (c : Int) (d : Int) (f : Int) (e : Int) (g : Bool) (k : (List Int) → (List Int) → Int → Int → Int → Int → Bool → Int → Int → Option ρ) : wu a b c d f e g k = afd a b c d f e g k := by unfold wu; rw [dw]

def ag6 {ρ : Type} (d e : List Int) (a b f c : Int) (g : Bool) (h j : Int) (l : List Int) (k : (List Int) → (List Int) → Int → Int → Int → Int → Bool → (List Int) → Int → Option ρ) : Option ρ := br (h == 1) (br (!g) (k d e a b f c g [] 21) (br (f == c) (br (!g) (k d e a b f c g [] 21) (br (c == a) (k d e a b f c g [] 13) (bf d e fun C q1 q2 n => br (n != 0) (br (n != 0) (br (n != 0) (br (n != 0) (k d e a b f c g [] n) (k d e a b f c g [0] 0)) (k d e a b (IntKind.u64.wrap (f + 1)) c g [IntKind.u64.wrap (IntKind.u64.wrap (f + 1) - 1)] 0)) (bn d e 0 0 fun y z q6 m => br (m == 0) (br (m != 0) (br (m != 0) (k y z a b f 0 g [] m) (k y z a b f 0 g [0] 0)) (k y z a b (IntKind.u64.wrap (f + 1)) 0 g [IntKind.u64.wrap (IntKind.u64.wrap (f + 1) - 1)] 0)) (br (m != 0) (br (m != 0) (k d e a b f c g [] m) (k d e a b f c g [0] 0)) (k d e a b (IntKind.u64.wrap (f + 1)) c g [IntKind.u64.wrap (IntKind.u64.wrap (f + 1) - 1)] 0)))) (br (decide (C ≥ 1152921504606846976)) (k d e a b f c g [] 8) (bn d e (IntKind.u64.wrap (C + 1)) (IntKind.u64.wrap (c + bif decide (IntKind.u64.wrap (a - c) < b) then IntKind.u64.wrap (a - c) else b)) fun A B ad i => br (i == 0) (br (i != 0) (br (i != 0) (k A B a b f (IntKind.u64.wrap (c + bif decide (IntKind.u64.wrap (a - c) < b) then IntKind.u64.wrap (a - c) else b)) g [] i) (k A B a b f (IntKind.u64.wrap (c + bif decide (IntKind.u64.wrap (a - c) < b) then IntKind.u64.wrap (a - c) else b)) g [0] 0)) (k A B a b (IntKind.u64.wrap (f + 1)) (IntKind.u64.wrap (c + bif decide (IntKind.u64.wrap (a - c) < b) then IntKind.u64.wrap (a - c) else b)) g [IntKind.u64.wrap (IntKind.u64.wrap (f + 1) - 1)] 0)) (br (i != 0) (br (i != 0) (k d e a b f c g [] i) (k d e a b f c g [0] 0)) (k d e a b (IntKind.u64.wrap (f + 1)) c g [IntKind.u64.wrap (IntKind.u64.wrap (f + 1) - 1)] 0))))))) (k d e a b (IntKind.u64.wrap (f + 1)) c g [IntKind.u64.wrap (IntKind.u64.wrap (f + 1) - 1)] 0))) (br (h == 3) (br (!g) (k d e a b f c g [] 21) (br (c == a) (k d e a b f c g [] 13) (bf d e fun v ae af o => br (o != 0) (br (o != 0) (k d e a b f c g [] o) (gq d e 0 0 j l fun F G p => br (p == 0) (k F G a b 0 0 false [] p) (k d e a b f c g [] p))) (br (decide (v ≥ 1152921504606846976)) (k d e a b f c g [] 8) (gq d e (IntKind.u64.wrap (v + 1)) (IntKind.u64.wrap (c + bif decide (IntKind.u64.wrap (a - c) < b) then IntKind.u64.wrap (a - c) else b)) j l fun H I q => br (q == 0) (k H I a b 0 0 false [] q) (k d e a b f c g [] q)))))) (br (h == 4) (k d e a b 0 0 false [] 0) (br (h == 2) (br (!g) (k d e a b f c g [] 21) (br (c == a) (k d e a b f c g [] 13) (bf d e fun w ag ah r => br (r != 0) (br (r != 0) (k d e a b f c g [] r) (bn d e 0 0 fun J M ai s => br (s == 0) (k J M a b f 0 g [] s) (k d e a b f c g [] s))) (br (decide (w ≥ 1152921504606846976)) (k d e a b f c g [] 8) (bn d e (IntKind.u64.wrap (w + 1)) (IntKind.u64.wrap (c + bif decide (IntKind.u64.wrap (a - c) < b) then IntKind.u64.wrap (a - c) else b)) fun N O aj t => br (t == 0) (k N O a b f (IntKind.u64.wrap (c + bif decide (IntKind.u64.wrap (a - c) < b) then IntKind.u64.wrap (a - c) else b)) g [] t) (k d e a b f c g [] t)))))) (br (h == 5) (br g (k d e a b f c g [] 0) (gy d e a b fun Q U W Z aa ab ac u => br (u == 0) (k Q U W Z aa ab ac [] u) (k d e a b f c g [] u))) (k d e a b f c g [] 1)))))
def abm {ρ : Type} := shut (ag6 (ρ := ρ))
theorem anf {ρ : Type} (a : List Int) (b : List Int) (c : Int) (d : Int) (f : Int) (e : Int) (j : Bool) (g : Int) (h : Int) (i : List Int) (k : (List Int) → (List Int) → Int → Int → Int → Int → Bool → (List Int) → Int → Option ρ) : abm a b c d f e j g h i k = ag6 a b c d f e j g h i k := by unfold abm; rw [dw]

abbrev bnb (ρ : Type) := Nat → (List Int) → (List Int) → (List (List Int)) → Int → Int → (List Int) → (List Int) → (List Int) → Int → Int → Int → Int → Bool → Int → Int → Int → Int → Bool → Option ρ
def af2 {ρ : Type} (b : Nat) (c d : List Int) (e : List (List Int)) (f a : Int) (s g h : List Int) (i j k l : Int) (m : Bool) (n o p q : Int) (r : Bool) (nx u : bnb ρ) : Option ρ := br (decide (a < f)) (br (decide (0 ≤ a)) (br (decide (a < (↑b : Int))) (abm g h i j k l m (c.getD a.toNat 0) (d.getD a.toNat 0) (e.getD a.toNat []) fun v w y z A B C t F => br (decide ((s.length + t.length) * 8 ≤ 140737488355328)) (nx b c d e f (IntKind.i64.wrap (a + 1)) (s ++ t) v w y z A B C n o p q r) none) none) none) (u b c d e f a s g h i j k l m n o p q r)
abbrev bjd := Nat × (List Int) × (List Int) × (List (List Int)) × Int × Int × (List Int) × (List Int) × (List Int) × Int × Int × Int × Int × Bool × Int × Int × Int × Int × Bool
abbrev bob := bjd
def bma {ρ : Type} (f : bjd → Option ρ) : bnb ρ := fun a b c d r s t e g h i j k l m n o p q => f (a, b, c, d, r, s, t, e, g, h, i, j, k, l, m, n, o, p, q)
def bhk {ρ : Type} : ag9 bjd bob ρ := fun (a, b, c, d, q, r, s, e, f, g, h, i, j, k, l, m, n, o, p) next ex => af2 a b c d q r s e f g h i j k l m n o p (bma next) (bma ex)
def bl7 {ρ : Type} := shut (lp (bhk (ρ := ρ)))
theorem bp8 {ρ : Type} : bl7 (ρ := ρ) = lp bhk := dw _
def bkl {ρ : Type} (f : agy bjd bob ρ) (a : Nat) (b c : List Int) (d : List (List Int)) (r s : Int) (t e g : List Int) (h i j k : Int) (l : Bool) (m n o p : Int) (q : Bool) (u : bnb ρ) : Option ρ := f (a, b, c, d, r, s, t, e, g, h, i, j, k, l, m, n, o, p, q) (fun (a, b, c, d, r, s, t, e, g, h, i, j, k, l, m, n, o, p, q) => u a b c d r s t e g h i j k l m n o p q)
def aj4 {ρ : Type} := bkl (lp (bhk (ρ := ρ)))
def akc {ρ : Type} := bkl (bl7 (ρ := ρ))
theorem amn {ρ : Type} : akc (ρ := ρ) = aj4 := congrArg bkl bp8
def afc {ρ : Type} (a b : List Int) (c d f e : Int) (g : Bool) (h : Nat) (i j : List Int) (l : List (List Int)) (k : (List Int) → (List Int) → Int → Int → Int → Int → Bool → (List Int) → Option ρ) : Option ρ := akc h i j l (↑h : Int) 0 [] a b c d f e g 0 0 0 0 false fun A B C F G H q r s t m n o p u v w y z => k r s t m n o p q
def o9 {ρ : Type} := shut (afc (ρ := ρ))
theorem ake {ρ : Type} (a : List Int) (b : List Int) (c : Int) (d : Int) (f : Int) (e : Int) (g : Bool) (h : Nat) (i : List Int) (j : List Int) (l : List (List Int)) (k : (List Int) → (List Int) → Int → Int → Int → Int → Bool → (List Int) → Option ρ) : o9 a b c d f e g h i j l k = afc a b c d f e g h i j l k := by unfold o9; rw [dw]

def af8 {ρ : Type} (k : Bool → Option ρ) : Option ρ := tq (5 : Int) (2 : Int) fun h i j l m n o p => o9 h i j l m n o 6 [(1 : Int), (1 : Int), (1 : Int), (4 : Int), (5 : Int), (1 : Int)] [(0 : Int), (0 : Int), (0 : Int), (0 : Int), (0 : Int), (0 : Int)] [[], [], [], [], [], []] fun q r b c d e f a => wu q r b c d e f fun s t u v w y z A g => br (p == (0 : Int)) (br ((↑a.length : Int) == (4 : Int)) (br (decide ((0 : Int) < (↑a.length : Int))) (br (a.getD 0 (0 : Int) == (0 : Int)) (br (decide ((1 : Int) < (↑a.length : Int))) (br (a.getD 1 (0 : Int) == (1 : Int)) (br (decide ((2 : Int) < (↑a.length : Int))) (br (a.getD 2 (0 : Int) == (2 : Int)) (br (decide ((3 : Int) < (↑a.length : Int))) (br (a.getD 3 (0 : Int) == (4 : Int)) (k (g == (13 : Int))) (k false)) none) (k false)) none) (k false)) none) (k false)) none) (k false)) (k false)
def qg {ρ : Type} := shut (af8 (ρ := ρ))
theorem amb {ρ : Type}  (k : Bool → Option ρ) : qg  k = af8  k := by unfold qg; rw [dw]

abbrev bm2 (ρ : Type) := (List (List Int)) → Int → (List Int) → Option ρ
def aip {ρ : Type} (b : List (List Int)) (a : Int) (c : List Int) (nx d : bm2 ρ) : Option ρ := br (decide (a < (↑b.length : Int))) (br (decide (0 ≤ a)) (br (decide (a < (↑b.length : Int))) (br (decide ((c.length + (b.getD a.toNat []).length) * 1 ≤ 140737488355328)) (nx b (IntKind.i64.wrap (a + 1)) (c ++ b.getD a.toNat [])) none) none) none) (d b a c)
abbrev bkg := (List (List Int)) × Int × (List Int)
abbrev bmv := bkg
def bn3 {ρ : Type} (f : bkg → Option ρ) : bm2 ρ := fun a b c => f (a, b, c)
def bh3 {ρ : Type} : ag9 bkg bmv ρ := fun (a, b, c) next ex => aip a b c (bn3 next) (bn3 ex)
def bov {ρ : Type} := shut (lp (bh3 (ρ := ρ)))
theorem bpg {ρ : Type} : bov (ρ := ρ) = lp bh3 := dw _
def bkr {ρ : Type} (f : agy bkg bmv ρ) (a : List (List Int)) (b : Int) (c : List Int) (d : bm2 ρ) : Option ρ := f (a, b, c) (fun (a, b, c) => d a b c)
def an8 {ρ : Type} := bkr (lp (bh3 (ρ := ρ)))
def ao9 {ρ : Type} := bkr (bov (ρ := ρ))
theorem apf {ρ : Type} : ao9 (ρ := ρ) = an8 := congrArg bkr bpg
def ahc {ρ : Type} (a : List (List Int)) (k : (List Int) → Option ρ) : Option ρ := ao9 a 0 [] fun c d b => k b
def xu {ρ : Type} := shut (ahc (ρ := ρ))
theorem aos {ρ : Type} (a : List (List Int)) (k : (List Int) → Option ρ) : xu a k = ahc a k := by unfold xu; rw [dw]

abbrev bnu (ρ : Type) := Int → Int → (List Int) → Option ρ
def anb {ρ : Type} (b a : Int) (c : List Int) (nx d : bnu ρ) : Option ρ := br (decide (a ≥ 0)) (br (decide (0 ≤ a)) (br (decide (a < (↑c.length : Int))) (nx (b.fdiv (2 ^ 8)) (IntKind.i64.wrap (a - 1)) (c.set a.toNat (IntKind.u8.wrap (bits BinOp.and IntKind.u64 b 255)))) none) none) (d b a c)
abbrev bj8 := Int × Int × (List Int)
abbrev bmt := bj8
def bm3 {ρ : Type} (f : bj8 → Option ρ) : bnu ρ := fun a b c => f (a, b, c)
def bjb {ρ : Type} : ag9 bj8 bmt ρ := fun (a, b, c) next ex => anb a b c (bm3 next) (bm3 ex)
def bnj {ρ : Type} := shut (lp (bjb (ρ := ρ)))
theorem bp2 {ρ : Type} : bnj (ρ := ρ) = lp bjb := dw _
def bkm {ρ : Type} (f : agy bj8 bmt ρ) (a b : Int) (c : List Int) (d : bnu ρ) : Option ρ := f (a, b, c) (fun (a, b, c) => d a b c)
def atb {ρ : Type} := bkm (lp (bjb (ρ := ρ)))
def ava {ρ : Type} := bkm (bnj (ρ := ρ))
theorem auw {ρ : Type} : ava (ρ := ρ) = atb := congrArg bkm bp2
def ali {ρ : Type} (b a : Int) (k : (List Int) → Option ρ) : Option ρ := br (decide (a < 0)) (k []) (br (decide (a > 65536)) (k []) (br (decide (0 ≤ a)) (br (decide (a ≤ a)) (br (decide (a * (↑1 : Int) ≤ (↑140737488355328 : Int))) (ava b (IntKind.i64.wrap (a - 1)) (List.replicate a.toNat (0 : Int)) fun d e c => k c) none) none) none))
def aat {ρ : Type} := shut (ali (ρ := ρ))
theorem at5 {ρ : Type} (a : Int) (b : Int) (k : (List Int) → Option ρ) : aat a b k = ali a b k := by unfold aat; rw [dw]

def ais {ρ : Type} (a : Int) (k : Int → (List Int) → (List Int) → Int → Int → Option ρ) : Option ρ := br (a == 1) (k a [1779033703, 3144134277, 1013904242, 2773480762, 1359893119, 2600822924, 528734635, 1541459225] [] 0 0) (br (a == 2) (k a [14680500436340154072, 7105036623409894663, 10473403895298186519, 1526699215303891257, 7436329637833083697, 10282925794625328401, 15784041429090275239, 5167115440072839076] [] 0 0) (br (a == 3) (k a [7640891576956012808, 13503953896175478587, 4354685564936845355, 11912009170470909681, 5840696475078001361, 11170449401992604703, 2270897969802886507, 6620516959819538809] [] 0 0) (k 0 [0, 0, 0, 0, 0, 0, 0, 0] [] 0 9)))
def aeh {ρ : Type} := shut (ais (ρ := ρ))
theorem ap3 {ρ : Type} (a : Int) (k : Int → (List Int) → (List Int) → Int → Int → Option ρ) : aeh a k = ais a k := by unfold aeh; rw [dw]

def afo {ρ : Type} (a : Int) (k : Int → Option ρ) : Option ρ := br (a == 1) (k 64) (k 128)
def qy {ρ : Type} := shut (afo (ρ := ρ))
theorem al4 {ρ : Type} (a : Int) (k : Int → Option ρ) : qy a k = afo a k := by unfold qy; rw [dw]

def agp {ρ : Type} (k : (List Int) → Option ρ) : Option ρ := k [1116352408, 1899447441, 3049323471, 3921009573, 961987163, 1508970993, 2453635748, 2870763221, 3624381080, 310598401, 607225278, 1426881987, 1925078388, 2162078206, 2614888103, 3248222580, 3835390401, 4022224774, 264347078, 604807628, 770255983, 1249150122, 1555081692, 1996064986, 2554220882, 2821834349, 2952996808, 3210313671, 3336571891, 3584528711, 113926993, 338241895, 666307205, 773529912, 1294757372, 1396182291, 1695183700, 1986661051, 2177026350, 2456956037, 2730485921, 2820302411, 3259730800, 3345764771, 3516065817, 3600352804, 4094571909, 275423344, 430227734, 506948616, 659060556, 883997877, 958139571, 1322822218, 1537002063, 1747873779, 1955562222, 2024104815, 2227730452, 2361852424, 2428436474, 2756734187, 3204031479, 3329325298]
def qw {ρ : Type} := shut (agp (ρ := ρ))
theorem ad9 {ρ : Type}  (k : (List Int) → Option ρ) : qw  k = agp  k := by unfold qw; rw [dw]

def agf {ρ : Type} (k : (List Int) → Option ρ) : Option ρ := k [4794697086780616226, 8158064640168781261, 13096744586834688815, 16840607885511220156, 4131703408338449720, 6480981068601479193, 10538285296894168987, 12329834152419229976, 15566598209576043074, 1334009975649890238, 2608012711638119052, 6128411473006802146, 8268148722764581231, 9286055187155687089, 11230858885718282805, 13951009754708518548, 16472876342353939154, 17275323862435702243, 1135362057144423861, 2597628984639134821, 3308224258029322869, 5365058923640841347, 6679025012923562964, 8573033837759648693, 10970295158949994411, 12119686244451234320, 12683024718118986047, 13788192230050041572, 14330467153632333762, 15395433587784984357, 489312712824947311, 1452737877330783856, 2861767655752347644, 3322285676063803686, 5560940570517711597, 5996557281743188959, 7280758554555802590, 8532644243296465576, 9350256976987008742, 10552545826968843579, 11727347734174303076, 12113106623233404929, 14000437183269869457, 14369950271660146224, 15101387698204529176, 15463397548674623760, 17586052441742319658, 1182934255886127544, 1847814050463011016, 2177327727835720531, 2830643537854262169, 3796741975233480872, 4115178125766777443, 5681478168544905931, 6601373596472566643, 7507060721942968483, 8399075790359081724, 8693463985226723168, 9568029438360202098, 10144078919501101548, 10430055236837252648, 11840083180663258601, 13761210420658862357, 14299343276471374635, 14566680578165727644, 15097957966210449927, 16922976911328602910, 17689382322260857208, 500013540394364858, 748580250866718886, 1242879168328830382, 1977374033974150939, 2944078676154940804, 3659926193048069267, 4368137639120453308, 4836135668995329356, 5532061633213252278, 6448918945643986474, 6902733635092675308, 7801388544844847127]
def qx {ρ : Type} := shut (agf (ρ := ρ))
theorem aeb {ρ : Type}  (k : (List Int) → Option ρ) : qx  k = agf  k := by unfold qx; rw [dw]

abbrev bn1 (ρ : Type) := (List Int) → Int → Int → Option ρ
def aks {ρ : Type} (b : List Int) (c a : Int) (nx d : bn1 ρ) : Option ρ := br (decide (a < (↑b.length : Int))) (br (decide (0 ≤ a)) (br (decide (a < (↑b.length : Int))) (nx b (IntKind.u64.wrap (IntKind.u64.wrap (c * 256) + IntKind.u64.wrap (b.getD a.toNat 0))) (IntKind.i64.wrap (a + 1))) none) none) (d b c a)
abbrev bke := (List Int) × Int × Int
abbrev blj := bke
def bo0 {ρ : Type} (f : bke → Option ρ) : bn1 ρ := fun a b c => f (a, b, c)
def bii {ρ : Type} : ag9 bke blj ρ := fun (a, b, c) next ex => aks a b c (bo0 next) (bo0 ex)
def bl4 {ρ : Type} := shut (lp (bii (ρ := ρ)))
theorem bqf {ρ : Type} : bl4 (ρ := ρ) = lp bii := dw _
def bli {ρ : Type} (f : agy bke blj ρ) (a : List Int) (b c : Int) (d : bn1 ρ) : Option ρ := f (a, b, c) (fun (a, b, c) => d a b c)
def aqg {ρ : Type} := bli (lp (bii (ρ := ρ)))
def apw {ρ : Type} := bli (bl4 (ρ := ρ))
theorem ar2 {ρ : Type} : apw (ρ := ρ) = aqg := congrArg bli bqf
def ai1 {ρ : Type} (a : List Int) (k : Int → Option ρ) : Option ρ := apw a 0 0 fun c b d => k b
def y9 {ρ : Type} := shut (ai1 (ρ := ρ))
theorem aqr {ρ : Type} (a : List Int) (k : Int → Option ρ) : y9 a k = ai1 a k := by unfold y9; rw [dw]

def abx {ρ : Type} (b a : Int) (c : Bool) (k : Int → Option ρ) : Option ρ := br c (br (decide (a < 0)) none (br (decide (IntKind.i64.wrap (64 - a) < 0)) none (k (bits BinOp.or IntKind.u64 (b.fdiv (2 ^ min a.toNat 64)) (IntKind.u64.wrap (b * 2 ^ min (IntKind.i64.wrap (64 - a)).toNat 64)))))) (br (decide (a < 0)) none (br (decide (IntKind.i64.wrap (32 - a) < 0)) none (k (bits BinOp.or IntKind.u64 (b.fdiv (2 ^ min a.toNat 64)) (bits BinOp.and IntKind.u64 (IntKind.u64.wrap (b * 2 ^ min (IntKind.i64.wrap (32 - a)).toNat 64)) 4294967295)))))
def qz {ρ : Type} := shut (abx (ρ := ρ))
theorem aes {ρ : Type} (a : Int) (b : Int) (c : Bool) (k : Int → Option ρ) : qz a b c k = abx a b c k := by unfold qz; rw [dw]

def aai {ρ : Type} (a d e c : Int) (f b : Bool) (k : Int → Option ρ) : Option ρ := br (decide (c < 0)) none (br (!f) (qz a c b fun g => qz a d b fun h => qz a e b fun i => k (bits BinOp.xor IntKind.u64 (bits BinOp.xor IntKind.u64 h i) g)) (qz a d b fun j => qz a e b fun l => k (bits BinOp.xor IntKind.u64 (bits BinOp.xor IntKind.u64 j l) (a.fdiv (2 ^ min c.toNat 64)))))
def sw {ρ : Type} := shut (aai (ρ := ρ))
theorem ab8 {ρ : Type} (a : Int) (b : Int) (c : Int) (d : Int) (e : Bool) (f : Bool) (k : Int → Option ρ) : sw a b c d e f k = aai a b c d e f k := by unfold sw; rw [dw]

abbrev bm6 (ρ : Type) := (List Int) → Bool → Int → Int → Int → Int → (List Int) → Option ρ
def ac3 {ρ : Type} (d : List Int) (f : Bool) (g e c a : Int) (b : List Int) (nx h : bm6 ρ) : Option ρ := br (decide (a < g)) (br (decide (a < 16)) (br (decide (0 ≤ IntKind.i64.wrap (a * c))) (br (decide (IntKind.i64.wrap (a * c) ≤ IntKind.i64.wrap (IntKind.i64.wrap (a * c) + c))) (br (decide (IntKind.i64.wrap (IntKind.i64.wrap (a * c) + c) ≤ (↑d.length : Int))) (y9 (List.drop (IntKind.i64.wrap (a * c)).toNat (List.take (IntKind.i64.wrap (IntKind.i64.wrap (a * c) + c)).toNat d)) fun i => br (decide ((b.length + 1) * 8 ≤ 140737488355328)) (nx d f g e c (IntKind.i64.wrap (a + 1)) (b ++ [i])) none) none) none) none) (br (decide (0 ≤ IntKind.i64.wrap (a - 15))) (br (decide (IntKind.i64.wrap (a - 15) < (↑b.length : Int))) (sw (b.getD (IntKind.i64.wrap (a - 15)).toNat 0) 7 18 3 true false fun j => br (decide (0 ≤ IntKind.i64.wrap (a - 2))) (br (decide (IntKind.i64.wrap (a - 2) < (↑b.length : Int))) (sw (b.getD (IntKind.i64.wrap (a - 2)).toNat 0) 17 19 10 true false fun k => br f (br (decide (0 ≤ IntKind.i64.wrap (a - 15))) (br (decide (IntKind.i64.wrap (a - 15) < (↑b.length : Int))) (sw (b.getD (IntKind.i64.wrap (a - 15)).toNat 0) 1 8 7 true true fun l => br (decide (0 ≤ IntKind.i64.wrap (a - 2))) (br (decide (IntKind.i64.wrap (a - 2) < (↑b.length : Int))) (sw (b.getD (IntKind.i64.wrap (a - 2)).toNat 0) 19 61 6 true true fun m => br (decide (0 ≤ IntKind.i64.wrap (a - 7))) (br (decide (IntKind.i64.wrap (a - 7) < (↑b.length : Int))) (br (decide (0 ≤ IntKind.i64.wrap (a - 16))) (br (decide (IntKind.i64.wrap (a - 16) < (↑b.length : Int))) (br (decide ((b.length + 1) * 8 ≤ 140737488355328)) (nx d f g e c (IntKind.i64.wrap (a + 1)) (b ++ [bits BinOp.and IntKind.u64 (IntKind.u64.wrap (IntKind.u64.wrap (IntKind.u64.wrap (m + b.getD (IntKind.i64.wrap (a - 7)).toNat 0) + l) + b.getD (IntKind.i64.wrap (a - 16)).toNat 0)) e])) none) none) none) none) none) none) none) none) none) (br (decide (0 ≤ IntKind.i64.wrap (a - 7))) (br (decide (IntKind.i64.wrap (a - 7) < (↑b.length : Int))) (br (decide (0 ≤ IntKind.i64.wrap (a - 16))) (br (decide (IntKind.i64.wrap (a - 16) < (↑b.length : Int))) (br (decide ((b.length + 1) * 8 ≤ 140737488355328)) (nx d f g e c (IntKind.i64.wrap (a + 1)) (b ++ [bits BinOp.and IntKind.u64 (IntKind.u64.wrap (IntKind.u64.wrap (IntKind.u64.wrap (k + b.getD (IntKind.i64.wrap (a - 7)).toNat 0) + j) + b.getD (IntKind.i64.wrap (a - 16)).toNat 0)) e])) none) none) none) none) none)) none) none) none) none)) (h d f g e c a b)
abbrev bhp := (List Int) × Bool × Int × Int × Int × Int × (List Int)
abbrev boy := bhp
def bku {ρ : Type} (f : bhp → Option ρ) : bm6 ρ := fun b c d e g a h => f (b, c, d, e, g, a, h)
def bhg {ρ : Type} : ag9 bhp boy ρ := fun (b, c, d, e, f, a, g) next ex => ac3 b c d e f a g (bku next) (bku ex)
def bnr {ρ : Type} := shut (lp (bhg (ρ := ρ)))
theorem bpk {ρ : Type} : bnr (ρ := ρ) = lp bhg := dw _
def bil {ρ : Type} (f : agy bhp boy ρ) (b : List Int) (c : Bool) (d e g a : Int) (h : List Int) (i : bm6 ρ) : Option ρ := f (b, c, d, e, g, a, h) (fun (b, c, d, e, g, a, h) => i b c d e g a h)
def ag8 {ρ : Type} := bil (lp (bhg (ρ := ρ)))
def ahh {ρ : Type} := bil (bnr (ρ := ρ))
theorem ag5 {ρ : Type} : ahh (ρ := ρ) = ag8 := congrArg bil bpk
def adp {ρ : Type} (b : List Int) (a : Bool) (c d : Int) (k : (List Int) → Option ρ) : Option ρ := br a (ahh b a c d 8 0 [] fun j l m n o p f => k f) (ahh b a c d 4 0 [] fun q r s g h i e => k e)
def aal {ρ : Type} := shut (adp (ρ := ρ))
theorem ag1 {ρ : Type} (a : List Int) (b : Bool) (c : Int) (d : Int) (k : (List Int) → Option ρ) : aal a b c d k = adp a b c d k := by unfold aal; rw [dw]

abbrev bmo (ρ : Type) := Bool → Int → Int → Int → (List Int) → (List Int) → (List Int) → (List Int) → (List Int) → (List Int) → Option ρ
def abp {ρ : Type} (i : Bool) (j c b : Int) (g h d e f a : List Int) (nx m : bmo ρ) : Option ρ := br (decide (b < j)) (sw (a.getD 0 0) 2 13 22 false false fun n => sw (a.getD 4 0) 6 11 25 false false fun k => br i (sw (a.getD 0 0) 28 34 39 false true fun o => sw (a.getD 4 0) 14 18 41 false true fun l => br (decide (0 ≤ b)) (br (decide (b < (↑80 : Int))) (br (decide (0 ≤ b)) (br (decide (b < (↑f.length : Int))) (nx i j c (IntKind.i64.wrap (b + 1)) g h d e f [bits BinOp.and IntKind.u64 (IntKind.u64.wrap (IntKind.u64.wrap (IntKind.u64.wrap (IntKind.u64.wrap (IntKind.u64.wrap (a.getD 7 0 + l) + bits BinOp.xor IntKind.u64 (bits BinOp.and IntKind.u64 (a.getD 4 0) (a.getD 5 0)) (bits BinOp.and IntKind.u64 (bits BinOp.xor IntKind.u64 c (a.getD 4 0)) (a.getD 6 0))) + e.getD b.toNat 0) + f.getD b.toNat 0) + IntKind.u64.wrap (o + bits BinOp.xor IntKind.u64 (bits BinOp.xor IntKind.u64 (bits BinOp.and IntKind.u64 (a.getD 0 0) (a.getD 1 0)) (bits BinOp.and IntKind.u64 (a.getD 0 0) (a.getD 2 0))) (bits BinOp.and IntKind.u64 (a.getD 1 0) (a.getD 2 0))))) c, a.getD 0 0, a.getD 1 0, a.getD 2 0, bits BinOp.and IntKind.u64 (IntKind.u64.wrap (a.getD 3 0 + IntKind.u64.wrap (IntKind.u64.wrap (IntKind.u64.wrap (IntKind.u64.wrap (a.getD 7 0 + l) + bits BinOp.xor IntKind.u64 (bits BinOp.and IntKind.u64 (a.getD 4 0) (a.getD 5 0)) (bits BinOp.and IntKind.u64 (bits BinOp.xor IntKind.u64 c (a.getD 4 0)) (a.getD 6 0))) + e.getD b.toNat 0) + f.getD b.toNat 0))) c, a.getD 4 0, a.getD 5 0, a.getD 6 0]) none) none) none) none) (br (decide (0 ≤ b)) (br (decide (b < (↑64 : Int))) (br (decide (0 ≤ b)) (br (decide (b < (↑f.length : Int))) (nx i j c (IntKind.i64.wrap (b + 1)) g h d e f [bits BinOp.and IntKind.u64 (IntKind.u64.wrap (IntKind.u64.wrap (IntKind.u64.wrap (IntKind.u64.wrap (IntKind.u64.wrap (a.getD 7 0 + k) + bits BinOp.xor IntKind.u64 (bits BinOp.and IntKind.u64 (a.getD 4 0) (a.getD 5 0)) (bits BinOp.and IntKind.u64 (bits BinOp.xor IntKind.u64 c (a.getD 4 0)) (a.getD 6 0))) + d.getD b.toNat 0) + f.getD b.toNat 0) + IntKind.u64.wrap (n + bits BinOp.xor IntKind.u64 (bits BinOp.xor IntKind.u64 (bits BinOp.and IntKind.u64 (a.getD 0 0) (a.getD 1 0)) (bits BinOp.and IntKind.u64 (a.getD 0 0) (a.getD 2 0))) (bits BinOp.and IntKind.u64 (a.getD 1 0) (a.getD 2 0))))) c, a.getD 0 0, a.getD 1 0, a.getD 2 0, bits BinOp.and IntKind.u64 (IntKind.u64.wrap (a.getD 3 0 + IntKind.u64.wrap (IntKind.u64.wrap (IntKind.u64.wrap (IntKind.u64.wrap (a.getD 7 0 + k) + bits BinOp.xor IntKind.u64 (bits BinOp.and IntKind.u64 (a.getD 4 0) (a.getD 5 0)) (bits BinOp.and IntKind.u64 (bits BinOp.xor IntKind.u64 c (a.getD 4 0)) (a.getD 6 0))) + d.getD b.toNat 0) + f.getD b.toNat 0))) c, a.getD 4 0, a.getD 5 0, a.getD 6 0]) none) none) none) none)) (m i j c b g h d e f a)
abbrev bkd := Bool × Int × Int × Int × (List Int) × (List Int) × (List Int) × (List Int) × (List Int) × (List Int)
abbrev bnl := bkd
def bkk {ρ : Type} (f : bkd → Option ρ) : bmo ρ := fun h i j g a b c d k e => f (h, i, j, g, a, b, c, d, k, e)
def bhe {ρ : Type} : ag9 bkd bnl ρ := fun (g, h, i, f, a, b, c, d, j, e) next ex => abp g h i f a b c d j e (bkk next) (bkk ex)
def bn7 {ρ : Type} := shut (lp (bhe (ρ := ρ)))
theorem bpl {ρ : Type} : bn7 (ρ := ρ) = lp bhe := dw _
def bjc {ρ : Type} (f : agy bkd bnl ρ) (h : Bool) (i j g : Int) (a b c d k e : List Int) (l : bmo ρ) : Option ρ := f (h, i, j, g, a, b, c, d, k, e) (fun (h, i, j, g, a, b, c, d, k, e) => l h i j g a b c d k e)
def af0 {ρ : Type} := bjc (lp (bhe (ρ := ρ)))
def abj {ρ : Type} := bjc (bn7 (ρ := ρ))
theorem agd {ρ : Type} : abj (ρ := ρ) = af0 := congrArg bjc bpl
abbrev bn5 (ρ : Type) := Int → Int → (List Int) → (List Int) → (List Int) → Option ρ
def abn {ρ : Type} (e a : Int) (b d c : List Int) (nx f : bn5 ρ) : Option ρ := br (decide (a < 8)) (br (decide (0 ≤ a)) (br (decide (a < (↑8 : Int))) (br (decide (0 ≤ a)) (br (decide (a < (↑8 : Int))) (br (decide (0 ≤ a)) (br (decide (a < (↑8 : Int))) (nx e (IntKind.i64.wrap (a + 1)) b d (c.set a.toNat (bits BinOp.and IntKind.u64 (IntKind.u64.wrap (c.getD a.toNat 0 + b.getD a.toNat 0)) e))) none) none) none) none) none) none) (f e a b d c)
abbrev bij := Int × Int × (List Int) × (List Int) × (List Int)
abbrev bnn := bij
def bkz {ρ : Type} (f : bij → Option ρ) : bn5 ρ := fun e d a b c => f (e, d, a, b, c)
def bhh {ρ : Type} : ag9 bij bnn ρ := fun (e, d, a, b, c) next ex => abn e d a b c (bkz next) (bkz ex)
def boz {ρ : Type} := shut (lp (bhh (ρ := ρ)))
theorem bpw {ρ : Type} : boz (ρ := ρ) = lp bhh := dw _
def bhu {ρ : Type} (f : agy bij bnn ρ) (e d : Int) (a b c : List Int) (g : bn5 ρ) : Option ρ := f (e, d, a, b, c) (fun (e, d, a, b, c) => g e d a b c)
def afx {ρ : Type} := bhu (lp (bhh (ρ := ρ)))
def abw {ρ : Type} := bhu (boz (ρ := ρ))
theorem agl {ρ : Type} : abw (ρ := ρ) = afx := congrArg bhu bpw
def ads {ρ : Type} (b c : List Int) (a : Bool) (k : (List Int) → Option ρ) : Option ρ := qw fun d => qx fun e => br a (aal c a 80 18446744073709551615 fun o => abj a 80 18446744073709551615 0 b [0, 0, 0, 0, 0, 0, 0, 0] d e o b fun N O p Q q r U s t f => abw p 0 q r f fun u v w y g => k g) (aal c a 64 4294967295 fun h => abj a 64 4294967295 0 b [0, 0, 0, 0, 0, 0, 0, 0] d e h b fun z A i B j l C F G m => abw i 0 j l m fun H I J M n => k n)
def aa6 {ρ : Type} := shut (ads (ρ := ρ))
theorem ahg {ρ : Type} (a : List Int) (b : List Int) (c : Bool) (k : (List Int) → Option ρ) : aa6 a b c k = ads a b c k := by unfold aa6; rw [dw]

abbrev bo5 (ρ : Type) := Int → (List Int) → Int → (List Int) → (List Int) → Int → Int → (List Int) → Int → Option ρ
def afn {ρ : Type} (a : Int) (b : List Int) (c : Int) (d e : List Int) (f g : Int) (h : List Int) (i : Int) (nx j : bo5 ρ) : Option ρ := br (decide ((↑b.length : Int) ≥ a)) (br (decide (0 ≤ a)) (br (decide (a ≤ (↑b.length : Int))) (aa6 d (List.drop 0 (List.take a.toNat b)) (a == 128) fun k => br (decide (0 ≤ a)) (br (decide (a ≤ (↑b.length : Int))) (br (decide ((↑b.length : Int) ≤ (↑b.length : Int))) (nx a (List.drop a.toNat (List.take (↑b.length : Int).toNat b)) c k e f g h i) none) none) none) none) none) (j a b c d e f g h i)
abbrev bh9 := Int × (List Int) × Int × (List Int) × (List Int) × Int × Int × (List Int) × Int
abbrev bn4 := bh9
def blf {ρ : Type} (f : bh9 → Option ρ) : bo5 ρ := fun i j a b c d e g h => f (i, j, a, b, c, d, e, g, h)
def bhf {ρ : Type} : ag9 bh9 bn4 ρ := fun (h, i, a, b, c, d, e, f, g) next ex => afn h i a b c d e f g (blf next) (blf ex)
def blz {ρ : Type} := shut (lp (bhf (ρ := ρ)))
theorem bqd {ρ : Type} : blz (ρ := ρ) = lp bhf := dw _
def bj5 {ρ : Type} (f : agy bh9 bn4 ρ) (i : Int) (j : List Int) (a : Int) (b c : List Int) (d e : Int) (g : List Int) (h : Int) (k : bo5 ρ) : Option ρ := f (i, j, a, b, c, d, e, g, h) (fun (i, j, a, b, c, d, e, g, h) => k i j a b c d e g h)
def ala {ρ : Type} := bj5 (lp (bhf (ρ := ρ)))
def ahv {ρ : Type} := bj5 (blz (ρ := ρ))
theorem aj3 {ρ : Type} : ahv (ρ := ρ) = ala := congrArg bj5 bqd
def ai7 {ρ : Type} (a : Int) (c b : List Int) (d : Int) (e : List Int) (k : Int → (List Int) → (List Int) → Int → Option ρ) : Option ρ := qy a fun f => xu [b, e] fun g => ahv f g a c b (IntKind.u64.wrap (d + IntKind.u64.wrap (↑e.length : Int))) 0 [0, 0, 0, 0, 0, 0, 0, 0] 0 fun n h i j o l p q m => k i j h l
def zw {ρ : Type} := shut (ai7 (ρ := ρ))
theorem ap0 {ρ : Type} (b : Int) (a : List Int) (c : List Int) (d : Int) (e : List Int) (k : Int → (List Int) → (List Int) → Int → Option ρ) : zw b a c d e k = ai7 b a c d e k := by unfold zw; rw [dw]

abbrev bf8 (ρ : Type) := Int → Int → (List Int) → Int → (List Int) → (List Int) → Int → Option ρ
def ak6 {ρ : Type} (c g : Int) (b : List Int) (d : Int) (e a : List Int) (f : Int) (nx h : bf8 ρ) : Option ρ := br (decide (c = 0)) none (br ((IntKind.i64.wrap ((↑a.length : Int) + (↑b.length : Int))).tmod c != IntKind.i64.wrap (c - 8)) (br (decide ((b.length + 1) * 1 ≤ 140737488355328)) (nx c g (b ++ [0]) d e a f) none) (h c g b d e a f))
abbrev biw := Int × Int × (List Int) × Int × (List Int) × (List Int) × Int
abbrev bou := biw
def bnm {ρ : Type} (f : biw → Option ρ) : bf8 ρ := fun g h e a b c d => f (g, h, e, a, b, c, d)
def bjr {ρ : Type} : ag9 biw bou ρ := fun (f, g, e, a, b, c, d) next ex => ak6 f g e a b c d (bnm next) (bnm ex)
def bmz {ρ : Type} := shut (lp (bjr (ρ := ρ)))
theorem bps {ρ : Type} : bmz (ρ := ρ) = lp bjr := dw _
def bk4 {ρ : Type} (f : agy biw bou ρ) (g h : Int) (e : List Int) (a : Int) (b c : List Int) (d : Int) (i : bf8 ρ) : Option ρ := f (g, h, e, a, b, c, d) (fun (g, h, e, a, b, c, d) => i g h e a b c d)
def aqh {ρ : Type} := bk4 (lp (bjr (ρ := ρ)))
def ak9 {ρ : Type} := bk4 (bmz (ρ := ρ))
theorem ari {ρ : Type} : ak9 (ρ := ρ) = aqh := congrArg bk4 bps
abbrev zc31 (ρ : Type) := Int → Int → (List Int) → Int → (List Int) → (List Int) → Int → Option ρ
def alb {ρ : Type} (c g : Int) (b : List Int) (d : Int) (e a : List Int) (f : Int) (nx h : bf8 ρ) : Option ρ := br (decide (c = 0)) none (br ((IntKind.i64.wrap ((↑a.length : Int) + (↑b.length : Int))).tmod c != IntKind.i64.wrap (c - 16)) (br (decide ((b.length + 1) * 1 ≤ 140737488355328)) (nx c g (b ++ [0]) d e a f) none) (h c g b d e a f))
abbrev bho := Int × Int × (List Int) × Int × (List Int) × (List Int) × Int
abbrev bml := bho
def bo6 {ρ : Type} (f : bho → Option ρ) : zc31 ρ := fun g h e a b c d => f (g, h, e, a, b, c, d)
def biz {ρ : Type} : ag9 bho bml ρ := fun (f, g, e, a, b, c, d) next ex => alb f g e a b c d (bo6 next) (bo6 ex)
def bn0 {ρ : Type} := shut (lp (biz (ρ := ρ)))
theorem bpf {ρ : Type} : bn0 (ρ := ρ) = lp biz := dw _
def bk6 {ρ : Type} (f : agy bho bml ρ) (g h : Int) (e : List Int) (a : Int) (b c : List Int) (d : Int) (i : bf8 ρ) : Option ρ := f (g, h, e, a, b, c, d) (fun (g, h, e, a, b, c, d) => i g h e a b c d)
def apr {ρ : Type} := bk6 (lp (biz (ρ := ρ)))
def ak1 {ρ : Type} := bk6 (bn0 (ρ := ρ))
theorem ar3 {ρ : Type} : ak1 (ρ := ρ) = apr := congrArg bk6 bpf
abbrev zc32 (ρ : Type) := Int → Int → (List Int) → Int → (List Int) → (List Int) → Int → Option ρ
def aja {ρ : Type} (g c : Int) (a : List Int) (d : Int) (b e : List Int) (f : Int) (nx i : bf8 ρ) : Option ρ := br (decide (c < 8)) (br (decide (0 ≤ c)) (br (decide (c < (↑8 : Int))) (aat (b.getD c.toNat 0) (IntKind.i64.wrap (g.tdiv 16)) fun h => br (decide ((a.length + h.length) * 1 ≤ 140737488355328)) (nx g (IntKind.i64.wrap (c + 1)) (a ++ h) d b e f) none) none) none) (i g c a d b e f)
abbrev bir := Int × Int × (List Int) × Int × (List Int) × (List Int) × Int
abbrev bm4 := bir
def bo3 {ρ : Type} (f : bir → Option ρ) : zc32 ρ := fun g h a b c d e => f (g, h, a, b, c, d, e)
def biv {ρ : Type} : ag9 bir bm4 ρ := fun (f, g, a, b, c, d, e) next ex => aja f g a b c d e (bo3 next) (bo3 ex)
def boa {ρ : Type} := shut (lp (biv (ρ := ρ)))
theorem bp5 {ρ : Type} : boa (ρ := ρ) = lp biv := dw _
def bkq {ρ : Type} (f : agy bir bm4 ρ) (g h : Int) (a : List Int) (b : Int) (c d : List Int) (e : Int) (i : bf8 ρ) : Option ρ := f (g, h, a, b, c, d, e) (fun (g, h, a, b, c, d, e) => i g h a b c d e)
def ao6 {ρ : Type} := bkq (lp (biv (ρ := ρ)))
def af3 {ρ : Type} := bkq (boa (ρ := ρ))
theorem apd {ρ : Type} : af3 (ρ := ρ) = ao6 := congrArg bkq bp5
def aio {ρ : Type} (a : Int) (c d : List Int) (b : Int) (k : (List Int) → Option ρ) : Option ρ := qy a fun J => ak9 J (IntKind.u64.wrap (b * 8)) [128] a c d b fun m n o p q r s => br (m == 128) (ak1 m n [128] p q r s fun M N e t u v i => aat (i.fdiv (2 ^ 61)) 8 fun f => br (decide ((e.length + f.length) * 1 ≤ 140737488355328)) (aat N 8 fun j => br (decide (((e ++ f).length + j.length) * 1 ≤ 140737488355328)) (zw t u v i (e ++ f ++ j) fun w y z A => af3 M 0 [] w y z A fun O Q g B U W Z => br (B == 2) (br (decide (48 ≤ (↑g.length : Int))) (k (List.take ((48 : Int) - (0 : Int)).toNat g)) none) (k g)) none) none) (aat n 8 fun l => br (decide ((o.length + l.length) * 1 ≤ 140737488355328)) (zw p q r s (o ++ l) fun C F G H => af3 m 0 [] C F G H fun aa ab h I ac ad ae => br (I == 2) (br (decide (48 ≤ (↑h.length : Int))) (k (List.take ((48 : Int) - (0 : Int)).toNat h)) none) (k h)) none)
def ad6 {ρ : Type} := shut (aio (ρ := ρ))
theorem aq0 {ρ : Type} (b : Int) (a : List Int) (c : List Int) (d : Int) (k : (List Int) → Option ρ) : ad6 b a c d k = aio b a c d k := by unfold ad6; rw [dw]

def aix {ρ : Type} (b : Int) (c : List Int) (k : (List Int) → Int → Option ρ) : Option ρ := aeh b fun d e f g a => br (a != 0) (k [] a) (zw d e f g c fun h i j l => ad6 h i j l fun m => k m 0)
def aem {ρ : Type} := shut (aix (ρ := ρ))
theorem ap9 {ρ : Type} (a : Int) (b : List Int) (k : (List Int) → Int → Option ρ) : aem a b k = aix a b k := by unfold aem; rw [dw]

def afy {ρ : Type} (a b : Int) (k : (List Int) → Option ρ) : Option ρ := aat a 8 fun e => aat b 8 fun f => xu [e, f] fun c => aem 1 c fun d g => br (decide ((c.length + d.length) * 1 ≤ 140737488355328)) (k (c ++ d)) none
def z8 {ρ : Type} := shut (afy (ρ := ρ))
theorem alx {ρ : Type} (a : Int) (b : Int) (k : (List Int) → Option ρ) : z8 a b k = afy a b k := by unfold z8; rw [dw]

abbrev bn2 (ρ : Type) := (List Int) → (List Int) → Int → Option ρ
def aif {ρ : Type} (b c : List Int) (a : Int) (nx d : bn2 ρ) (e : Bool → Option ρ) : Option ρ := br (decide (a < (↑b.length : Int))) (br (decide (0 ≤ a)) (br (decide (a < (↑b.length : Int))) (br (decide (0 ≤ a)) (br (decide (a < (↑c.length : Int))) (br (b.getD a.toNat 0 != c.getD a.toNat 0) (e false) (nx b c (IntKind.i64.wrap (a + 1)))) none) none) none) none) (d b c a)
abbrev bkw := (List Int) × (List Int) × Int
abbrev bmi := ((List Int) × (List Int) × Int) ⊕ (Bool)
def bpi {ρ : Type} (f : bkw → Option ρ) : bn2 ρ := fun a b c => f (a, b, c)
def biu {ρ : Type} : ag9 bkw bmi ρ := fun (a, b, c) next ex => aif a b c (bpi next) (fun a b c => ex (.inl (a, b, c))) (fun d => ex (.inr d))
def bok {ρ : Type} := shut (lp (biu (ρ := ρ)))
theorem bpj {ρ : Type} : bok (ρ := ρ) = lp biu := dw _
def bld {ρ : Type} (f : agy bkw bmi ρ) (a b : List Int) (c : Int) (d : bn2 ρ) (e : Bool → Option ρ) : Option ρ := f (a, b, c) (Sum.elim (fun (a, b, c) => d a b c) (fun x => e x))
def ao8 {ρ : Type} := bld (lp (biu (ρ := ρ)))
def ao1 {ρ : Type} := bld (bok (ρ := ρ))
theorem ape {ρ : Type} : ao1 (ρ := ρ) = ao8 := congrArg bld bpj
def ag4 {ρ : Type} (a b : List Int) (k : Bool → Option ρ) : Option ρ := br ((↑a.length : Int) != (↑b.length : Int)) (k false) (ao1 a b 0 (fun d e f => k true) fun c => k c)
def abq {ρ : Type} := shut (ag4 (ρ := ρ))
theorem aoj {ρ : Type} (a : List Int) (b : List Int) (k : Bool → Option ρ) : abq a b k = ag4 a b k := by unfold abq; rw [dw]

def ag2 {ρ : Type} (a : List Int) (k : Int → Int → Bool → Option ρ) : Option ρ := br ((↑a.length : Int) != 48) (k 0 0 false) (br (decide (8 ≤ (↑a.length : Int))) (y9 (List.drop 0 (List.take (Int.toNat 8) a)) fun b => br (decide (16 ≤ (↑a.length : Int))) (y9 (List.drop 8 (List.take (Int.toNat 16) a)) fun c => z8 b c fun d => abq d a fun e => br (!e) (k 0 0 false) (k b c true)) none) none)
def aau {ρ : Type} := shut (ag2 (ρ := ρ))
theorem am6 {ρ : Type} (a : List Int) (k : Int → Int → Bool → Option ρ) : aau a k = ag2 a k := by unfold aau; rw [dw]

abbrev bl1 (ρ : Type) := Nat → (List Int) → (List Int) → (List (List Int)) → Int → Int → Option ρ
def abt {ρ : Type} (c : Nat) (d e : List Int) (b : List (List Int)) (f a : Int) (nx g : bl1 ρ) (h : Bool → Int → Int → Int → Int → Int → Int → (List Int) → Int → Int → Option ρ) : Option ρ := br (decide (a < f)) (br (decide (0 ≤ a)) (br (decide (a < (↑c : Int))) (aau (b.getD a.toNat []) fun i j k => br k (h false i j 0 0 (d.getD a.toNat 0) (e.getD a.toNat 0) (b.getD a.toNat []) 0 0) (nx c d e b f (IntKind.i64.wrap (a + 1)))) none) none) (g c d e b f a)
abbrev bkp := Nat × (List Int) × (List Int) × (List (List Int)) × Int × Int
abbrev bmp := (Nat × (List Int) × (List Int) × (List (List Int)) × Int × Int) ⊕ (Bool × Int × Int × Int × Int × Int × Int × (List Int) × Int × Int)
def bno {ρ : Type} (f : bkp → Option ρ) : bl1 ρ := fun a b c d e g => f (a, b, c, d, e, g)
def bhc {ρ : Type} : ag9 bkp bmp ρ := fun (a, b, c, d, i, j) next ex => abt a b c d i j (bno next) (fun a b c d i j => ex (.inl (a, b, c, d, i, j))) (fun p k l e f m n o g h => ex (.inr (p, k, l, e, f, m, n, o, g, h)))
def bo4 {ρ : Type} := shut (lp (bhc (ρ := ρ)))
theorem bpo {ρ : Type} : bo4 (ρ := ρ) = lp bhc := dw _
def bjf {ρ : Type} (f : agy bkp bmp ρ) (a : Nat) (b c : List Int) (d : List (List Int)) (e g : Int) (h : bl1 ρ) (i : Bool → Int → Int → Int → Int → Int → Int → (List Int) → Int → Int → Option ρ) : Option ρ := f (a, b, c, d, e, g) (Sum.elim (fun (a, b, c, d, e, g) => h a b c d e g) (fun x => i x.1 x.2.1 x.2.2.1 x.2.2.2.1 x.2.2.2.2.1 x.2.2.2.2.2.1 x.2.2.2.2.2.2.1 x.2.2.2.2.2.2.2.1 x.2.2.2.2.2.2.2.2.1 x.2.2.2.2.2.2.2.2.2))
def afq {ρ : Type} := bjf (lp (bhc (ρ := ρ)))
def ajx {ρ : Type} := bjf (bo4 (ρ := ρ))
theorem agk {ρ : Type} : ajx (ρ := ρ) = afq := congrArg bjf bpo
def aco {ρ : Type} (a : Nat) (b c : List Int) (d : List (List Int)) (k : Bool → Option ρ) : Option ρ := ajx a b c d (↑a : Int) 0 (fun m n o p q r => k true) fun e s t u f g h i j l => k e
def aa0 {ρ : Type} := shut (aco (ρ := ρ))
theorem aft {ρ : Type} (a : Nat) (b : List Int) (c : List Int) (d : List (List Int)) (k : Bool → Option ρ) : aa0 a b c d k = aco a b c d k := by unfold aa0; rw [dw]

abbrev blp (ρ : Type) := Int → Int → Int → (List Int) → Option ρ
def adl {ρ : Type} (d c a : Int) (b : List Int) (nx f : blp ρ) (e : Bool → (List Int) → Option ρ) : Option ρ := br (decide (a < c)) (br (decide (0 ≤ a)) (br (decide (a < (↑b.length : Int))) (br (decide (b.getD a.toNat 0 ≥ d)) (e false b) (br (decide (a > 0)) (br (decide (0 ≤ IntKind.i64.wrap (a - 1))) (br (decide (IntKind.i64.wrap (a - 1) < (↑b.length : Int))) (br (decide (b.getD a.toNat 0 ≤ b.getD (IntKind.i64.wrap (a - 1)).toNat 0)) (e false b) (nx d c (IntKind.i64.wrap (a + 1)) b)) none) none) (nx d c (IntKind.i64.wrap (a + 1)) b))) none) none) (f d c a b)
abbrev bkn := Int × Int × Int × (List Int)
abbrev bmm := (Int × Int × Int × (List Int)) ⊕ (Bool × (List Int))
def bpt {ρ : Type} (f : bkn → Option ρ) : blp ρ := fun c a b d => f (c, a, b, d)
def bim {ρ : Type} : ag9 bkn bmm ρ := fun (d, a, b, c) next ex => adl d a b c (bpt next) (fun d a b c => ex (.inl (d, a, b, c))) (fun e c => ex (.inr (e, c)))
def bmw {ρ : Type} := shut (lp (bim (ρ := ρ)))
theorem bpz {ρ : Type} : bmw (ρ := ρ) = lp bim := dw _
def bkv {ρ : Type} (f : agy bkn bmm ρ) (c a b : Int) (d : List Int) (e : blp ρ) (g : Bool → (List Int) → Option ρ) : Option ρ := f (c, a, b, d) (Sum.elim (fun (c, a, b, d) => e c a b d) (fun x => g x.1 x.2))
def agi {ρ : Type} := bkv (lp (bim (ρ := ρ)))
def agh {ρ : Type} := bkv (bmw (ρ := ρ))
theorem ail {ρ : Type} : agh (ρ := ρ) = agi := congrArg bkv bpz
def aci {ρ : Type} (f m : Int) (a : Nat) (b c : List Int) (d : List (List Int)) (k : Bool → Option ρ) : Option ρ := tq f m fun n o p q r s t u => afs [] [] a b c d fun v => br (!v) (qg fun w => k w) (br (u != 0) (qg fun g => k g) (aa0 a b c d fun h => br (!h) (qg fun i => k i) (o9 n o p q r s t a b c d fun y z A B C F G e => agh f (↑e.length : Int) 0 e (fun H I J M => qg fun j => k j) fun l N => k l)))
def qp {ρ : Type} := shut (aci (ρ := ρ))
theorem agj {ρ : Type} (e : Int) (f : Int) (a : Nat) (b : List Int) (c : List Int) (d : List (List Int)) (k : Bool → Option ρ) : qp e f a b c d k = aci e f a b c d k := by unfold qp; rw [dw]











































































def aaz {ρ : Type} (d e : List Int) (a c f b : Int) (g : Bool) (k : (List Int) → (List Int) → Int → Int → Int → Int → Bool → Int → Option ρ) : Option ρ := br (!g) (k d e a c f b g 21) (br (b == a) (k d e a c f b g 13) (bf d e fun l r s i => br (i != 0) (br (i != 0) (k d e a c f b g i) (bn d e 0 0 fun m n t j => br (j == 0) (k m n a c f 0 g j) (k d e a c f b g j))) (br (decide (l ≥ 1152921504606846976)) (k d e a c f b g 8) (bn d e (IntKind.u64.wrap (l + 1)) (IntKind.u64.wrap (b + bif decide (IntKind.u64.wrap (a - b) < c) then IntKind.u64.wrap (a - b) else c)) fun o p q h => br (h == 0) (k o p a c f (IntKind.u64.wrap (b + bif decide (IntKind.u64.wrap (a - b) < c) then IntKind.u64.wrap (a - b) else c)) g h) (k d e a c f b g h)))))
def abu {ρ : Type} := shut (aaz (ρ := ρ))
theorem agb {ρ : Type} (a : List Int) (b : List Int) (c : Int) (d : Int) (f : Int) (e : Int) (g : Bool) (k : (List Int) → (List Int) → Int → Int → Int → Int → Bool → Int → Option ρ) : abu a b c d f e g k = aaz a b c d f e g k := by unfold abu; rw [dw]



























end P
end
