/-
  LeasePlays, part 11: an interpreter of my own over abstract values, the pure functions, the walks and the plain law.
-/

import Derived.Test.YtkfjafaabbmapaaDoorLeasePlaysH
import Derived.Test.YtkfjafaabbmapaaDoorLeasePlaysJ
import Derived.Test.YtkfjafaabbmapaaDoorLeasePlaysI

noncomputable section
open Go Go.Abs
set_option linter.unusedVariables false
namespace P

def aen {ρ : Type} (a : Int) (k : Int → Option ρ) : Option ρ := br (decide (0 ≤ a)) (br (decide (a < (↑64 : Int))) (k (roots256.getD a.toNat 0)) none) none
def l5 {ρ : Type} := shut (aen (ρ := ρ))
theorem ajb {ρ : Type} (a : Int) (k : Int → Option ρ) : l5 a k = aen a k := by unfold l5; rw [eu]

def qy {ρ : Type} (a g : Int) (b c d e : List Int) (h f : Int) (k : Int → Option ρ) : Option ρ := br (decide (f < 0)) none (br (decide (IntKind.i64.wrap (a - f) < 0)) none (k (bits BinOp.or IntKind.u32 (h.fdiv (2 ^ min f.toNat 32)) (IntKind.u32.wrap (h * 2 ^ min (IntKind.i64.wrap (a - f)).toNat 32)))))
def ay {ρ : Type} := shut (qy (ρ := ρ))
theorem aae {ρ : Type} (f : Int) (e : Int) (a : List Int) (b : List Int) (c : List Int) (d : List Int) (g : Int) (h : Int) (k : Int → Option ρ) : ay f e a b c d g h k = qy f e a b c d g h k := by unfold ay; rw [eu]

def qc {ρ : Type} (f e : Int) (a b c d : List Int) (g h : Int) (k : Int → Option ρ) : Option ρ := br (decide (h = (↑0 : Int))) (ay f e a b c d g (a.getD 0 0) fun l => ay f e a b c d g (a.getD 1 0) fun m => ay f e a b c d g (a.getD 2 0) fun n => k (bits BinOp.xor IntKind.u32 (bits BinOp.xor IntKind.u32 l m) n)) (br (decide (h = (↑1 : Int))) (ay f e a b c d g (b.getD 0 0) fun o => ay f e a b c d g (b.getD 1 0) fun p => ay f e a b c d g (b.getD 2 0) fun q => k (bits BinOp.xor IntKind.u32 (bits BinOp.xor IntKind.u32 o p) q)) (br (decide (h = (↑2 : Int))) (ay f e a b c d g (c.getD 0 0) fun r => ay f e a b c d g (c.getD 1 0) fun s => ay f e a b c d g (c.getD 2 0) fun t => k (bits BinOp.xor IntKind.u32 (bits BinOp.xor IntKind.u32 r s) t)) (br (decide (h = (↑3 : Int))) (ay f e a b c d g (d.getD 0 0) fun u => ay f e a b c d g (d.getD 1 0) fun i => ay f e a b c d g (d.getD 2 0) fun j => k (bits BinOp.xor IntKind.u32 (bits BinOp.xor IntKind.u32 u i) j)) none)))
def jf {ρ : Type} := shut (qc (ρ := ρ))
theorem wo {ρ : Type} (f : Int) (e : Int) (a : List Int) (b : List Int) (c : List Int) (d : List Int) (g : Int) (h : Int) (k : Int → Option ρ) : jf f e a b c d g h k = qc f e a b c d g h k := by unfold jf; rw [eu]

def qh {ρ : Type} (f e : Int) (a b c d : List Int) (g h : Int) (k : Int → Option ρ) : Option ρ := br (decide (h = (↑0 : Int))) (ay f e a b c d g (a.getD 0 (0 : Int)) fun i => ay f e a b c d g (a.getD 1 (0 : Int)) fun j => br (decide (a.getD 2 (0 : Int) < (0 : Int))) none (k (bits BinOp.xor IntKind.u32 (bits BinOp.xor IntKind.u32 i j) (g.fdiv ((2 : Int) ^ min (a.getD 2 (0 : Int)).toNat 32))))) (br (decide (h = (↑1 : Int))) (ay f e a b c d g (b.getD 0 (0 : Int)) fun l => ay f e a b c d g (b.getD 1 (0 : Int)) fun m => br (decide (b.getD 2 (0 : Int) < (0 : Int))) none (k (bits BinOp.xor IntKind.u32 (bits BinOp.xor IntKind.u32 l m) (g.fdiv ((2 : Int) ^ min (b.getD 2 (0 : Int)).toNat 32))))) (br (decide (h = (↑2 : Int))) (ay f e a b c d g (c.getD 0 (0 : Int)) fun n => ay f e a b c d g (c.getD 1 (0 : Int)) fun o => br (decide (c.getD 2 (0 : Int) < (0 : Int))) none (k (bits BinOp.xor IntKind.u32 (bits BinOp.xor IntKind.u32 n o) (g.fdiv ((2 : Int) ^ min (c.getD 2 (0 : Int)).toNat 32))))) (br (decide (h = (↑3 : Int))) (ay f e a b c d g (d.getD 0 (0 : Int)) fun p => ay f e a b c d g (d.getD 1 (0 : Int)) fun q => br (decide (d.getD 2 (0 : Int) < (0 : Int))) none (k (bits BinOp.xor IntKind.u32 (bits BinOp.xor IntKind.u32 p q) (g.fdiv ((2 : Int) ^ min (d.getD 2 (0 : Int)).toNat 32))))) none)))
def jk {ρ : Type} := shut (qh (ρ := ρ))
theorem xu {ρ : Type} (f : Int) (e : Int) (a : List Int) (b : List Int) (c : List Int) (d : List Int) (g : Int) (h : Int) (k : Int → Option ρ) : jk f e a b c d g h k = qh f e a b c d g h k := by unfold jk; rw [eu]

abbrev zc7 (ρ : Type) := (List Int) → Int → Int → Int → Int → (List Int) → (List Int) → (List Int) → (List Int) → (List Int) → (List Int) → (List Int) → Option ρ
def vk {ρ : Type} (l : List Int) (b a c d : Int) (e f g h i j k : List Int) (nx m : zc7 ρ) : Option ρ := br (decide (a < 16)) (br (decide (0 ≤ IntKind.i64.wrap (a * b))) (br (decide (IntKind.i64.wrap (a * b) ≤ IntKind.i64.wrap (IntKind.i64.wrap (a + 1) * b))) (br (decide (IntKind.i64.wrap (IntKind.i64.wrap (a + 1) * b) ≤ (↑l.length : Int))) (qj (List.drop (IntKind.i64.wrap (a * b)).toNat (List.take (IntKind.i64.wrap (IntKind.i64.wrap (a + 1) * b)).toNat l)) fun n => br (decide (0 ≤ a)) (br (decide (a < (↑16 : Int))) (nx l b (IntKind.i64.wrap (a + 1)) c d e f g h i j (k.set a.toNat (IntKind.u32.wrap n))) none) none) none) none) none) (m l b a c d e f g h i j k)
abbrev zt7 := (List Int) × Int × Int × Int × Int × (List Int) × (List Int) × (List Int) × (List Int) × (List Int) × (List Int) × (List Int)
abbrev zy7 := zt7
def zu7 {ρ : Type} (f : zt7 → Option ρ) : zc7 ρ := fun l m k a b c d e g h i j => f (l, m, k, a, b, c, d, e, g, h, i, j)
def zs7 {ρ : Type} : ah7 zt7 zy7 ρ := fun (k, l, j, a, b, c, d, e, f, g, h, i) next ex => vk k l j a b c d e f g h i (zu7 next) (zu7 ex)
def zm7 {ρ : Type} := shut (lp (zs7 (ρ := ρ)))
theorem ze7 {ρ : Type} : zm7 (ρ := ρ) = lp zs7 := eu _
def zk7 {ρ : Type} (f : ahz zt7 zy7 ρ) (l : List Int) (m k a b : Int) (c d e g h i j : List Int) (n : zc7 ρ) : Option ρ := f (l, m, k, a, b, c, d, e, g, h, i, j) (fun (l, m, k, a, b, c, d, e, g, h, i, j) => n l m k a b c d e g h i j)
def abj {ρ : Type} := zk7 (lp (zs7 (ρ := ρ)))
def vg {ρ : Type} := zk7 (zm7 (ρ := ρ))
theorem ad1 {ρ : Type} : vg (ρ := ρ) = abj := congrArg zk7 ze7
abbrev zc8 (ρ : Type) := Int → Int → (List Int) → (List Int) → (List Int) → Int → Int → (List Int) → (List Int) → (List Int) → (List Int) → (List Int) → Option ρ
def uh {ρ : Type} (j b : Int) (c k l : List Int) (d e : Int) (f g h i a : List Int) (nx o : zc8 ρ) : Option ρ := br (decide (b < j)) (br (decide (0 ≤ b.tmod 16)) (br (decide (b.tmod 16 < (↑16 : Int))) (jf d e f g h i (a.getD 4 0) 3 fun m => l5 b fun n => jf d e f g h i (a.getD 0 0) 2 fun p => br (decide (0 ≤ (IntKind.i64.wrap (b + 1)).tmod 16)) (br (decide ((IntKind.i64.wrap (b + 1)).tmod 16 < (↑16 : Int))) (jk d e f g h i (c.getD ((IntKind.i64.wrap (b + 1)).tmod 16).toNat 0) 0 fun q => br (decide (0 ≤ (IntKind.i64.wrap (b + 9)).tmod 16)) (br (decide ((IntKind.i64.wrap (b + 9)).tmod 16 < (↑16 : Int))) (br (decide (0 ≤ (IntKind.i64.wrap (b + 14)).tmod 16)) (br (decide ((IntKind.i64.wrap (b + 14)).tmod 16 < (↑16 : Int))) (jk d e f g h i (c.getD ((IntKind.i64.wrap (b + 14)).tmod 16).toNat 0) 1 fun r => br (decide (0 ≤ b.tmod 16)) (br (decide (b.tmod 16 < (↑16 : Int))) (nx j (IntKind.i64.wrap (b + 1)) (c.set (b.tmod 16).toNat (IntKind.u32.wrap (IntKind.u32.wrap (IntKind.u32.wrap (c.getD (b.tmod 16).toNat 0 + q) + c.getD ((IntKind.i64.wrap (b + 9)).tmod 16).toNat 0) + r))) k l d e f g h i ((((List.take 1 a).append (List.take 7 (List.take 7 (List.drop 0 a)) ++ List.drop (1 + min 7 (List.take 7 (List.drop 0 a)).length) a)).set 4 (IntKind.u32.wrap (((List.take 1 a).append (List.take 7 (List.take 7 (List.drop 0 a)) ++ List.drop (1 + min 7 (List.take 7 (List.drop 0 a)).length) a)).getD 4 0 + IntKind.u32.wrap (IntKind.u32.wrap (IntKind.u32.wrap (IntKind.u32.wrap (a.getD 7 0 + m) + bits BinOp.xor IntKind.u32 (a.getD 6 0) (bits BinOp.and IntKind.u32 (a.getD 4 0) (bits BinOp.xor IntKind.u32 (a.getD 5 0) (a.getD 6 0)))) + n) + c.getD (b.tmod 16).toNat 0)))).set 0 (IntKind.u32.wrap (IntKind.u32.wrap (IntKind.u32.wrap (IntKind.u32.wrap (IntKind.u32.wrap (a.getD 7 0 + m) + bits BinOp.xor IntKind.u32 (a.getD 6 0) (bits BinOp.and IntKind.u32 (a.getD 4 0) (bits BinOp.xor IntKind.u32 (a.getD 5 0) (a.getD 6 0)))) + n) + c.getD (b.tmod 16).toNat 0) + IntKind.u32.wrap (p + bits BinOp.or IntKind.u32 (bits BinOp.and IntKind.u32 (a.getD 0 0) (a.getD 1 0)) (bits BinOp.and IntKind.u32 (a.getD 2 0) (bits BinOp.or IntKind.u32 (a.getD 0 0) (a.getD 1 0)))))))) none) none) none) none) none) none) none) none) none) none) (o j b c k l d e f g h i a)
abbrev zt8 := Int × Int × (List Int) × (List Int) × (List Int) × Int × Int × (List Int) × (List Int) × (List Int) × (List Int) × (List Int)
abbrev zy8 := zt8
def zu8 {ρ : Type} (f : zt8 → Option ρ) : zc8 ρ := fun l m a b c d e g h i j k => f (l, m, a, b, c, d, e, g, h, i, j, k)
def zs8 {ρ : Type} : ah7 zt8 zy8 ρ := fun (k, l, a, b, c, d, e, f, g, h, i, j) next ex => uh k l a b c d e f g h i j (zu8 next) (zu8 ex)
def zm8 {ρ : Type} := shut (lp (zs8 (ρ := ρ)))
theorem ze8 {ρ : Type} : zm8 (ρ := ρ) = lp zs8 := eu _
def zk8 {ρ : Type} (f : ahz zt8 zy8 ρ) (l m : Int) (a b c : List Int) (d e : Int) (g h i j k : List Int) (n : zc8 ρ) : Option ρ := f (l, m, a, b, c, d, e, g, h, i, j, k) (fun (l, m, a, b, c, d, e, g, h, i, j, k) => n l m a b c d e g h i j k)
def aat {ρ : Type} := zk8 (lp (zs8 (ρ := ρ)))
def p9 {ρ : Type} := zk8 (zm8 (ρ := ρ))
theorem adh {ρ : Type} : p9 (ρ := ρ) = aat := congrArg zk8 ze8
abbrev zc9 (ρ : Type) := Int → (List Int) → (List Int) → (List Int) → Option ρ
def uo {ρ : Type} (a : Int) (b d c : List Int) (nx e : zc9 ρ) : Option ρ := br (decide (a < 8)) (br (decide (0 ≤ a)) (br (decide (a < (↑8 : Int))) (br (decide (0 ≤ a)) (br (decide (a < (↑8 : Int))) (br (decide (0 ≤ a)) (br (decide (a < (↑8 : Int))) (nx (IntKind.i64.wrap (a + 1)) b d (c.set a.toNat (IntKind.u32.wrap (c.getD a.toNat 0 + b.getD a.toNat 0)))) none) none) none) none) none) none) (e a b d c)
abbrev zt9 := Int × (List Int) × (List Int) × (List Int)
abbrev zy9 := zt9
def zu9 {ρ : Type} (f : zt9 → Option ρ) : zc9 ρ := fun a b c d => f (a, b, c, d)
def zs9 {ρ : Type} : ah7 zt9 zy9 ρ := fun (a, b, c, d) next ex => uo a b c d (zu9 next) (zu9 ex)
def zm9 {ρ : Type} := shut (lp (zs9 (ρ := ρ)))
theorem ze9 {ρ : Type} : zm9 (ρ := ρ) = lp zs9 := eu _
def zk9 {ρ : Type} (f : ahz zt9 zy9 ρ) (a : Int) (b c d : List Int) (e : zc9 ρ) : Option ρ := f (a, b, c, d) (fun (a, b, c, d) => e a b c d)
def aaj {ρ : Type} := zk9 (lp (zs9 (ρ := ρ)))
def o8 {ρ : Type} := zk9 (zm9 (ρ := ρ))
theorem adf {ρ : Type} : o8 (ρ := ρ) = aaj := congrArg zk9 ze9
def uq {ρ : Type} (a f : Int) (b c d e p q : List Int) (k : (List Int) → Option ρ) : Option ρ := vg q (IntKind.i64.wrap (a.tdiv 8)) 0 a f b c d e p [0, 0, 0, 0, 0, 0, 0, 0] [0, 0, 0, 0, 0, 0, 0, 0, 0, 0, 0, 0, 0, 0, 0, 0] fun N O Q r g s t u v h i j => p9 g 0 j i h r g s t u v h fun w y z l m A B C F G H n => o8 0 m l n fun I J M o => k o
def jr {ρ : Type} := shut (uq (ρ := ρ))
theorem abg {ρ : Type} (f : Int) (e : Int) (a : List Int) (b : List Int) (c : List Int) (d : List Int) (g : List Int) (h : List Int) (k : (List Int) → Option ρ) : jr f e a b c d g h k = uq f e a b c d g h k := by unfold jr; rw [eu]

abbrev bp2 (ρ : Type) := (List Int) → (List Int) → Int → Int → Int → (List Int) → (List Int) → (List Int) → (List Int) → (List Int) → (List Int) → (List Int) → Option ρ
def aan {ρ : Type} (l b : List Int) (a c d : Int) (e f g h i j k : List Int) (nx m : bp2 ρ) : Option ρ := br (decide (a < 8)) (br (decide (0 ≤ a)) (br (decide (a < (↑8 : Int))) (br (decide (0 ≤ a)) (br (decide (a < (↑8 : Int))) (nx l b (IntKind.i64.wrap (a + 1)) c d e f g h i j (k.set a.toNat (IntKind.u32.wrap (b.getD a.toNat 0)))) none) none) none) none) (m l b a c d e f g h i j k)
abbrev bkb := (List Int) × (List Int) × Int × Int × Int × (List Int) × (List Int) × (List Int) × (List Int) × (List Int) × (List Int) × (List Int)
abbrev bo3 := bkb
def bm8 {ρ : Type} (f : bkb → Option ρ) : bp2 ρ := fun m k l a b c d e g h i j => f (m, k, l, a, b, c, d, e, g, h, i, j)
def bjf {ρ : Type} : ah7 bkb bo3 ρ := fun (l, j, k, a, b, c, d, e, f, g, h, i) next ex => aan l j k a b c d e f g h i (bm8 next) (bm8 ex)
def bm2 {ρ : Type} := shut (lp (bjf (ρ := ρ)))
theorem bq8 {ρ : Type} : bm2 (ρ := ρ) = lp bjf := eu _
def bl1 {ρ : Type} (f : ahz bkb bo3 ρ) (m k : List Int) (l a b : Int) (c d e g h i j : List Int) (n : bp2 ρ) : Option ρ := f (m, k, l, a, b, c, d, e, g, h, i, j) (fun (m, k, l, a, b, c, d, e, g, h, i, j) => n m k l a b c d e g h i j)
def ads {ρ : Type} := bl1 (lp (bjf (ρ := ρ)))
def aas {ρ : Type} := bl1 (bm2 (ρ := ρ))
theorem afx {ρ : Type} : aas (ρ := ρ) = ads := congrArg bl1 bq8
abbrev bmv (ρ : Type) := (List Int) → Int → (List Int) → (List Int) → (List Int) → Int → Int → (List Int) → (List Int) → (List Int) → (List Int) → Option ρ
def aaf {ρ : Type} (b : List Int) (a : Int) (i j k : List Int) (c d : Int) (e f g h : List Int) (nx l : bmv ρ) : Option ρ := br (decide ((↑b.length : Int) ≥ a)) (br (decide (0 ≤ a)) (br (decide (a ≤ (↑b.length : Int))) (jr c d e f g h i (List.drop 0 (List.take a.toNat b)) fun m => br (decide (0 ≤ a)) (br (decide (a ≤ (↑b.length : Int))) (br (decide ((↑b.length : Int) ≤ (↑b.length : Int))) (nx (List.drop a.toNat (List.take (↑b.length : Int).toNat b)) a m j k c d e f g h) none) none) none) none) none) (l b a i j k c d e f g h)
abbrev bi5 := (List Int) × Int × (List Int) × (List Int) × (List Int) × Int × Int × (List Int) × (List Int) × (List Int) × (List Int)
abbrev bp9 := bi5
def bov {ρ : Type} (f : bi5 → Option ρ) : bmv ρ := fun l k a b c d e g h i j => f (l, k, a, b, c, d, e, g, h, i, j)
def bjd {ρ : Type} : ah7 bi5 bp9 ρ := fun (k, j, a, b, c, d, e, f, g, h, i) next ex => aaf k j a b c d e f g h i (bov next) (bov ex)
def bpt {ρ : Type} := shut (lp (bjd (ρ := ρ)))
theorem bq0 {ρ : Type} : bpt (ρ := ρ) = lp bjd := eu _
def bl6 {ρ : Type} (f : ahz bi5 bp9 ρ) (l : List Int) (k : Int) (a b c : List Int) (d e : Int) (g h i j : List Int) (m : bmv ρ) : Option ρ := f (l, k, a, b, c, d, e, g, h, i, j) (fun (l, k, a, b, c, d, e, g, h, i, j) => m l k a b c d e g h i j)
def adk {ρ : Type} := bl6 (lp (bjd (ρ := ρ)))
def aaq {ρ : Type} := bl6 (bpt (ρ := ρ))
theorem af3 {ρ : Type} : aaq (ρ := ρ) = adk := congrArg bl6 bq0
abbrev bm0 (ρ : Type) := (List Int) → (List Int) → Int → (List Int) → (List Int) → Option ρ
def zu {ρ : Type} (e b : List Int) (a : Int) (c d : List Int) (nx f : bm0 ρ) : Option ρ := br (decide (a < 8)) (br (decide (0 ≤ a)) (br (decide (a < (↑8 : Int))) (br (decide (0 ≤ a)) (br (decide (a < (↑8 : Int))) (nx e b (IntKind.i64.wrap (a + 1)) (c.set a.toNat (IntKind.u64.wrap (b.getD a.toNat 0))) d) none) none) none) none) (f e b a c d)
abbrev bkw := (List Int) × (List Int) × Int × (List Int) × (List Int)
abbrev bn7 := bkw
def bpu {ρ : Type} (f : bkw → Option ρ) : bm0 ρ := fun e c d a b => f (e, c, d, a, b)
def zs12 {ρ : Type} : ah7 bkw bn7 ρ := fun (e, c, d, a, b) next ex => zu e c d a b (bpu next) (bpu ex)
def bp4 {ρ : Type} := shut (lp (zs12 (ρ := ρ)))
theorem bq9 {ρ : Type} : bp4 (ρ := ρ) = lp zs12 := eu _
def bma {ρ : Type} (f : ahz bkw bn7 ρ) (e c : List Int) (d : Int) (a b : List Int) (g : bm0 ρ) : Option ρ := f (e, c, d, a, b) (fun (e, c, d, a, b) => g e c d a b)
def acv {ρ : Type} := bma (lp (zs12 (ρ := ρ)))
def zy {ρ : Type} := bma (bp4 (ρ := ρ))
theorem afj {ρ : Type} : zy (ρ := ρ) = acv := congrArg bma bq9
def z8 {ρ : Type} (f e : Int) (a b c d g r : List Int) (k : (List Int) → (List Int) → Option ρ) : Option ρ := aas r g 0 f e a b c d g [0, 0, 0, 0, 0, 0, 0, 0] [0, 0, 0, 0, 0, 0, 0, 0] fun s O Q h t u v w y z i j => aaq s (IntKind.i64.wrap (h * 2)) j i z h t u v w y fun l A m n o B C F G H I => zy l m 0 o n fun p J M q N => k q p
def mh {ρ : Type} := shut (z8 (ρ := ρ))
theorem adg {ρ : Type} (f : Int) (e : Int) (a : List Int) (b : List Int) (c : List Int) (d : List Int) (g : List Int) (h : List Int) (k : (List Int) → (List Int) → Option ρ) : mh f e a b c d g h k = z8 f e a b c d g h k := by unfold mh; rw [eu]

def ak2 {ρ : Type} (k : Int → Int → (List Int) → (List Int) → (List Int) → (List Int) → Option ρ) : Option ρ := k 32 64 [7, 18, 3] [17, 19, 10] [2, 13, 22] [6, 11, 25]
def aap {ρ : Type} := shut (ak2 (ρ := ρ))
theorem am7 {ρ : Type}  (k : Int → Int → (List Int) → (List Int) → (List Int) → (List Int) → Option ρ) : aap  k = ak2  k := by unfold aap; rw [eu]

def aej {ρ : Type} (a : Int) (k : Int → Option ρ) : Option ρ := br (decide (0 ≤ a)) (br (decide (a < (↑80 : Int))) (k (roots512.getD a.toNat 0)) none) none
def lq {ρ : Type} := shut (aej (ρ := ρ))
theorem ai8 {ρ : Type} (a : Int) (k : Int → Option ρ) : lq a k = aej a k := by unfold lq; rw [eu]

def ru {ρ : Type} (a g : Int) (b c d e : List Int) (h f : Int) (k : Int → Option ρ) : Option ρ := br (decide (f < 0)) none (br (decide (IntKind.i64.wrap (a - f) < 0)) none (k (bits BinOp.or IntKind.u64 (h.fdiv (2 ^ min f.toNat 64)) (IntKind.u64.wrap (h * 2 ^ min (IntKind.i64.wrap (a - f)).toNat 64)))))
def bf {ρ : Type} := shut (ru (ρ := ρ))
theorem aad {ρ : Type} (f : Int) (e : Int) (a : List Int) (b : List Int) (c : List Int) (d : List Int) (g : Int) (h : Int) (k : Int → Option ρ) : bf f e a b c d g h k = ru f e a b c d g h k := by unfold bf; rw [eu]

def qb {ρ : Type} (f e : Int) (a b c d : List Int) (g h : Int) (k : Int → Option ρ) : Option ρ := br (decide (h = (↑0 : Int))) (bf f e a b c d g (a.getD 0 0) fun l => bf f e a b c d g (a.getD 1 0) fun m => bf f e a b c d g (a.getD 2 0) fun n => k (bits BinOp.xor IntKind.u64 (bits BinOp.xor IntKind.u64 l m) n)) (br (decide (h = (↑1 : Int))) (bf f e a b c d g (b.getD 0 0) fun o => bf f e a b c d g (b.getD 1 0) fun p => bf f e a b c d g (b.getD 2 0) fun q => k (bits BinOp.xor IntKind.u64 (bits BinOp.xor IntKind.u64 o p) q)) (br (decide (h = (↑2 : Int))) (bf f e a b c d g (c.getD 0 0) fun r => bf f e a b c d g (c.getD 1 0) fun s => bf f e a b c d g (c.getD 2 0) fun t => k (bits BinOp.xor IntKind.u64 (bits BinOp.xor IntKind.u64 r s) t)) (br (decide (h = (↑3 : Int))) (bf f e a b c d g (d.getD 0 0) fun u => bf f e a b c d g (d.getD 1 0) fun i => bf f e a b c d g (d.getD 2 0) fun j => k (bits BinOp.xor IntKind.u64 (bits BinOp.xor IntKind.u64 u i) j)) none)))
def jg {ρ : Type} := shut (qb (ρ := ρ))
theorem wm {ρ : Type} (f : Int) (e : Int) (a : List Int) (b : List Int) (c : List Int) (d : List Int) (g : Int) (h : Int) (k : Int → Option ρ) : jg f e a b c d g h k = qb f e a b c d g h k := by unfold jg; rw [eu]

def ql {ρ : Type} (f e : Int) (a b c d : List Int) (g h : Int) (k : Int → Option ρ) : Option ρ := br (decide (h = (↑0 : Int))) (bf f e a b c d g (a.getD 0 (0 : Int)) fun i => bf f e a b c d g (a.getD 1 (0 : Int)) fun j => br (decide (a.getD 2 (0 : Int) < (0 : Int))) none (k (bits BinOp.xor IntKind.u64 (bits BinOp.xor IntKind.u64 i j) (g.fdiv ((2 : Int) ^ min (a.getD 2 (0 : Int)).toNat 64))))) (br (decide (h = (↑1 : Int))) (bf f e a b c d g (b.getD 0 (0 : Int)) fun l => bf f e a b c d g (b.getD 1 (0 : Int)) fun m => br (decide (b.getD 2 (0 : Int) < (0 : Int))) none (k (bits BinOp.xor IntKind.u64 (bits BinOp.xor IntKind.u64 l m) (g.fdiv ((2 : Int) ^ min (b.getD 2 (0 : Int)).toNat 64))))) (br (decide (h = (↑2 : Int))) (bf f e a b c d g (c.getD 0 (0 : Int)) fun n => bf f e a b c d g (c.getD 1 (0 : Int)) fun o => br (decide (c.getD 2 (0 : Int) < (0 : Int))) none (k (bits BinOp.xor IntKind.u64 (bits BinOp.xor IntKind.u64 n o) (g.fdiv ((2 : Int) ^ min (c.getD 2 (0 : Int)).toNat 64))))) (br (decide (h = (↑3 : Int))) (bf f e a b c d g (d.getD 0 (0 : Int)) fun p => bf f e a b c d g (d.getD 1 (0 : Int)) fun q => br (decide (d.getD 2 (0 : Int) < (0 : Int))) none (k (bits BinOp.xor IntKind.u64 (bits BinOp.xor IntKind.u64 p q) (g.fdiv ((2 : Int) ^ min (d.getD 2 (0 : Int)).toNat 64))))) none)))
def jm {ρ : Type} := shut (ql (ρ := ρ))
theorem yt {ρ : Type} (f : Int) (e : Int) (a : List Int) (b : List Int) (c : List Int) (d : List Int) (g : Int) (h : Int) (k : Int → Option ρ) : jm f e a b c d g h k = ql f e a b c d g h k := by unfold jm; rw [eu]

abbrev bo8 (ρ : Type) := (List Int) → Int → Int → Int → Int → (List Int) → (List Int) → (List Int) → (List Int) → (List Int) → (List Int) → (List Int) → Option ρ
def vo {ρ : Type} (l : List Int) (b a c d : Int) (e f g h i j k : List Int) (nx m : bo8 ρ) : Option ρ := br (decide (a < 16)) (br (decide (0 ≤ IntKind.i64.wrap (a * b))) (br (decide (IntKind.i64.wrap (a * b) ≤ IntKind.i64.wrap (IntKind.i64.wrap (a + 1) * b))) (br (decide (IntKind.i64.wrap (IntKind.i64.wrap (a + 1) * b) ≤ (↑l.length : Int))) (qj (List.drop (IntKind.i64.wrap (a * b)).toNat (List.take (IntKind.i64.wrap (IntKind.i64.wrap (a + 1) * b)).toNat l)) fun n => br (decide (0 ≤ a)) (br (decide (a < (↑16 : Int))) (nx l b (IntKind.i64.wrap (a + 1)) c d e f g h i j (k.set a.toNat n)) none) none) none) none) none) (m l b a c d e f g h i j k)
abbrev bje := (List Int) × Int × Int × Int × Int × (List Int) × (List Int) × (List Int) × (List Int) × (List Int) × (List Int) × (List Int)
abbrev bog := bje
def bpp {ρ : Type} (f : bje → Option ρ) : bo8 ρ := fun l m k a b c d e g h i j => f (l, m, k, a, b, c, d, e, g, h, i, j)
def bjp {ρ : Type} : ah7 bje bog ρ := fun (k, l, j, a, b, c, d, e, f, g, h, i) next ex => vo k l j a b c d e f g h i (bpp next) (bpp ex)
def bod {ρ : Type} := shut (lp (bjp (ρ := ρ)))
theorem bqm {ρ : Type} : bod (ρ := ρ) = lp bjp := eu _
def bmc {ρ : Type} (f : ahz bje bog ρ) (l : List Int) (m k a b : Int) (c d e g h i j : List Int) (n : bo8 ρ) : Option ρ := f (l, m, k, a, b, c, d, e, g, h, i, j) (fun (l, m, k, a, b, c, d, e, g, h, i, j) => n l m k a b c d e g h i j)
def abf {ρ : Type} := bmc (lp (bjp (ρ := ρ)))
def vv {ρ : Type} := bmc (bod (ρ := ρ))
theorem adv {ρ : Type} : vv (ρ := ρ) = abf := congrArg bmc bqm
abbrev bmo (ρ : Type) := Int → Int → (List Int) → (List Int) → (List Int) → Int → Int → (List Int) → (List Int) → (List Int) → (List Int) → (List Int) → Option ρ
def u7 {ρ : Type} (j b : Int) (c k l : List Int) (d e : Int) (f g h i a : List Int) (nx o : bmo ρ) : Option ρ := br (decide (b < j)) (br (decide (0 ≤ b.tmod 16)) (br (decide (b.tmod 16 < (↑16 : Int))) (jg d e f g h i (a.getD 4 0) 3 fun m => lq b fun n => jg d e f g h i (a.getD 0 0) 2 fun p => br (decide (0 ≤ (IntKind.i64.wrap (b + 1)).tmod 16)) (br (decide ((IntKind.i64.wrap (b + 1)).tmod 16 < (↑16 : Int))) (jm d e f g h i (c.getD ((IntKind.i64.wrap (b + 1)).tmod 16).toNat 0) 0 fun q => br (decide (0 ≤ (IntKind.i64.wrap (b + 9)).tmod 16)) (br (decide ((IntKind.i64.wrap (b + 9)).tmod 16 < (↑16 : Int))) (br (decide (0 ≤ (IntKind.i64.wrap (b + 14)).tmod 16)) (br (decide ((IntKind.i64.wrap (b + 14)).tmod 16 < (↑16 : Int))) (jm d e f g h i (c.getD ((IntKind.i64.wrap (b + 14)).tmod 16).toNat 0) 1 fun r => br (decide (0 ≤ b.tmod 16)) (br (decide (b.tmod 16 < (↑16 : Int))) (nx j (IntKind.i64.wrap (b + 1)) (c.set (b.tmod 16).toNat (IntKind.u64.wrap (IntKind.u64.wrap (IntKind.u64.wrap (c.getD (b.tmod 16).toNat 0 + q) + c.getD ((IntKind.i64.wrap (b + 9)).tmod 16).toNat 0) + r))) k l d e f g h i ((((List.take 1 a).append (List.take 7 (List.take 7 (List.drop 0 a)) ++ List.drop (1 + min 7 (List.take 7 (List.drop 0 a)).length) a)).set 4 (IntKind.u64.wrap (((List.take 1 a).append (List.take 7 (List.take 7 (List.drop 0 a)) ++ List.drop (1 + min 7 (List.take 7 (List.drop 0 a)).length) a)).getD 4 0 + IntKind.u64.wrap (IntKind.u64.wrap (IntKind.u64.wrap (IntKind.u64.wrap (a.getD 7 0 + m) + bits BinOp.xor IntKind.u64 (a.getD 6 0) (bits BinOp.and IntKind.u64 (a.getD 4 0) (bits BinOp.xor IntKind.u64 (a.getD 5 0) (a.getD 6 0)))) + n) + c.getD (b.tmod 16).toNat 0)))).set 0 (IntKind.u64.wrap (IntKind.u64.wrap (IntKind.u64.wrap (IntKind.u64.wrap (IntKind.u64.wrap (a.getD 7 0 + m) + bits BinOp.xor IntKind.u64 (a.getD 6 0) (bits BinOp.and IntKind.u64 (a.getD 4 0) (bits BinOp.xor IntKind.u64 (a.getD 5 0) (a.getD 6 0)))) + n) + c.getD (b.tmod 16).toNat 0) + IntKind.u64.wrap (p + bits BinOp.or IntKind.u64 (bits BinOp.and IntKind.u64 (a.getD 0 0) (a.getD 1 0)) (bits BinOp.and IntKind.u64 (a.getD 2 0) (bits BinOp.or IntKind.u64 (a.getD 0 0) (a.getD 1 0)))))))) none) none) none) none) none) none) none) none) none) none) (o j b c k l d e f g h i a)
abbrev bjs := Int × Int × (List Int) × (List Int) × (List Int) × Int × Int × (List Int) × (List Int) × (List Int) × (List Int) × (List Int)
abbrev bpx := bjs
def bmx {ρ : Type} (f : bjs → Option ρ) : bmo ρ := fun l m a b c d e g h i j k => f (l, m, a, b, c, d, e, g, h, i, j, k)
def bi2 {ρ : Type} : ah7 bjs bpx ρ := fun (k, l, a, b, c, d, e, f, g, h, i, j) next ex => u7 k l a b c d e f g h i j (bmx next) (bmx ex)
def bob {ρ : Type} := shut (lp (bi2 (ρ := ρ)))
theorem brg {ρ : Type} : bob (ρ := ρ) = lp bi2 := eu _
def bme {ρ : Type} (f : ahz bjs bpx ρ) (l m : Int) (a b c : List Int) (d e : Int) (g h i j k : List Int) (n : bmo ρ) : Option ρ := f (l, m, a, b, c, d, e, g, h, i, j, k) (fun (l, m, a, b, c, d, e, g, h, i, j, k) => n l m a b c d e g h i j k)
def aa3 {ρ : Type} := bme (lp (bi2 (ρ := ρ)))
def ow {ρ : Type} := bme (bob (ρ := ρ))
theorem adl {ρ : Type} : ow (ρ := ρ) = aa3 := congrArg bme brg
abbrev bos (ρ : Type) := Int → (List Int) → (List Int) → (List Int) → Option ρ
def uw {ρ : Type} (a : Int) (b d c : List Int) (nx e : bos ρ) : Option ρ := br (decide (a < 8)) (br (decide (0 ≤ a)) (br (decide (a < (↑8 : Int))) (br (decide (0 ≤ a)) (br (decide (a < (↑8 : Int))) (br (decide (0 ≤ a)) (br (decide (a < (↑8 : Int))) (nx (IntKind.i64.wrap (a + 1)) b d (c.set a.toNat (IntKind.u64.wrap (c.getD a.toNat 0 + b.getD a.toNat 0)))) none) none) none) none) none) none) (e a b d c)
abbrev bi8 := Int × (List Int) × (List Int) × (List Int)
abbrev bpb := bi8
def bph {ρ : Type} (f : bi8 → Option ρ) : bos ρ := fun a b c d => f (a, b, c, d)
def bjb {ρ : Type} : ah7 bi8 bpb ρ := fun (a, b, c, d) next ex => uw a b c d (bph next) (bph ex)
def bpk {ρ : Type} := shut (lp (bjb (ρ := ρ)))
theorem bqv {ρ : Type} : bpk (ρ := ρ) = lp bjb := eu _
def bmi {ρ : Type} (f : ahz bi8 bpb ρ) (a : Int) (b c d : List Int) (e : bos ρ) : Option ρ := f (a, b, c, d) (fun (a, b, c, d) => e a b c d)
def aaz {ρ : Type} := bmi (lp (bjb (ρ := ρ)))
def oz {ρ : Type} := bmi (bpk (ρ := ρ))
theorem adp {ρ : Type} : oz (ρ := ρ) = aaz := congrArg bmi bqv
def uj {ρ : Type} (a f : Int) (b c d e p q : List Int) (k : (List Int) → Option ρ) : Option ρ := vv q (IntKind.i64.wrap (a.tdiv 8)) 0 a f b c d e p [0, 0, 0, 0, 0, 0, 0, 0] [0, 0, 0, 0, 0, 0, 0, 0, 0, 0, 0, 0, 0, 0, 0, 0] fun N O Q r g s t u v h i j => ow g 0 j i h r g s t u v h fun w y z l m A B C F G H n => oz 0 m l n fun I J M o => k o
def jv {ρ : Type} := shut (uj (ρ := ρ))
theorem abh {ρ : Type} (f : Int) (e : Int) (a : List Int) (b : List Int) (c : List Int) (d : List Int) (g : List Int) (h : List Int) (k : (List Int) → Option ρ) : jv f e a b c d g h k = uj f e a b c d g h k := by unfold jv; rw [eu]

abbrev bof (ρ : Type) := (List Int) → (List Int) → Int → Int → Int → (List Int) → (List Int) → (List Int) → (List Int) → (List Int) → (List Int) → (List Int) → Option ρ
def aa4 {ρ : Type} (l b : List Int) (a c d : Int) (e f g h i j k : List Int) (nx m : bof ρ) : Option ρ := br (decide (a < 8)) (br (decide (0 ≤ a)) (br (decide (a < (↑8 : Int))) (br (decide (0 ≤ a)) (br (decide (a < (↑8 : Int))) (nx l b (IntKind.i64.wrap (a + 1)) c d e f g h i j (k.set a.toNat (b.getD a.toNat 0))) none) none) none) none) (m l b a c d e f g h i j k)
abbrev bjx := (List Int) × (List Int) × Int × Int × Int × (List Int) × (List Int) × (List Int) × (List Int) × (List Int) × (List Int) × (List Int)
abbrev bn9 := bjx
def bm6 {ρ : Type} (f : bjx → Option ρ) : bof ρ := fun m k l a b c d e g h i j => f (m, k, l, a, b, c, d, e, g, h, i, j)
def bkd {ρ : Type} : ah7 bjx bn9 ρ := fun (l, j, k, a, b, c, d, e, f, g, h, i) next ex => aa4 l j k a b c d e f g h i (bm6 next) (bm6 ex)
def bqf {ρ : Type} := shut (lp (bkd (ρ := ρ)))
theorem bqr {ρ : Type} : bqf (ρ := ρ) = lp bkd := eu _
def bmn {ρ : Type} (f : ahz bjx bn9 ρ) (m k : List Int) (l a b : Int) (c d e g h i j : List Int) (n : bof ρ) : Option ρ := f (m, k, l, a, b, c, d, e, g, h, i, j) (fun (m, k, l, a, b, c, d, e, g, h, i, j) => n m k l a b c d e g h i j)
def adj {ρ : Type} := bmn (lp (bkd (ρ := ρ)))
def aaw {ρ : Type} := bmn (bqf (ρ := ρ))
theorem af4 {ρ : Type} : aaw (ρ := ρ) = adj := congrArg bmn bqr
abbrev bnm (ρ : Type) := (List Int) → Int → (List Int) → (List Int) → (List Int) → Int → Int → (List Int) → (List Int) → (List Int) → (List Int) → Option ρ
def aah {ρ : Type} (b : List Int) (a : Int) (i j k : List Int) (c d : Int) (e f g h : List Int) (nx l : bnm ρ) : Option ρ := br (decide ((↑b.length : Int) ≥ a)) (br (decide (0 ≤ a)) (br (decide (a ≤ (↑b.length : Int))) (jv c d e f g h i (List.drop 0 (List.take a.toNat b)) fun m => br (decide (0 ≤ a)) (br (decide (a ≤ (↑b.length : Int))) (br (decide ((↑b.length : Int) ≤ (↑b.length : Int))) (nx (List.drop a.toNat (List.take (↑b.length : Int).toNat b)) a m j k c d e f g h) none) none) none) none) none) (l b a i j k c d e f g h)
abbrev bja := (List Int) × Int × (List Int) × (List Int) × (List Int) × Int × Int × (List Int) × (List Int) × (List Int) × (List Int)
abbrev bo2 := bja
def boc {ρ : Type} (f : bja → Option ρ) : bnm ρ := fun l k a b c d e g h i j => f (l, k, a, b, c, d, e, g, h, i, j)
def bjr {ρ : Type} : ah7 bja bo2 ρ := fun (k, j, a, b, c, d, e, f, g, h, i) next ex => aah k j a b c d e f g h i (boc next) (boc ex)
def bpw {ρ : Type} := shut (lp (bjr (ρ := ρ)))
theorem bqu {ρ : Type} : bpw (ρ := ρ) = lp bjr := eu _
def bl4 {ρ : Type} (f : ahz bja bo2 ρ) (l : List Int) (k : Int) (a b c : List Int) (d e : Int) (g h i j : List Int) (m : bnm ρ) : Option ρ := f (l, k, a, b, c, d, e, g, h, i, j) (fun (l, k, a, b, c, d, e, g, h, i, j) => m l k a b c d e g h i j)
def adn {ρ : Type} := bl4 (lp (bjr (ρ := ρ)))
def aa5 {ρ : Type} := bl4 (bpw (ρ := ρ))
theorem afz {ρ : Type} : aa5 (ρ := ρ) = adn := congrArg bl4 bqu
abbrev boj (ρ : Type) := (List Int) → (List Int) → Int → (List Int) → (List Int) → Option ρ
def zw {ρ : Type} (e b : List Int) (a : Int) (c d : List Int) (nx f : boj ρ) : Option ρ := br (decide (a < 8)) (br (decide (0 ≤ a)) (br (decide (a < (↑8 : Int))) (br (decide (0 ≤ a)) (br (decide (a < (↑8 : Int))) (nx e b (IntKind.i64.wrap (a + 1)) (c.set a.toNat (b.getD a.toNat 0)) d) none) none) none) none) (f e b a c d)
abbrev bk0 := (List Int) × (List Int) × Int × (List Int) × (List Int)
abbrev bno := bk0
def bnk {ρ : Type} (f : bk0 → Option ρ) : boj ρ := fun e c d a b => f (e, c, d, a, b)
def bkf {ρ : Type} : ah7 bk0 bno ρ := fun (e, c, d, a, b) next ex => zw e c d a b (bnk next) (bnk ex)
def bmp {ρ : Type} := shut (lp (bkf (ρ := ρ)))
theorem bq6 {ρ : Type} : bmp (ρ := ρ) = lp bkf := eu _
def bml {ρ : Type} (f : ahz bk0 bno ρ) (e c : List Int) (d : Int) (a b : List Int) (g : boj ρ) : Option ρ := f (e, c, d, a, b) (fun (e, c, d, a, b) => g e c d a b)
def acu {ρ : Type} := bml (lp (bkf (ρ := ρ)))
def zx {ρ : Type} := bml (bmp (ρ := ρ))
theorem afr {ρ : Type} : zx (ρ := ρ) = acu := congrArg bml bq6
def zo {ρ : Type} (f e : Int) (a b c d g r : List Int) (k : (List Int) → (List Int) → Option ρ) : Option ρ := aaw r g 0 f e a b c d g [0, 0, 0, 0, 0, 0, 0, 0] [0, 0, 0, 0, 0, 0, 0, 0] fun s O Q h t u v w y z i j => aa5 s (IntKind.i64.wrap (h * 2)) j i z h t u v w y fun l A m n o B C F G H I => zx l m 0 o n fun p J M q N => k q p
def l9 {ρ : Type} := shut (zo (ρ := ρ))
theorem ade {ρ : Type} (f : Int) (e : Int) (a : List Int) (b : List Int) (c : List Int) (d : List Int) (g : List Int) (h : List Int) (k : (List Int) → (List Int) → Option ρ) : l9 f e a b c d g h k = zo f e a b c d g h k := by unfold l9; rw [eu]

def akg {ρ : Type} (k : Int → Int → (List Int) → (List Int) → (List Int) → (List Int) → Option ρ) : Option ρ := k 64 80 [1, 8, 7] [19, 61, 6] [28, 34, 39] [14, 18, 41]
def aag {ρ : Type} := shut (akg (ρ := ρ))
theorem am8 {ρ : Type}  (k : Int → Int → (List Int) → (List Int) → (List Int) → (List Int) → Option ρ) : aag  k = akg  k := by unfold aag; rw [eu]

def aju {ρ : Type} (a : Int) (b d : List Int) (c : Int) (e : List Int) (k : Int → (List Int) → (List Int) → Int → Option ρ) : Option ρ := jd [d, e] fun f => br (a == 1) (aap fun q r s t u v => mh q r s t u v b f fun w y => gy y fun z => k a w z (IntKind.u64.wrap (c + IntKind.u64.wrap (↑e.length : Int)))) (aag fun g h i j l m => l9 g h i j l m b f fun n o => gy o fun p => k a n p (IntKind.u64.wrap (c + IntKind.u64.wrap (↑e.length : Int))))
def abr {ρ : Type} := shut (aju (ρ := ρ))
theorem asb {ρ : Type} (b : Int) (a : List Int) (c : List Int) (d : Int) (e : List Int) (k : Int → (List Int) → (List Int) → Int → Option ρ) : abr b a c d e k = aju b a c d e k := by unfold abr; rw [eu]

def acy {ρ : Type} (a : Int) (k : Int → Option ρ) : Option ρ := br (a == 1) (k 64) (k 128)
def ou {ρ : Type} := shut (acy (ρ := ρ))
theorem ag7 {ρ : Type} (a : Int) (k : Int → Option ρ) : ou a k = acy a k := by unfold ou; rw [eu]

abbrev bmu (ρ : Type) := Int → (List Int) → Int → (List Int) → Int → (List Int) → Int → (List Int) → Option ρ
def akb {ρ : Type} (g : Int) (b : List Int) (a : Int) (c : List Int) (d : Int) (e : List Int) (f : Int) (h : List Int) (nx j : bmu ρ) : Option ρ := br (decide (a < 8)) (br (decide (0 ≤ a)) (br (decide (a < (↑8 : Int))) (za (b.getD a.toNat 0) (IntKind.i64.wrap (g.tdiv 16)) fun i => br (decide ((c.length + i.length) * 1 ≤ 140737488355328)) (nx g b (IntKind.i64.wrap (a + 1)) (c ++ i) d e f h) none) none) none) (j g b a c d e f h)
abbrev biz := Int × (List Int) × Int × (List Int) × Int × (List Int) × Int × (List Int)
abbrev boa := biz
def bm9 {ρ : Type} (f : biz → Option ρ) : bmu ρ := fun h d e g a b c i => f (h, d, e, g, a, b, c, i)
def bj7 {ρ : Type} : ah7 biz boa ρ := fun (g, d, e, f, a, b, c, h) next ex => akb g d e f a b c h (bm9 next) (bm9 ex)
def bn5 {ρ : Type} := shut (lp (bj7 (ρ := ρ)))
theorem bq5 {ρ : Type} : bn5 (ρ := ρ) = lp bj7 := eu _
def bmj {ρ : Type} (f : ahz biz boa ρ) (h : Int) (d : List Int) (e : Int) (g : List Int) (a : Int) (b : List Int) (c : Int) (i : List Int) (j : bmu ρ) : Option ρ := f (h, d, e, g, a, b, c, i) (fun (h, d, e, g, a, b, c, i) => j h d e g a b c i)
def aps {ρ : Type} := bmj (lp (bj7 (ρ := ρ)))
def ajx {ρ : Type} := bmj (bn5 (ρ := ρ))
theorem aqm {ρ : Type} : ajx (ρ := ρ) = aps := congrArg bmj bq5
def ajg {ρ : Type} (c : Int) (e a : List Int) (d : Int) (k : (List Int) → Option ρ) : Option ρ := ou c fun b => br (decide (1 ≤ b)) (br (decide (b * (↑1 : Int) ≤ (↑140737488355328 : Int))) (br (decide (b = 0)) none (br (decide (0 ≤ IntKind.i64.wrap (IntKind.i64.wrap ((IntKind.i64.wrap (IntKind.i64.wrap (IntKind.i64.wrap (IntKind.i64.wrap (2 * b) - 1) - IntKind.i64.wrap (b.tdiv 8)) - (↑a.length : Int))).tmod b + IntKind.i64.wrap (b.tdiv 8)) - 8))) (br (decide ((1 + (IntKind.i64.wrap (IntKind.i64.wrap ((IntKind.i64.wrap (IntKind.i64.wrap (IntKind.i64.wrap (IntKind.i64.wrap (2 * b) - 1) - IntKind.i64.wrap (b.tdiv 8)) - (↑a.length : Int))).tmod b + IntKind.i64.wrap (b.tdiv 8)) - 8)).toNat) * 1 ≤ 140737488355328)) (za (IntKind.u64.wrap (d * 2 ^ 3)) 8 fun g => br (decide ((((List.replicate (IntKind.i64.wrap (IntKind.i64.wrap ((IntKind.i64.wrap (IntKind.i64.wrap (IntKind.i64.wrap (IntKind.i64.wrap (2 * b) - 1) - IntKind.i64.wrap (b.tdiv 8)) - (↑a.length : Int))).tmod b + IntKind.i64.wrap (b.tdiv 8)) - 8)).toNat (0 : Int)).length.add 0).succ + g.length) * 1 ≤ 140737488355328)) (abr c e a d ((List.replicate 1 (0 : Int)).set 0 128 ++ List.replicate (IntKind.i64.wrap (IntKind.i64.wrap ((IntKind.i64.wrap (IntKind.i64.wrap (IntKind.i64.wrap (IntKind.i64.wrap (2 * b) - 1) - IntKind.i64.wrap (b.tdiv 8)) - (↑a.length : Int))).tmod b + IntKind.i64.wrap (b.tdiv 8)) - 8)).toNat (0 : Int) ++ g) fun j h l m => ajx b h 0 [] j h m l fun q r s f i n o p => br (i == 2) (br (decide (48 ≤ (↑f.length : Int))) (k (List.take ((48 : Int) - (0 : Int)).toNat f)) none) (k f)) none) none) none)) none) none
def aei {ρ : Type} := shut (ajg (ρ := ρ))
theorem arq {ρ : Type} (b : Int) (a : List Int) (c : List Int) (d : Int) (k : (List Int) → Option ρ) : aei b a c d k = ajg b a c d k := by unfold aei; rw [eu]

def ajr {ρ : Type} (b : Int) (c : List Int) (k : (List Int) → Int → Option ρ) : Option ρ := aem b fun d e f g a => br (a != 0) (k [] a) (abr d e f g c fun h i j l => aei h i j l fun m => k m 0)
def abn {ρ : Type} := shut (ajr (ρ := ρ))
theorem asf {ρ : Type} (a : Int) (b : List Int) (k : (List Int) → Int → Option ρ) : abn a b k = ajr a b k := by unfold abn; rw [eu]

abbrev bor (ρ : Type) := (List Int) → (List Int) → Int → Int → Int → Option ρ
def ahh {ρ : Type} (c d : List Int) (e b a : Int) (nx f : bor ρ) : Option ρ := br (decide (a < b)) (br (decide (0 ≤ a)) (br (decide (a < (↑c.length : Int))) (br (decide (0 ≤ a)) (br (decide (a < (↑d.length : Int))) (nx c d (bits BinOp.or IntKind.u8 e (bits BinOp.xor IntKind.u8 (c.getD a.toNat 0) (d.getD a.toNat 0))) b (IntKind.i64.wrap (a + 1))) none) none) none) none) (f c d e b a)
abbrev bji := (List Int) × (List Int) × Int × Int × Int
abbrev bm4 := bji
def bpl {ρ : Type} (f : bji → Option ρ) : bor ρ := fun c d e a b => f (c, d, e, a, b)
def bj5 {ρ : Type} : ah7 bji bm4 ρ := fun (c, d, e, a, b) next ex => ahh c d e a b (bpl next) (bpl ex)
def bnq {ρ : Type} := shut (lp (bj5 (ρ := ρ)))
theorem bq1 {ρ : Type} : bnq (ρ := ρ) = lp bj5 := eu _
def blx {ρ : Type} (f : ahz bji bm4 ρ) (c d : List Int) (e a b : Int) (g : bor ρ) : Option ρ := f (c, d, e, a, b) (fun (c, d, e, a, b) => g c d e a b)
def am5 {ρ : Type} := blx (lp (bj5 (ρ := ρ)))
def anf {ρ : Type} := blx (bnq (ρ := ρ))
theorem aoc {ρ : Type} : anf (ρ := ρ) = am5 := congrArg blx bq1
def agt {ρ : Type} (a b : List Int) (k : Bool → Option ρ) : Option ρ := br ((↑a.length : Int) != (↑b.length : Int)) (k false) (anf a b 0 (↑a.length : Int) 0 fun d e c f g => k (c == 0))
def aa1 {ρ : Type} := shut (agt (ρ := ρ))
theorem am3 {ρ : Type} (a : List Int) (b : List Int) (k : Bool → Option ρ) : aa1 a b k = agt a b k := by unfold aa1; rw [eu]

def aey {ρ : Type} (a : List Int) (k : Int → Int → Bool → Option ρ) : Option ρ := br ((↑a.length : Int) != 48) (k 0 0 false) (br (decide (16 ≤ (↑a.length : Int))) (abn 1 (List.drop 0 (List.take (Int.toNat 16) a)) fun b f => br (decide (16 ≤ (↑a.length : Int))) (br (decide ((↑a.length : Int) ≤ (↑a.length : Int))) (aa1 b (List.drop 16 (List.take (↑a.length : Int).toNat a)) fun c => br (!c) (k 0 0 false) (br (decide (8 ≤ (↑a.length : Int))) (qj (List.drop 0 (List.take (Int.toNat 8) a)) fun d => br (decide (16 ≤ (↑a.length : Int))) (qj (List.drop 8 (List.take (Int.toNat 16) a)) fun e => k d e true) none) none)) none) none) none)
def l7 {ρ : Type} := shut (aey (ρ := ρ))
theorem ai6 {ρ : Type} (a : List Int) (k : Int → Int → Bool → Option ρ) : l7 a k = aey a k := by unfold l7; rw [eu]

abbrev bpd (ρ : Type) := (List Int) → (List Int) → Int → Int → Int → Int → Int → Int → Int → Option ρ
def abm {ρ : Type} (a b : List Int) (e c d f h i g : Int) (nx n : bpd ρ) : Option ρ := br (decide (e < 2)) (br (decide (e = (↑0 : Int))) (l7 a fun j l o => br o (br (g != 0) (nx a b (IntKind.i64.wrap (e + 1)) c d j l e 0) (br (decide (j > f)) (nx a b (IntKind.i64.wrap (e + 1)) c d j l e 0) (nx a b (IntKind.i64.wrap (e + 1)) c d f h i g))) (nx a b (IntKind.i64.wrap (e + 1)) c d f h i g)) (br (decide (e = (↑1 : Int))) (l7 b fun k m p => br p (br (g != 0) (nx a b (IntKind.i64.wrap (e + 1)) c d k m e 0) (br (decide (k > f)) (nx a b (IntKind.i64.wrap (e + 1)) c d k m e 0) (nx a b (IntKind.i64.wrap (e + 1)) c d f h i g))) (nx a b (IntKind.i64.wrap (e + 1)) c d f h i g)) none)) (n a b e c d f h i g)
abbrev bjy := (List Int) × (List Int) × Int × Int × Int × Int × Int × Int × Int
abbrev bo4 := bjy
def boh {ρ : Type} (f : bjy → Option ρ) : bpd ρ := fun a b j c d e g h i => f (a, b, j, c, d, e, g, h, i)
def bjq {ρ : Type} : ah7 bjy bo4 ρ := fun (a, b, i, c, d, e, f, g, h) next ex => abm a b i c d e f g h (boh next) (boh ex)
def bnz {ρ : Type} := shut (lp (bjq (ρ := ρ)))
theorem brb {ρ : Type} : bnz (ρ := ρ) = lp bjq := eu _
def bmm {ρ : Type} (f : ahz bjy bo4 ρ) (a b : List Int) (j c d e g h i : Int) (k : bpd ρ) : Option ρ := f (a, b, j, c, d, e, g, h, i) (fun (a, b, j, c, d, e, g, h, i) => k a b j c d e g h i)
def ag8 {ρ : Type} := bmm (lp (bjq (ρ := ρ)))
def agz {ρ : Type} := bmm (bnz (ρ := ρ))
theorem aj6 {ρ : Type} : agz (ρ := ρ) = ag8 := congrArg bmm brb
def ae5 {ρ : Type} (a b : List Int) (k : Int → Int → Int → Int → Option ρ) : Option ρ := agz a b 0 0 0 0 0 0 21 fun g h i j l c d e f => k c d e f
def cu {ρ : Type} := shut (ae5 (ρ := ρ))
theorem ai9 {ρ : Type} (a : List Int) (b : List Int) (k : Int → Int → Int → Int → Option ρ) : cu a b k = ae5 a b k := by unfold cu; rw [eu]

def afw {ρ : Type} (a b : List Int) (c d : Int) (k : (List Int) → (List Int) → Int → Int → Int → Int → Bool → Int → Option ρ) : Option ρ := br (decide (c > 1152921504606846976)) (k [] [] 0 0 0 0 false 8) (br (decide (d < 1)) (k [] [] 0 0 0 0 false 8) (br (decide (d > 4294967296)) (k [] [] 0 0 0 0 false 8) (cu a b fun g e j f => br (f != 0) (k [] [] 0 0 0 0 false f) (br (decide (e > c)) (k [] [] 0 0 0 0 false 8) (br (decide (g ≥ 1152921504606846976)) (k [] [] 0 0 0 0 false 8) (gy a fun h => gy b fun i => k h i c d e e true 0))))))
def iy {ρ : Type} := shut (afw (ρ := ρ))
theorem akk {ρ : Type} (a : List Int) (b : List Int) (c : Int) (d : Int) (k : (List Int) → (List Int) → Int → Int → Int → Int → Bool → Int → Option ρ) : iy a b c d k = afw a b c d k := by unfold iy; rw [eu]

def agn {ρ : Type} (a : List (List Int)) (k : (List Int) → Option ρ) : Option ρ := jd a fun b => k b
def aao {ρ : Type} := shut (agn (ρ := ρ))
theorem anc {ρ : Type} (a : List (List Int)) (k : (List Int) → Option ρ) : aao a k = agn a k := by unfold aao; rw [eu]

def adu {ρ : Type} (a b : Int) (k : (List Int) → Option ρ) : Option ρ := za a 8 fun e => za b 8 fun f => aao [e, f] fun c => abn 1 c fun d g => br (decide ((c.length + d.length) * 1 ≤ 140737488355328)) (k (c ++ d)) none
def lg {ρ : Type} := shut (adu (ρ := ρ))
theorem ah2 {ρ : Type} (a : Int) (b : Int) (k : (List Int) → Option ρ) : lg a b k = adu a b k := by unfold lg; rw [eu]

def afk {ρ : Type} (k : (List Int) → (List Int) → Option ρ) : Option ρ := lg 0 0 fun a => lg 0 0 fun b => k a b
def xw {ρ : Type} := shut (afk (ρ := ρ))
theorem akr {ρ : Type}  (k : (List Int) → (List Int) → Option ρ) : xw  k = afk  k := by unfold xw; rw [eu]

def agv {ρ : Type} (a b : Int) (k : (List Int) → (List Int) → Int → Int → Int → Int → Bool → Int → Option ρ) : Option ρ := xw fun c d => iy c d a b fun e f g h i j l m => k e f g h i j l m
def aay {ρ : Type} := shut (agv (ρ := ρ))
theorem am0 {ρ : Type} (a : Int) (b : Int) (k : (List Int) → (List Int) → Int → Int → Int → Int → Bool → Int → Option ρ) : aay a b k = agv a b k := by unfold aay; rw [eu]

def ac2 {ρ : Type} (a b : List Int) (k : (List Int) → (List Int) → Option ρ) : Option ρ := gy a fun c => gy b fun d => k c d
def lu {ρ : Type} := shut (ac2 (ρ := ρ))
theorem ag1 {ρ : Type} (a : List Int) (b : List Int) (k : (List Int) → (List Int) → Option ρ) : lu a b k = ac2 a b k := by unfold lu; rw [eu]

def aew {ρ : Type} (a b h : List Int) (k : (List Int) → (List Int) → Int → Int → Option ρ) : Option ρ := lu a b fun d e => cu a b fun i j c f => br (f != 0) (k d e 0 f) (gy h fun g => br (decide (IntKind.i64.wrap (1 - c) = (↑0 : Int))) (k g e (IntKind.i64.wrap (1 - c)) 0) (br (decide (IntKind.i64.wrap (1 - c) = (↑1 : Int))) (k d g (IntKind.i64.wrap (1 - c)) 0) none))
def om {ρ : Type} := shut (aew (ρ := ρ))
theorem ai5 {ρ : Type} (a : List Int) (b : List Int) (c : List Int) (k : (List Int) → (List Int) → Int → Int → Option ρ) : om a b c k = aew a b c k := by unfold om; rw [eu]

def ad2 {ρ : Type} (c d : List Int) (a b : Int) (k : (List Int) → (List Int) → Int → Int → Option ρ) : Option ρ := lg a b fun e => om c d e fun f g h i => k f g h i
def dx {ρ : Type} := shut (ad2 (ρ := ρ))
theorem ah1 {ρ : Type} (c : List Int) (d : List Int) (a : Int) (b : Int) (k : (List Int) → (List Int) → Int → Int → Option ρ) : dx c d a b k = ad2 c d a b k := by unfold dx; rw [eu]

def ae1 {ρ : Type} (a b : List Int) (c d f : Int) (i : List Int) (k : (List Int) → (List Int) → Int → Option ρ) : Option ρ := lu a b fun g h => br (f == 1) (dx a b c d fun j l t m => k j l m) (br (f == 2) (om a b i fun n o u p => k n o p) (cu a b fun q r s e => br (e == 0) (br (f != 0) (k g h 8) (k g h e)) (k g h e)))
def iq {ρ : Type} := shut (ae1 (ρ := ρ))
theorem ajc {ρ : Type} (c : List Int) (d : List Int) (a : Int) (b : Int) (e : Int) (f : List Int) (k : (List Int) → (List Int) → Int → Option ρ) : iq c d a b e f k = ae1 c d a b e f k := by unfold iq; rw [eu]

def afl {ρ : Type} (e f : List Int) (a c d b : Int) (g : Bool) (k : (List Int) → (List Int) → Int → Int → Int → Int → Bool → Int → Int → Option ρ) : Option ρ := br (!g) (k e f a c d b g 0 21) (br (d == b) (br (!g) (k e f a c d b g 0 21) (br (b == a) (k e f a c d b g 0 13) (cu e f fun l r s j => br (j != 0) (br (j != 0) (br (j != 0) (k e f a c d b g 0 j) (k e f a c (IntKind.u64.wrap (d + 1)) b g (IntKind.u64.wrap (IntKind.u64.wrap (d + 1) - 1)) 0)) (dx e f 0 0 fun m n t i => br (i == 0) (br (i != 0) (k m n a c d 0 g 0 i) (k m n a c (IntKind.u64.wrap (d + 1)) 0 g (IntKind.u64.wrap (IntKind.u64.wrap (d + 1) - 1)) 0)) (br (i != 0) (k e f a c d b g 0 i) (k e f a c (IntKind.u64.wrap (d + 1)) b g (IntKind.u64.wrap (IntKind.u64.wrap (d + 1) - 1)) 0)))) (br (decide (l ≥ 1152921504606846976)) (k e f a c d b g 0 8) (dx e f (IntKind.u64.wrap (l + 1)) (IntKind.u64.wrap (b + bif decide (IntKind.u64.wrap (a - b) < c) then IntKind.u64.wrap (a - b) else c)) fun o p q h => br (h == 0) (br (h != 0) (k o p a c d (IntKind.u64.wrap (b + bif decide (IntKind.u64.wrap (a - b) < c) then IntKind.u64.wrap (a - b) else c)) g 0 h) (k o p a c (IntKind.u64.wrap (d + 1)) (IntKind.u64.wrap (b + bif decide (IntKind.u64.wrap (a - b) < c) then IntKind.u64.wrap (a - b) else c)) g (IntKind.u64.wrap (IntKind.u64.wrap (d + 1) - 1)) 0)) (br (h != 0) (k e f a c d b g 0 h) (k e f a c (IntKind.u64.wrap (d + 1)) b g (IntKind.u64.wrap (IntKind.u64.wrap (d + 1) - 1)) 0))))))) (k e f a c (IntKind.u64.wrap (d + 1)) b g (IntKind.u64.wrap (IntKind.u64.wrap (d + 1) - 1)) 0))
def x9 {ρ : Type} := shut (afl (ρ := ρ))
theorem alh {ρ : Type} (a : List Int) (b : List Int) (c : Int) (d : Int) (f : Int) (e : Int) (g : Bool) (k : (List Int) → (List Int) → Int → Int → Int → Int → Bool → Int → Int → Option ρ) : x9 a b c d f e g k = afl a b c d f e g k := by unfold x9; rw [eu]

def ahl {ρ : Type} (d e : List Int) (a b f c : Int) (g : Bool) (h j : Int) (l : List Int) (k : (List Int) → (List Int) → Int → Int → Int → Int → Bool → (List Int) → Int → Option ρ) : Option ρ := br (h == 1) (br (!g) (k d e a b f c g [] 21) (br (f == c) (br (!g) (k d e a b f c g [] 21) (br (c == a) (k d e a b f c g [] 13) (cu d e fun C q1 q2 n => br (n != 0) (br (n != 0) (br (n != 0) (br (n != 0) (k d e a b f c g [] n) (k d e a b f c g [0] 0)) (k d e a b (IntKind.u64.wrap (f + 1)) c g [IntKind.u64.wrap (IntKind.u64.wrap (f + 1) - 1)] 0)) (dx d e 0 0 fun y z q6 m => br (m == 0) (br (m != 0) (br (m != 0) (k y z a b f 0 g [] m) (k y z a b f 0 g [0] 0)) (k y z a b (IntKind.u64.wrap (f + 1)) 0 g [IntKind.u64.wrap (IntKind.u64.wrap (f + 1) - 1)] 0)) (br (m != 0) (br (m != 0) (k d e a b f c g [] m) (k d e a b f c g [0] 0)) (k d e a b (IntKind.u64.wrap (f + 1)) c g [IntKind.u64.wrap (IntKind.u64.wrap (f + 1) - 1)] 0)))) (br (decide (C ≥ 1152921504606846976)) (k d e a b f c g [] 8) (dx d e (IntKind.u64.wrap (C + 1)) (IntKind.u64.wrap (c + bif decide (IntKind.u64.wrap (a - c) < b) then IntKind.u64.wrap (a - c) else b)) fun A B ad i => br (i == 0) (br (i != 0) (br (i != 0) (k A B a b f (IntKind.u64.wrap (c + bif decide (IntKind.u64.wrap (a - c) < b) then IntKind.u64.wrap (a - c) else b)) g [] i) (k A B a b f (IntKind.u64.wrap (c + bif decide (IntKind.u64.wrap (a - c) < b) then IntKind.u64.wrap (a - c) else b)) g [0] 0)) (k A B a b (IntKind.u64.wrap (f + 1)) (IntKind.u64.wrap (c + bif decide (IntKind.u64.wrap (a - c) < b) then IntKind.u64.wrap (a - c) else b)) g [IntKind.u64.wrap (IntKind.u64.wrap (f + 1) - 1)] 0)) (br (i != 0) (br (i != 0) (k d e a b f c g [] i) (k d e a b f c g [0] 0)) (k d e a b (IntKind.u64.wrap (f + 1)) c g [IntKind.u64.wrap (IntKind.u64.wrap (f + 1) - 1)] 0))))))) (k d e a b (IntKind.u64.wrap (f + 1)) c g [IntKind.u64.wrap (IntKind.u64.wrap (f + 1) - 1)] 0))) (br (h == 3) (br (!g) (k d e a b f c g [] 21) (br (c == a) (k d e a b f c g [] 13) (cu d e fun v ae af o => br (o != 0) (br (o != 0) (k d e a b f c g [] o) (iq d e 0 0 j l fun F G p => br (p == 0) (k F G a b 0 0 false [] p) (k d e a b f c g [] p))) (br (decide (v ≥ 1152921504606846976)) (k d e a b f c g [] 8) (iq d e (IntKind.u64.wrap (v + 1)) (IntKind.u64.wrap (c + bif decide (IntKind.u64.wrap (a - c) < b) then IntKind.u64.wrap (a - c) else b)) j l fun H I q => br (q == 0) (k H I a b 0 0 false [] q) (k d e a b f c g [] q)))))) (br (h == 4) (k d e a b 0 0 false [] 0) (br (h == 2) (br (!g) (k d e a b f c g [] 21) (br (c == a) (k d e a b f c g [] 13) (cu d e fun w ag ah r => br (r != 0) (br (r != 0) (k d e a b f c g [] r) (dx d e 0 0 fun J M ai s => br (s == 0) (k J M a b f 0 g [] s) (k d e a b f c g [] s))) (br (decide (w ≥ 1152921504606846976)) (k d e a b f c g [] 8) (dx d e (IntKind.u64.wrap (w + 1)) (IntKind.u64.wrap (c + bif decide (IntKind.u64.wrap (a - c) < b) then IntKind.u64.wrap (a - c) else b)) fun N O aj t => br (t == 0) (k N O a b f (IntKind.u64.wrap (c + bif decide (IntKind.u64.wrap (a - c) < b) then IntKind.u64.wrap (a - c) else b)) g [] t) (k d e a b f c g [] t)))))) (br (h == 5) (br g (k d e a b f c g [] 0) (iy d e a b fun Q U W Z aa ab ac u => br (u == 0) (k Q U W Z aa ab ac [] u) (k d e a b f c g [] u))) (k d e a b f c g [] 1)))))
def aco {ρ : Type} := shut (ahl (ρ := ρ))
theorem ao6 {ρ : Type} (a : List Int) (b : List Int) (c : Int) (d : Int) (f : Int) (e : Int) (j : Bool) (g : Int) (h : Int) (i : List Int) (k : (List Int) → (List Int) → Int → Int → Int → Int → Bool → (List Int) → Int → Option ρ) : aco a b c d f e j g h i k = ahl a b c d f e j g h i k := by unfold aco; rw [eu]

abbrev bpg (ρ : Type) := Nat → (List Int) → (List Int) → (List (List Int)) → Int → Int → (List Int) → (List Int) → (List Int) → Int → Int → Int → Int → Bool → Int → Int → Int → Int → Bool → Option ρ
def agi {ρ : Type} (b : Nat) (c d : List Int) (e : List (List Int)) (f a : Int) (s g h : List Int) (i j k l : Int) (m : Bool) (n o p q : Int) (r : Bool) (nx u : bpg ρ) : Option ρ := br (decide (a < f)) (br (decide (0 ≤ a)) (br (decide (a < (↑b : Int))) (aco g h i j k l m (c.getD a.toNat 0) (d.getD a.toNat 0) (e.getD a.toNat []) fun v w y z A B C t F => br (decide ((s.length + t.length) * 8 ≤ 140737488355328)) (nx b c d e f (IntKind.i64.wrap (a + 1)) (s ++ t) v w y z A B C n o p q r) none) none) none) (u b c d e f a s g h i j k l m n o p q r)
abbrev bkx := Nat × (List Int) × (List Int) × (List (List Int)) × Int × Int × (List Int) × (List Int) × (List Int) × Int × Int × Int × Int × Bool × Int × Int × Int × Int × Bool
abbrev bp0 := bkx
def bp7 {ρ : Type} (f : bkx → Option ρ) : bpg ρ := fun a b c d r s t e g h i j k l m n o p q => f (a, b, c, d, r, s, t, e, g, h, i, j, k, l, m, n, o, p, q)
def bkg {ρ : Type} : ah7 bkx bp0 ρ := fun (a, b, c, d, q, r, s, e, f, g, h, i, j, k, l, m, n, o, p) next ex => agi a b c d q r s e f g h i j k l m n o p (bp7 next) (bp7 ex)
def bp6 {ρ : Type} := shut (lp (bkg (ρ := ρ)))
theorem bqx {ρ : Type} : bp6 (ρ := ρ) = lp bkg := eu _
def bl0 {ρ : Type} (f : ahz bkx bp0 ρ) (a : Nat) (b c : List Int) (d : List (List Int)) (r s : Int) (t e g : List Int) (h i j k : Int) (l : Bool) (m n o p : Int) (q : Bool) (u : bpg ρ) : Option ρ := f (a, b, c, d, r, s, t, e, g, h, i, j, k, l, m, n, o, p, q) (fun (a, b, c, d, r, s, t, e, g, h, i, j, k, l, m, n, o, p, q) => u a b c d r s t e g h i j k l m n o p q)
def akx {ρ : Type} := bl0 (lp (bkg (ρ := ρ)))
def ak1 {ρ : Type} := bl0 (bp6 (ρ := ρ))
theorem anq {ρ : Type} : ak1 (ρ := ρ) = akx := congrArg bl0 bqx
def afv {ρ : Type} (a b : List Int) (c d f e : Int) (g : Bool) (h : Nat) (i j : List Int) (l : List (List Int)) (k : (List Int) → (List Int) → Int → Int → Int → Int → Bool → (List Int) → Option ρ) : Option ρ := ak1 h i j l (↑h : Int) 0 [] a b c d f e g 0 0 0 0 false fun A B C F G H q r s t m n o p u v w y z => k r s t m n o p q
def qd {ρ : Type} := shut (afv (ρ := ρ))
theorem ala {ρ : Type} (a : List Int) (b : List Int) (c : Int) (d : Int) (f : Int) (e : Int) (g : Bool) (h : Nat) (i : List Int) (j : List Int) (l : List (List Int)) (k : (List Int) → (List Int) → Int → Int → Int → Int → Bool → (List Int) → Option ρ) : qd a b c d f e g h i j l k = afv a b c d f e g h i j l k := by unfold qd; rw [eu]

def agu {ρ : Type} (k : Bool → Option ρ) : Option ρ := aay (5 : Int) (2 : Int) fun h i j l m n o p => qd h i j l m n o 6 [(1 : Int), (1 : Int), (1 : Int), (4 : Int), (5 : Int), (1 : Int)] [(0 : Int), (0 : Int), (0 : Int), (0 : Int), (0 : Int), (0 : Int)] [[], [], [], [], [], []] fun q r b c d e f a => x9 q r b c d e f fun s t u v w y z A g => br (p == (0 : Int)) (br ((↑a.length : Int) == (4 : Int)) (br (decide ((0 : Int) < (↑a.length : Int))) (br (a.getD 0 (0 : Int) == (0 : Int)) (br (decide ((1 : Int) < (↑a.length : Int))) (br (a.getD 1 (0 : Int) == (1 : Int)) (br (decide ((2 : Int) < (↑a.length : Int))) (br (a.getD 2 (0 : Int) == (2 : Int)) (br (decide ((3 : Int) < (↑a.length : Int))) (br (a.getD 3 (0 : Int) == (4 : Int)) (k (g == (13 : Int))) (k false)) none) (k false)) none) (k false)) none) (k false)) none) (k false)) (k false)
def uz {ρ : Type} := shut (agu (ρ := ρ))
theorem anb {ρ : Type}  (k : Bool → Option ρ) : uz  k = agu  k := by unfold uz; rw [eu]

abbrev bnv (ρ : Type) := (List Int) → (List Int) → Int → Option ρ
def ajf {ρ : Type} (b c : List Int) (a : Int) (nx d : bnv ρ) (e : Bool → Option ρ) : Option ρ := br (decide (a < (↑b.length : Int))) (br (decide (0 ≤ a)) (br (decide (a < (↑b.length : Int))) (br (decide (0 ≤ a)) (br (decide (a < (↑c.length : Int))) (br (b.getD a.toNat 0 != c.getD a.toNat 0) (e false) (nx b c (IntKind.i64.wrap (a + 1)))) none) none) none) none) (d b c a)
abbrev bl3 := (List Int) × (List Int) × Int
abbrev bns := ((List Int) × (List Int) × Int) ⊕ (Bool)
def bqi {ρ : Type} (f : bl3 → Option ρ) : bnv ρ := fun a b c => f (a, b, c)
def bli {ρ : Type} : ah7 bl3 bns ρ := fun (a, b, c) next ex => ajf a b c (bqi next) (fun a b c => ex (.inl (a, b, c))) (fun d => ex (.inr d))
def bn2 {ρ : Type} := shut (lp (bli (ρ := ρ)))
theorem bqs {ρ : Type} : bn2 (ρ := ρ) = lp bli := eu _
def bl7 {ρ : Type} (f : ahz bl3 bns ρ) (a b : List Int) (c : Int) (d : bnv ρ) (e : Bool → Option ρ) : Option ρ := f (a, b, c) (Sum.elim (fun (a, b, c) => d a b c) (fun x => e x))
def ao4 {ρ : Type} := bl7 (lp (bli (ρ := ρ)))
def aor {ρ : Type} := bl7 (bn2 (ρ := ρ))
theorem aqs {ρ : Type} : aor (ρ := ρ) = ao4 := congrArg bl7 bqs
def ahx {ρ : Type} (a b : List Int) (k : Bool → Option ρ) : Option ρ := br ((↑a.length : Int) != (↑b.length : Int)) (k false) (aor a b 0 (fun d e f => k true) fun c => k c)
def vw {ρ : Type} := shut (ahx (ρ := ρ))
theorem ao0 {ρ : Type} (a : List Int) (b : List Int) (k : Bool → Option ρ) : vw a b k = ahx a b k := by unfold vw; rw [eu]

def ah8 {ρ : Type} (a b c d : List Int) (k : Bool → Option ρ) : Option ρ := vw a c fun e => br e (vw b d fun f => k f) (k false)
def ab7 {ρ : Type} := shut (ah8 (ρ := ρ))
theorem an8 {ρ : Type} (a : List Int) (b : List Int) (c : List Int) (d : List Int) (k : Bool → Option ρ) : ab7 a b c d k = ah8 a b c d k := by unfold ab7; rw [eu]

def ahu {ρ : Type} (a b : List Int) (e g l h : Int) (n : Bool) (c d : List Int) (f i m j : Int) (o : Bool) (k : Bool → Option ρ) : Option ρ := ab7 a b c d fun p => br p (br (e == f) (br (g == i) (br (l == m) (br (h == j) (k (n == o)) (k false)) (k false)) (k false)) (k false)) (k false)
def ab8 {ρ : Type} := shut (ahu (ρ := ρ))
theorem ap6 {ρ : Type} (a : List Int) (b : List Int) (e : Int) (g : Int) (l : Int) (h : Int) (n : Bool) (c : List Int) (d : List Int) (f : Int) (i : Int) (m : Int) (j : Int) (o : Bool) (k : Bool → Option ρ) : ab8 a b e g l h n c d f i m j o k = ahu a b e g l h n c d f i m j o k := by unfold ab8; rw [eu]

abbrev bqg (ρ : Type) := (List (List Int)) → Int → (List Int) → Option ρ
def ajw {ρ : Type} (b : List (List Int)) (a : Int) (c : List Int) (nx d : bqg ρ) : Option ρ := br (decide (a < (↑b.length : Int))) (br (decide (0 ≤ a)) (br (decide (a < (↑b.length : Int))) (br (decide ((c.length + (b.getD a.toNat []).length) * 1 ≤ 140737488355328)) (nx b (IntKind.i64.wrap (a + 1)) (c ++ b.getD a.toNat [])) none) none) none) (d b a c)
abbrev bjt := (List (List Int)) × Int × (List Int)
abbrev bpm := bjt
def bmz {ρ : Type} (f : bjt → Option ρ) : bqg ρ := fun a b c => f (a, b, c)
def bk9 {ρ : Type} : ah7 bjt bpm ρ := fun (a, b, c) next ex => ajw a b c (bmz next) (bmz ex)
def bm1 {ρ : Type} := shut (lp (bk9 (ρ := ρ)))
theorem bqw {ρ : Type} : bm1 (ρ := ρ) = lp bk9 := eu _
def bl8 {ρ : Type} (f : ahz bjt bpm ρ) (a : List (List Int)) (b : Int) (c : List Int) (d : bqg ρ) : Option ρ := f (a, b, c) (fun (a, b, c) => d a b c)
def aqk {ρ : Type} := bl8 (lp (bk9 (ρ := ρ)))
def ap7 {ρ : Type} := bl8 (bm1 (ρ := ρ))
theorem aqt {ρ : Type} : ap7 (ρ := ρ) = aqk := congrArg bl8 bqw
def aij {ρ : Type} (a : List (List Int)) (k : (List Int) → Option ρ) : Option ρ := ap7 a 0 [] fun c d b => k b
def y8 {ρ : Type} := shut (aij (ρ := ρ))
theorem aos {ρ : Type} (a : List (List Int)) (k : (List Int) → Option ρ) : y8 a k = aij a k := by unfold y8; rw [eu]

abbrev bna (ρ : Type) := Int → Int → (List Int) → Option ρ
def apj {ρ : Type} (b a : Int) (c : List Int) (nx d : bna ρ) : Option ρ := br (decide (a ≥ 0)) (br (decide (0 ≤ a)) (br (decide (a < (↑c.length : Int))) (nx (b.fdiv (2 ^ 8)) (IntKind.i64.wrap (a - 1)) (c.set a.toNat (IntKind.u8.wrap (bits BinOp.and IntKind.u64 b 255)))) none) none) (d b a c)
abbrev bk7 := Int × Int × (List Int)
abbrev bp1 := bk7
def bmw {ρ : Type} (f : bk7 → Option ρ) : bna ρ := fun a b c => f (a, b, c)
def bkm {ρ : Type} : ah7 bk7 bp1 ρ := fun (a, b, c) next ex => apj a b c (bmw next) (bmw ex)
def bo0 {ρ : Type} := shut (lp (bkm (ρ := ρ)))
theorem bq4 {ρ : Type} : bo0 (ρ := ρ) = lp bkm := eu _
def blw {ρ : Type} (f : ahz bk7 bp1 ρ) (a b : Int) (c : List Int) (d : bna ρ) : Option ρ := f (a, b, c) (fun (a, b, c) => d a b c)
def av5 {ρ : Type} := blw (lp (bkm (ρ := ρ)))
def av6 {ρ : Type} := blw (bo0 (ρ := ρ))
theorem awg {ρ : Type} : av6 (ρ := ρ) = av5 := congrArg blw bq4
def amd {ρ : Type} (b a : Int) (k : (List Int) → Option ρ) : Option ρ := br (decide (a < 0)) (k []) (br (decide (a > 65536)) (k []) (br (decide (0 ≤ a)) (br (decide (a ≤ a)) (br (decide (a * (↑1 : Int) ≤ (↑140737488355328 : Int))) (av6 b (IntKind.i64.wrap (a - 1)) (List.replicate a.toNat (0 : Int)) fun d e c => k c) none) none) none))
def aa6 {ρ : Type} := shut (amd (ρ := ρ))
theorem aut {ρ : Type} (a : Int) (b : Int) (k : (List Int) → Option ρ) : aa6 a b k = amd a b k := by unfold aa6; rw [eu]

def aj1 {ρ : Type} (a : Int) (k : Int → (List Int) → (List Int) → Int → Int → Option ρ) : Option ρ := br (a == 1) (k a [1779033703, 3144134277, 1013904242, 2773480762, 1359893119, 2600822924, 528734635, 1541459225] [] 0 0) (br (a == 2) (k a [14680500436340154072, 7105036623409894663, 10473403895298186519, 1526699215303891257, 7436329637833083697, 10282925794625328401, 15784041429090275239, 5167115440072839076] [] 0 0) (br (a == 3) (k a [7640891576956012808, 13503953896175478587, 4354685564936845355, 11912009170470909681, 5840696475078001361, 11170449401992604703, 2270897969802886507, 6620516959819538809] [] 0 0) (k 0 [0, 0, 0, 0, 0, 0, 0, 0] [] 0 9)))
def ae3 {ρ : Type} := shut (aj1 (ρ := ρ))
theorem arz {ρ : Type} (a : Int) (k : Int → (List Int) → (List Int) → Int → Int → Option ρ) : ae3 a k = aj1 a k := by unfold ae3; rw [eu]

def agb {ρ : Type} (a : Int) (k : Int → Option ρ) : Option ρ := br (a == 1) (k 64) (k 128)
def tu {ρ : Type} := shut (agb (ρ := ρ))
theorem ang {ρ : Type} (a : Int) (k : Int → Option ρ) : tu a k = agb a k := by unfold tu; rw [eu]

def agx {ρ : Type} (k : (List Int) → Option ρ) : Option ρ := k [1116352408, 1899447441, 3049323471, 3921009573, 961987163, 1508970993, 2453635748, 2870763221, 3624381080, 310598401, 607225278, 1426881987, 1925078388, 2162078206, 2614888103, 3248222580, 3835390401, 4022224774, 264347078, 604807628, 770255983, 1249150122, 1555081692, 1996064986, 2554220882, 2821834349, 2952996808, 3210313671, 3336571891, 3584528711, 113926993, 338241895, 666307205, 773529912, 1294757372, 1396182291, 1695183700, 1986661051, 2177026350, 2456956037, 2730485921, 2820302411, 3259730800, 3345764771, 3516065817, 3600352804, 4094571909, 275423344, 430227734, 506948616, 659060556, 883997877, 958139571, 1322822218, 1537002063, 1747873779, 1955562222, 2024104815, 2227730452, 2361852424, 2428436474, 2756734187, 3204031479, 3329325298]
def sw {ρ : Type} := shut (agx (ρ := ρ))
theorem aep {ρ : Type}  (k : (List Int) → Option ρ) : sw  k = agx  k := by unfold sw; rw [eu]

def agy {ρ : Type} (k : (List Int) → Option ρ) : Option ρ := k [4794697086780616226, 8158064640168781261, 13096744586834688815, 16840607885511220156, 4131703408338449720, 6480981068601479193, 10538285296894168987, 12329834152419229976, 15566598209576043074, 1334009975649890238, 2608012711638119052, 6128411473006802146, 8268148722764581231, 9286055187155687089, 11230858885718282805, 13951009754708518548, 16472876342353939154, 17275323862435702243, 1135362057144423861, 2597628984639134821, 3308224258029322869, 5365058923640841347, 6679025012923562964, 8573033837759648693, 10970295158949994411, 12119686244451234320, 12683024718118986047, 13788192230050041572, 14330467153632333762, 15395433587784984357, 489312712824947311, 1452737877330783856, 2861767655752347644, 3322285676063803686, 5560940570517711597, 5996557281743188959, 7280758554555802590, 8532644243296465576, 9350256976987008742, 10552545826968843579, 11727347734174303076, 12113106623233404929, 14000437183269869457, 14369950271660146224, 15101387698204529176, 15463397548674623760, 17586052441742319658, 1182934255886127544, 1847814050463011016, 2177327727835720531, 2830643537854262169, 3796741975233480872, 4115178125766777443, 5681478168544905931, 6601373596472566643, 7507060721942968483, 8399075790359081724, 8693463985226723168, 9568029438360202098, 10144078919501101548, 10430055236837252648, 11840083180663258601, 13761210420658862357, 14299343276471374635, 14566680578165727644, 15097957966210449927, 16922976911328602910, 17689382322260857208, 500013540394364858, 748580250866718886, 1242879168328830382, 1977374033974150939, 2944078676154940804, 3659926193048069267, 4368137639120453308, 4836135668995329356, 5532061633213252278, 6448918945643986474, 6902733635092675308, 7801388544844847127]
def su {ρ : Type} := shut (agy (ρ := ρ))
theorem ael {ρ : Type}  (k : (List Int) → Option ρ) : su  k = agy  k := by unfold su; rw [eu]

abbrev bm3 (ρ : Type) := (List Int) → Int → Int → Option ρ
def al6 {ρ : Type} (b : List Int) (c a : Int) (nx d : bm3 ρ) : Option ρ := br (decide (a < (↑b.length : Int))) (br (decide (0 ≤ a)) (br (decide (a < (↑b.length : Int))) (nx b (IntKind.u64.wrap (IntKind.u64.wrap (c * 256) + IntKind.u64.wrap (b.getD a.toNat 0))) (IntKind.i64.wrap (a + 1))) none) none) (d b c a)
abbrev bjm := (List Int) × Int × Int
abbrev bmt := bjm
def bmq {ρ : Type} (f : bjm → Option ρ) : bm3 ρ := fun a b c => f (a, b, c)
def bjn {ρ : Type} : ah7 bjm bmt ρ := fun (a, b, c) next ex => al6 a b c (bmq next) (bmq ex)
def boz {ρ : Type} := shut (lp (bjn (ρ := ρ)))
theorem bq2 {ρ : Type} : boz (ρ := ρ) = lp bjn := eu _
def bl2 {ρ : Type} (f : ahz bjm bmt ρ) (a : List Int) (b c : Int) (d : bm3 ρ) : Option ρ := f (a, b, c) (fun (a, b, c) => d a b c)
def aru {ρ : Type} := bl2 (lp (bjn (ρ := ρ)))
def aq7 {ρ : Type} := bl2 (boz (ρ := ρ))
theorem atf {ρ : Type} : aq7 (ρ := ρ) = aru := congrArg bl2 bq2
def ajh {ρ : Type} (a : List Int) (k : Int → Option ρ) : Option ρ := aq7 a 0 0 fun c b d => k b
def zq {ρ : Type} := shut (ajh (ρ := ρ))
theorem ar9 {ρ : Type} (a : List Int) (k : Int → Option ρ) : zq a k = ajh a k := by unfold zq; rw [eu]

def acj {ρ : Type} (b a : Int) (c : Bool) (k : Int → Option ρ) : Option ρ := br c (br (decide (a < 0)) none (br (decide (IntKind.i64.wrap (64 - a) < 0)) none (k (bits BinOp.or IntKind.u64 (b.fdiv (2 ^ min a.toNat 64)) (IntKind.u64.wrap (b * 2 ^ min (IntKind.i64.wrap (64 - a)).toNat 64)))))) (br (decide (a < 0)) none (br (decide (IntKind.i64.wrap (32 - a) < 0)) none (k (bits BinOp.or IntKind.u64 (b.fdiv (2 ^ min a.toNat 64)) (bits BinOp.and IntKind.u64 (IntKind.u64.wrap (b * 2 ^ min (IntKind.i64.wrap (32 - a)).toNat 64)) 4294967295)))))
def uy {ρ : Type} := shut (acj (ρ := ρ))
theorem afg {ρ : Type} (a : Int) (b : Int) (c : Bool) (k : Int → Option ρ) : uy a b c k = acj a b c k := by unfold uy; rw [eu]

def aau {ρ : Type} (a d e c : Int) (f b : Bool) (k : Int → Option ρ) : Option ρ := br (decide (c < 0)) none (br (!f) (uy a c b fun g => uy a d b fun h => uy a e b fun i => k (bits BinOp.xor IntKind.u64 (bits BinOp.xor IntKind.u64 h i) g)) (uy a d b fun j => uy a e b fun l => k (bits BinOp.xor IntKind.u64 (bits BinOp.xor IntKind.u64 j l) (a.fdiv (2 ^ min c.toNat 64)))))
def um {ρ : Type} := shut (aau (ρ := ρ))
theorem ac4 {ρ : Type} (a : Int) (b : Int) (c : Int) (d : Int) (e : Bool) (f : Bool) (k : Int → Option ρ) : um a b c d e f k = aau a b c d e f k := by unfold um; rw [eu]

abbrev boq (ρ : Type) := (List Int) → Bool → Int → Int → Int → Int → (List Int) → Option ρ
def adr {ρ : Type} (d : List Int) (f : Bool) (g e c a : Int) (b : List Int) (nx h : boq ρ) : Option ρ := br (decide (a < g)) (br (decide (a < 16)) (br (decide (0 ≤ IntKind.i64.wrap (a * c))) (br (decide (IntKind.i64.wrap (a * c) ≤ IntKind.i64.wrap (IntKind.i64.wrap (a * c) + c))) (br (decide (IntKind.i64.wrap (IntKind.i64.wrap (a * c) + c) ≤ (↑d.length : Int))) (zq (List.drop (IntKind.i64.wrap (a * c)).toNat (List.take (IntKind.i64.wrap (IntKind.i64.wrap (a * c) + c)).toNat d)) fun i => br (decide ((b.length + 1) * 8 ≤ 140737488355328)) (nx d f g e c (IntKind.i64.wrap (a + 1)) (b ++ [i])) none) none) none) none) (br (decide (0 ≤ IntKind.i64.wrap (a - 15))) (br (decide (IntKind.i64.wrap (a - 15) < (↑b.length : Int))) (um (b.getD (IntKind.i64.wrap (a - 15)).toNat 0) 7 18 3 true false fun j => br (decide (0 ≤ IntKind.i64.wrap (a - 2))) (br (decide (IntKind.i64.wrap (a - 2) < (↑b.length : Int))) (um (b.getD (IntKind.i64.wrap (a - 2)).toNat 0) 17 19 10 true false fun k => br f (br (decide (0 ≤ IntKind.i64.wrap (a - 15))) (br (decide (IntKind.i64.wrap (a - 15) < (↑b.length : Int))) (um (b.getD (IntKind.i64.wrap (a - 15)).toNat 0) 1 8 7 true true fun l => br (decide (0 ≤ IntKind.i64.wrap (a - 2))) (br (decide (IntKind.i64.wrap (a - 2) < (↑b.length : Int))) (um (b.getD (IntKind.i64.wrap (a - 2)).toNat 0) 19 61 6 true true fun m => br (decide (0 ≤ IntKind.i64.wrap (a - 7))) (br (decide (IntKind.i64.wrap (a - 7) < (↑b.length : Int))) (br (decide (0 ≤ IntKind.i64.wrap (a - 16))) (br (decide (IntKind.i64.wrap (a - 16) < (↑b.length : Int))) (br (decide ((b.length + 1) * 8 ≤ 140737488355328)) (nx d f g e c (IntKind.i64.wrap (a + 1)) (b ++ [bits BinOp.and IntKind.u64 (IntKind.u64.wrap (IntKind.u64.wrap (IntKind.u64.wrap (m + b.getD (IntKind.i64.wrap (a - 7)).toNat 0) + l) + b.getD (IntKind.i64.wrap (a - 16)).toNat 0)) e])) none) none) none) none) none) none) none) none) none) (br (decide (0 ≤ IntKind.i64.wrap (a - 7))) (br (decide (IntKind.i64.wrap (a - 7) < (↑b.length : Int))) (br (decide (0 ≤ IntKind.i64.wrap (a - 16))) (br (decide (IntKind.i64.wrap (a - 16) < (↑b.length : Int))) (br (decide ((b.length + 1) * 8 ≤ 140737488355328)) (nx d f g e c (IntKind.i64.wrap (a + 1)) (b ++ [bits BinOp.and IntKind.u64 (IntKind.u64.wrap (IntKind.u64.wrap (IntKind.u64.wrap (k + b.getD (IntKind.i64.wrap (a - 7)).toNat 0) + j) + b.getD (IntKind.i64.wrap (a - 16)).toNat 0)) e])) none) none) none) none) none)) none) none) none) none)) (h d f g e c a b)
abbrev bkn := (List Int) × Bool × Int × Int × Int × Int × (List Int)
abbrev bpn := bkn
def bl9 {ρ : Type} (f : bkn → Option ρ) : boq ρ := fun b c d e g a h => f (b, c, d, e, g, a, h)
def bip {ρ : Type} : ah7 bkn bpn ρ := fun (b, c, d, e, f, a, g) next ex => adr b c d e f a g (bl9 next) (bl9 ex)
def bom {ρ : Type} := shut (lp (bip (ρ := ρ)))
theorem bqk {ρ : Type} : bom (ρ := ρ) = lp bip := eu _
def blc {ρ : Type} (f : ahz bkn bpn ρ) (b : List Int) (c : Bool) (d e g a : Int) (h : List Int) (i : boq ρ) : Option ρ := f (b, c, d, e, g, a, h) (fun (b, c, d, e, g, a, h) => i b c d e g a h)
def ahs {ρ : Type} := blc (lp (bip (ρ := ρ)))
def aht {ρ : Type} := blc (bom (ρ := ρ))
theorem ahk {ρ : Type} : aht (ρ := ρ) = ahs := congrArg blc bqk
def ad4 {ρ : Type} (b : List Int) (a : Bool) (c d : Int) (k : (List Int) → Option ρ) : Option ρ := br a (aht b a c d 8 0 [] fun j l m n o p f => k f) (aht b a c d 4 0 [] fun q r s g h i e => k e)
def aa2 {ρ : Type} := shut (ad4 (ρ := ρ))
theorem aib {ρ : Type} (a : List Int) (b : Bool) (c : Int) (d : Int) (k : (List Int) → Option ρ) : aa2 a b c d k = ad4 a b c d k := by unfold aa2; rw [eu]

abbrev bo7 (ρ : Type) := Bool → Int → Int → Int → (List Int) → (List Int) → (List Int) → (List Int) → (List Int) → (List Int) → Option ρ
def ab0 {ρ : Type} (i : Bool) (j c b : Int) (g h d e f a : List Int) (nx m : bo7 ρ) : Option ρ := br (decide (b < j)) (um (a.getD 0 0) 2 13 22 false false fun n => um (a.getD 4 0) 6 11 25 false false fun k => br i (um (a.getD 0 0) 28 34 39 false true fun o => um (a.getD 4 0) 14 18 41 false true fun l => br (decide (0 ≤ b)) (br (decide (b < (↑80 : Int))) (br (decide (0 ≤ b)) (br (decide (b < (↑f.length : Int))) (nx i j c (IntKind.i64.wrap (b + 1)) g h d e f [bits BinOp.and IntKind.u64 (IntKind.u64.wrap (IntKind.u64.wrap (IntKind.u64.wrap (IntKind.u64.wrap (IntKind.u64.wrap (a.getD 7 0 + l) + bits BinOp.xor IntKind.u64 (bits BinOp.and IntKind.u64 (a.getD 4 0) (a.getD 5 0)) (bits BinOp.and IntKind.u64 (bits BinOp.xor IntKind.u64 c (a.getD 4 0)) (a.getD 6 0))) + e.getD b.toNat 0) + f.getD b.toNat 0) + IntKind.u64.wrap (o + bits BinOp.xor IntKind.u64 (bits BinOp.xor IntKind.u64 (bits BinOp.and IntKind.u64 (a.getD 0 0) (a.getD 1 0)) (bits BinOp.and IntKind.u64 (a.getD 0 0) (a.getD 2 0))) (bits BinOp.and IntKind.u64 (a.getD 1 0) (a.getD 2 0))))) c, a.getD 0 0, a.getD 1 0, a.getD 2 0, bits BinOp.and IntKind.u64 (IntKind.u64.wrap (a.getD 3 0 + IntKind.u64.wrap (IntKind.u64.wrap (IntKind.u64.wrap (IntKind.u64.wrap (a.getD 7 0 + l) + bits BinOp.xor IntKind.u64 (bits BinOp.and IntKind.u64 (a.getD 4 0) (a.getD 5 0)) (bits BinOp.and IntKind.u64 (bits BinOp.xor IntKind.u64 c (a.getD 4 0)) (a.getD 6 0))) + e.getD b.toNat 0) + f.getD b.toNat 0))) c, a.getD 4 0, a.getD 5 0, a.getD 6 0]) none) none) none) none) (br (decide (0 ≤ b)) (br (decide (b < (↑64 : Int))) (br (decide (0 ≤ b)) (br (decide (b < (↑f.length : Int))) (nx i j c (IntKind.i64.wrap (b + 1)) g h d e f [bits BinOp.and IntKind.u64 (IntKind.u64.wrap (IntKind.u64.wrap (IntKind.u64.wrap (IntKind.u64.wrap (IntKind.u64.wrap (a.getD 7 0 + k) + bits BinOp.xor IntKind.u64 (bits BinOp.and IntKind.u64 (a.getD 4 0) (a.getD 5 0)) (bits BinOp.and IntKind.u64 (bits BinOp.xor IntKind.u64 c (a.getD 4 0)) (a.getD 6 0))) + d.getD b.toNat 0) + f.getD b.toNat 0) + IntKind.u64.wrap (n + bits BinOp.xor IntKind.u64 (bits BinOp.xor IntKind.u64 (bits BinOp.and IntKind.u64 (a.getD 0 0) (a.getD 1 0)) (bits BinOp.and IntKind.u64 (a.getD 0 0) (a.getD 2 0))) (bits BinOp.and IntKind.u64 (a.getD 1 0) (a.getD 2 0))))) c, a.getD 0 0, a.getD 1 0, a.getD 2 0, bits BinOp.and IntKind.u64 (IntKind.u64.wrap (a.getD 3 0 + IntKind.u64.wrap (IntKind.u64.wrap (IntKind.u64.wrap (IntKind.u64.wrap (a.getD 7 0 + k) + bits BinOp.xor IntKind.u64 (bits BinOp.and IntKind.u64 (a.getD 4 0) (a.getD 5 0)) (bits BinOp.and IntKind.u64 (bits BinOp.xor IntKind.u64 c (a.getD 4 0)) (a.getD 6 0))) + d.getD b.toNat 0) + f.getD b.toNat 0))) c, a.getD 4 0, a.getD 5 0, a.getD 6 0]) none) none) none) none)) (m i j c b g h d e f a)
abbrev bkk := Bool × Int × Int × Int × (List Int) × (List Int) × (List Int) × (List Int) × (List Int) × (List Int)
abbrev bou := bkk
def blz {ρ : Type} (f : bkk → Option ρ) : bo7 ρ := fun h i j g a b c d k e => f (h, i, j, g, a, b, c, d, k, e)
def bim {ρ : Type} : ah7 bkk bou ρ := fun (g, h, i, f, a, b, c, d, j, e) next ex => ab0 g h i f a b c d j e (blz next) (blz ex)
def bnx {ρ : Type} := shut (lp (bim (ρ := ρ)))
theorem bqp {ρ : Type} : bnx (ρ := ρ) = lp bim := eu _
def bjo {ρ : Type} (f : ahz bkk bou ρ) (h : Bool) (i j g : Int) (a b c d k e : List Int) (l : bo7 ρ) : Option ρ := f (h, i, j, g, a, b, c, d, k, e) (fun (h, i, j, g, a, b, c, d, k, e) => l h i j g a b c d k e)
def agl {ρ : Type} := bjo (lp (bim (ρ := ρ)))
def abx {ρ : Type} := bjo (bnx (ρ := ρ))
theorem ag0 {ρ : Type} : abx (ρ := ρ) = agl := congrArg bjo bqp
abbrev bnn (ρ : Type) := Int → Int → (List Int) → (List Int) → (List Int) → Option ρ
def ab2 {ρ : Type} (e a : Int) (b d c : List Int) (nx f : bnn ρ) : Option ρ := br (decide (a < 8)) (br (decide (0 ≤ a)) (br (decide (a < (↑8 : Int))) (br (decide (0 ≤ a)) (br (decide (a < (↑8 : Int))) (br (decide (0 ≤ a)) (br (decide (a < (↑8 : Int))) (nx e (IntKind.i64.wrap (a + 1)) b d (c.set a.toNat (bits BinOp.and IntKind.u64 (IntKind.u64.wrap (c.getD a.toNat 0 + b.getD a.toNat 0)) e))) none) none) none) none) none) none) (f e a b d c)
abbrev blf := Int × Int × (List Int) × (List Int) × (List Int)
abbrev bmr := blf
def bly {ρ : Type} (f : blf → Option ρ) : bnn ρ := fun e d a b c => f (e, d, a, b, c)
def biq {ρ : Type} : ah7 blf bmr ρ := fun (e, d, a, b, c) next ex => ab2 e d a b c (bly next) (bly ex)
def bo1 {ρ : Type} := shut (lp (biq (ρ := ρ)))
theorem bre {ρ : Type} : bo1 (ρ := ρ) = lp biq := eu _
def blh {ρ : Type} (f : ahz blf bmr ρ) (e d : Int) (a b c : List Int) (g : bnn ρ) : Option ρ := f (e, d, a, b, c) (fun (e, d, a, b, c) => g e d a b c)
def agk {ρ : Type} := blh (lp (biq (ρ := ρ)))
def ab6 {ρ : Type} := blh (bo1 (ρ := ρ))
theorem ag4 {ρ : Type} : ab6 (ρ := ρ) = agk := congrArg blh bre
def ad7 {ρ : Type} (b c : List Int) (a : Bool) (k : (List Int) → Option ρ) : Option ρ := sw fun d => su fun e => br a (aa2 c a 80 18446744073709551615 fun o => abx a 80 18446744073709551615 0 b [0, 0, 0, 0, 0, 0, 0, 0] d e o b fun N O p Q q r U s t f => ab6 p 0 q r f fun u v w y g => k g) (aa2 c a 64 4294967295 fun h => abx a 64 4294967295 0 b [0, 0, 0, 0, 0, 0, 0, 0] d e h b fun z A i B j l C F G m => ab6 i 0 j l m fun H I J M n => k n)
def abl {ρ : Type} := shut (ad7 (ρ := ρ))
theorem ah3 {ρ : Type} (a : List Int) (b : List Int) (c : Bool) (k : (List Int) → Option ρ) : abl a b c k = ad7 a b c k := by unfold abl; rw [eu]

abbrev bpj (ρ : Type) := Int → (List Int) → Int → (List Int) → (List Int) → Int → Int → (List Int) → Int → Option ρ
def af8 {ρ : Type} (a : Int) (b : List Int) (c : Int) (d e : List Int) (f g : Int) (h : List Int) (i : Int) (nx j : bpj ρ) : Option ρ := br (decide ((↑b.length : Int) ≥ a)) (br (decide (0 ≤ a)) (br (decide (a ≤ (↑b.length : Int))) (abl d (List.drop 0 (List.take a.toNat b)) (a == 128) fun k => br (decide (0 ≤ a)) (br (decide (a ≤ (↑b.length : Int))) (br (decide ((↑b.length : Int) ≤ (↑b.length : Int))) (nx a (List.drop a.toNat (List.take (↑b.length : Int).toNat b)) c k e f g h i) none) none) none) none) none) (j a b c d e f g h i)
abbrev bjc := Int × (List Int) × Int × (List Int) × (List Int) × Int × Int × (List Int) × Int
abbrev bnt := bjc
def bmd {ρ : Type} (f : bjc → Option ρ) : bpj ρ := fun i j a b c d e g h => f (i, j, a, b, c, d, e, g, h)
def bij {ρ : Type} : ah7 bjc bnt ρ := fun (h, i, a, b, c, d, e, f, g) next ex => af8 h i a b c d e f g (bmd next) (bmd ex)
def bpv {ρ : Type} := shut (lp (bij (ρ := ρ)))
theorem brd {ρ : Type} : bpv (ρ := ρ) = lp bij := eu _
def blo {ρ : Type} (f : ahz bjc bnt ρ) (i : Int) (j : List Int) (a : Int) (b c : List Int) (d e : Int) (g : List Int) (h : Int) (k : bpj ρ) : Option ρ := f (i, j, a, b, c, d, e, g, h) (fun (i, j, a, b, c, d, e, g, h) => k i j a b c d e g h)
def aly {ρ : Type} := blo (lp (bij (ρ := ρ)))
def aiy {ρ : Type} := blo (bpv (ρ := ρ))
theorem alm {ρ : Type} : aiy (ρ := ρ) = aly := congrArg blo brd
def aj8 {ρ : Type} (a : Int) (c b : List Int) (d : Int) (e : List Int) (k : Int → (List Int) → (List Int) → Int → Option ρ) : Option ρ := tu a fun f => y8 [b, e] fun g => aiy f g a c b (IntKind.u64.wrap (d + IntKind.u64.wrap (↑e.length : Int))) 0 [0, 0, 0, 0, 0, 0, 0, 0] 0 fun n h i j o l p q m => k i j h l
def aax {ρ : Type} := shut (aj8 (ρ := ρ))
theorem asa {ρ : Type} (b : Int) (a : List Int) (c : List Int) (d : Int) (e : List Int) (k : Int → (List Int) → (List Int) → Int → Option ρ) : aax b a c d e k = aj8 b a c d e k := by unfold aax; rw [eu]

abbrev bg3 (ρ : Type) := Int → Int → (List Int) → Int → (List Int) → (List Int) → Int → Option ρ
def amo {ρ : Type} (c g : Int) (b : List Int) (d : Int) (e a : List Int) (f : Int) (nx h : bg3 ρ) : Option ρ := br (decide (c = 0)) none (br ((IntKind.i64.wrap ((↑a.length : Int) + (↑b.length : Int))).tmod c != IntKind.i64.wrap (c - 8)) (br (decide ((b.length + 1) * 1 ≤ 140737488355328)) (nx c g (b ++ [0]) d e a f) none) (h c g b d e a f))
abbrev biv := Int × Int × (List Int) × Int × (List Int) × (List Int) × Int
abbrev bmy := biv
def bpy {ρ : Type} (f : biv → Option ρ) : bg3 ρ := fun g h e a b c d => f (g, h, e, a, b, c, d)
def bld {ρ : Type} : ah7 biv bmy ρ := fun (f, g, e, a, b, c, d) next ex => amo f g e a b c d (bpy next) (bpy ex)
def bon {ρ : Type} := shut (lp (bld (ρ := ρ)))
theorem bql {ρ : Type} : bon (ρ := ρ) = lp bld := eu _
def bls {ρ : Type} (f : ahz biv bmy ρ) (g h : Int) (e : List Int) (a : Int) (b c : List Int) (d : Int) (i : bg3 ρ) : Option ρ := f (g, h, e, a, b, c, d) (fun (g, h, e, a, b, c, d) => i g h e a b c d)
def ara {ρ : Type} := bls (lp (bld (ρ := ρ)))
def alr {ρ : Type} := bls (bon (ρ := ρ))
theorem atp {ρ : Type} : alr (ρ := ρ) = ara := congrArg bls bql
abbrev zc32 (ρ : Type) := Int → Int → (List Int) → Int → (List Int) → (List Int) → Int → Option ρ
def alv {ρ : Type} (c g : Int) (b : List Int) (d : Int) (e a : List Int) (f : Int) (nx h : bg3 ρ) : Option ρ := br (decide (c = 0)) none (br ((IntKind.i64.wrap ((↑a.length : Int) + (↑b.length : Int))).tmod c != IntKind.i64.wrap (c - 16)) (br (decide ((b.length + 1) * 1 ≤ 140737488355328)) (nx c g (b ++ [0]) d e a f) none) (h c g b d e a f))
abbrev bkl := Int × Int × (List Int) × Int × (List Int) × (List Int) × Int
abbrev bnb := bkl
def bn3 {ρ : Type} (f : bkl → Option ρ) : zc32 ρ := fun g h e a b c d => f (g, h, e, a, b, c, d)
def bk3 {ρ : Type} : ah7 bkl bnb ρ := fun (f, g, e, a, b, c, d) next ex => alv f g e a b c d (bn3 next) (bn3 ex)
def bnc {ρ : Type} := shut (lp (bk3 (ρ := ρ)))
theorem bqh {ρ : Type} : bnc (ρ := ρ) = lp bk3 := eu _
def bmf {ρ : Type} (f : ahz bkl bnb ρ) (g h : Int) (e : List Int) (a : Int) (b c : List Int) (d : Int) (i : bg3 ρ) : Option ρ := f (g, h, e, a, b, c, d) (fun (g, h, e, a, b, c, d) => i g h e a b c d)
def arw {ρ : Type} := bmf (lp (bk3 (ρ := ρ)))
def ame {ρ : Type} := bmf (bnc (ρ := ρ))
theorem atu {ρ : Type} : ame (ρ := ρ) = arw := congrArg bmf bqh
abbrev zc33 (ρ : Type) := Int → Int → (List Int) → Int → (List Int) → (List Int) → Int → Option ρ
def aj3 {ρ : Type} (g c : Int) (a : List Int) (d : Int) (b e : List Int) (f : Int) (nx i : bg3 ρ) : Option ρ := br (decide (c < 8)) (br (decide (0 ≤ c)) (br (decide (c < (↑8 : Int))) (aa6 (b.getD c.toNat 0) (IntKind.i64.wrap (g.tdiv 16)) fun h => br (decide ((a.length + h.length) * 1 ≤ 140737488355328)) (nx g (IntKind.i64.wrap (c + 1)) (a ++ h) d b e f) none) none) none) (i g c a d b e f)
abbrev bjh := Int × Int × (List Int) × Int × (List Int) × (List Int) × Int
abbrev bpz := bjh
def bnl {ρ : Type} (f : bjh → Option ρ) : zc33 ρ := fun g h a b c d e => f (g, h, a, b, c, d, e)
def bkh {ρ : Type} : ah7 bjh bpz ρ := fun (f, g, a, b, c, d, e) next ex => aj3 f g a b c d e (bnl next) (bnl ex)
def bpo {ρ : Type} := shut (lp (bkh (ρ := ρ)))
theorem bq7 {ρ : Type} : bpo (ρ := ρ) = lp bkh := eu _
def bmh {ρ : Type} (f : ahz bjh bpz ρ) (g h : Int) (a : List Int) (b : Int) (c d : List Int) (e : Int) (i : bg3 ρ) : Option ρ := f (g, h, a, b, c, d, e) (fun (g, h, a, b, c, d, e) => i g h a b c d e)
def ap1 {ρ : Type} := bmh (lp (bkh (ρ := ρ)))
def aga {ρ : Type} := bmh (bpo (ρ := ρ))
theorem aqy {ρ : Type} : aga (ρ := ρ) = ap1 := congrArg bmh bq7
def aje {ρ : Type} (a : Int) (c d : List Int) (b : Int) (k : (List Int) → Option ρ) : Option ρ := tu a fun J => alr J (IntKind.u64.wrap (b * 8)) [128] a c d b fun m n o p q r s => br (m == 128) (ame m n [128] p q r s fun M N e t u v i => aa6 (i.fdiv (2 ^ 61)) 8 fun f => br (decide ((e.length + f.length) * 1 ≤ 140737488355328)) (aa6 N 8 fun j => br (decide (((e ++ f).length + j.length) * 1 ≤ 140737488355328)) (aax t u v i (e ++ f ++ j) fun w y z A => aga M 0 [] w y z A fun O Q g B U W Z => br (B == 2) (br (decide (48 ≤ (↑g.length : Int))) (k (List.take ((48 : Int) - (0 : Int)).toNat g)) none) (k g)) none) none) (aa6 n 8 fun l => br (decide ((o.length + l.length) * 1 ≤ 140737488355328)) (aax p q r s (o ++ l) fun C F G H => aga m 0 [] C F G H fun aa ab h I ac ad ae => br (I == 2) (br (decide (48 ≤ (↑h.length : Int))) (k (List.take ((48 : Int) - (0 : Int)).toNat h)) none) (k h)) none)
def ae0 {ρ : Type} := shut (aje (ρ := ρ))
theorem arx {ρ : Type} (b : Int) (a : List Int) (c : List Int) (d : Int) (k : (List Int) → Option ρ) : ae0 b a c d k = aje b a c d k := by unfold ae0; rw [eu]

def aj7 {ρ : Type} (b : Int) (c : List Int) (k : (List Int) → Int → Option ρ) : Option ρ := ae3 b fun d e f g a => br (a != 0) (k [] a) (aax d e f g c fun h i j l => ae0 h i j l fun m => k m 0)
def aeg {ρ : Type} := shut (aj7 (ρ := ρ))
theorem ash {ρ : Type} (a : Int) (b : List Int) (k : (List Int) → Int → Option ρ) : aeg a b k = aj7 a b k := by unfold aeg; rw [eu]

def agj {ρ : Type} (a b : Int) (k : (List Int) → Option ρ) : Option ρ := aa6 a 8 fun e => aa6 b 8 fun f => y8 [e, f] fun c => aeg 1 c fun d g => br (decide ((c.length + d.length) * 1 ≤ 140737488355328)) (k (c ++ d)) none
def o9 {ρ : Type} := shut (agj (ρ := ρ))
theorem am1 {ρ : Type} (a : Int) (b : Int) (k : (List Int) → Option ρ) : o9 a b k = agj a b k := by unfold o9; rw [eu]

def aio {ρ : Type} (a : List Int) (k : Int → Int → Bool → Option ρ) : Option ρ := br ((↑a.length : Int) != 48) (k 0 0 false) (br (decide (8 ≤ (↑a.length : Int))) (zq (List.drop 0 (List.take (Int.toNat 8) a)) fun b => br (decide (16 ≤ (↑a.length : Int))) (zq (List.drop 8 (List.take (Int.toNat 16) a)) fun c => o9 b c fun d => vw d a fun e => br (!e) (k 0 0 false) (k b c true)) none) none)
def aac {ρ : Type} := shut (aio (ρ := ρ))
theorem ap8 {ρ : Type} (a : List Int) (k : Int → Int → Bool → Option ρ) : aac a k = aio a k := by unfold aac; rw [eu]

def ahf {ρ : Type} (a b : List Int) (k : Int → Int → Int → Int → Option ρ) : Option ρ := aac a fun c f h => aac b fun d g e => br h (br (!e) (k c f 0 0) (br (decide (c ≥ d)) (k c f 0 0) (br e (k d g 1 0) (k 0 0 0 21)))) (br e (k d g 1 0) (k 0 0 0 21))
def kr {ρ : Type} := shut (ahf (ρ := ρ))
theorem aoa {ρ : Type} (a : List Int) (b : List Int) (k : Int → Int → Int → Int → Option ρ) : kr a b k = ahf a b k := by unfold kr; rw [eu]

def qz {ρ : Type} (e f : List Int) (b c d a : Int) (g : Bool) (k : Bool → Option ρ) : Option ρ := br (decide (c < 1)) (k false) (br (decide (c > 4294967296)) (k false) (br (decide (b > 1152921504606846976)) (k false) (br (!g) (br (d == 0) (k (a == 0)) (k false)) (kr e f fun j h l i => br (i == 0) (br (h == a) (br (decide (d ≤ a)) (k (decide (a ≤ b))) (k false)) (k false)) (k false)))))
def agq {ρ : Type} := shut (qz (ρ := ρ))
theorem yc {ρ : Type} (a : List Int) (b : List Int) (c : Int) (d : Int) (f : Int) (e : Int) (g : Bool) (k : Bool → Option ρ) : agq a b c d f e g k = qz a b c d f e g k := by unfold agq; rw [eu]

abbrev bpc (ρ : Type) := (List Int) → (List Int) → Int → Option ρ
def ae4 {ρ : Type} (b c : List Int) (a : Int) (nx d : bpc ρ) (e : Bool → Option ρ) : Option ρ := br (decide (a < (↑b.length : Int))) (br (decide (0 ≤ a)) (br (decide (a < (↑b.length : Int))) (br (decide (0 ≤ a)) (br (decide (a < (↑c.length : Int))) (br (b.getD a.toNat 0 != c.getD a.toNat 0) (e false) (nx b c (IntKind.i64.wrap (a + 1)))) none) none) none) none) (d b c a)
abbrev blv := (List Int) × (List Int) × Int
abbrev bn6 := ((List Int) × (List Int) × Int) ⊕ (Bool)
def bqy {ρ : Type} (f : blv → Option ρ) : bpc ρ := fun a b c => f (a, b, c)
def bjz {ρ : Type} : ah7 blv bn6 ρ := fun (a, b, c) next ex => ae4 a b c (bqy next) (fun a b c => ex (.inl (a, b, c))) (fun d => ex (.inr d))
def bpq {ρ : Type} := shut (lp (bjz (ρ := ρ)))
theorem bqo {ρ : Type} : bpq (ρ := ρ) = lp bjz := eu _
def bmb {ρ : Type} (f : ahz blv bn6 ρ) (a b : List Int) (c : Int) (d : bpc ρ) (e : Bool → Option ρ) : Option ρ := f (a, b, c) (Sum.elim (fun (a, b, c) => d a b c) (fun x => e x))
def ah9 {ρ : Type} := bmb (lp (bjz (ρ := ρ)))
def aif {ρ : Type} := bmb (bpq (ρ := ρ))
theorem aky {ρ : Type} : aif (ρ := ρ) = ah9 := congrArg bmb bqo
def adw {ρ : Type} (a b : List Int) (k : Bool → Option ρ) : Option ρ := br ((↑a.length : Int) != (↑b.length : Int)) (k false) (aif a b 0 (fun d e f => k true) fun c => k c)
def qw {ρ : Type} := shut (adw (ρ := ρ))
theorem ail {ρ : Type} (a : List Int) (b : List Int) (k : Bool → Option ρ) : qw a b k = adw a b k := by unfold qw; rw [eu]

def aii {ρ : Type} (a b : List Int) (c d : Int) (k : (List Int) → (List Int) → Int → Int → Int → Int → Bool → Int → Option ρ) : Option ρ := br (decide (c > 1152921504606846976)) (k [] [] 0 0 0 0 false 8) (br (decide (d < 1)) (k [] [] 0 0 0 0 false 8) (br (decide (d > 4294967296)) (k [] [] 0 0 0 0 false 8) (kr a b fun g e h f => br (f != 0) (k [] [] 0 0 0 0 false f) (br (decide (e > c)) (k [] [] 0 0 0 0 false 8) (br (decide (g ≥ 1152921504606846976)) (k [] [] 0 0 0 0 false 8) (k a b c d e e true 0))))))
def aby {ρ : Type} := shut (aii (ρ := ρ))
theorem an9 {ρ : Type} (a : List Int) (b : List Int) (c : Int) (d : Int) (k : (List Int) → (List Int) → Int → Int → Int → Int → Bool → Int → Option ρ) : aby a b c d k = aii a b c d k := by unfold aby; rw [eu]

def ahp {ρ : Type} (d e : List Int) (a c g b : Int) (f : Bool) (k : Int → Int → Int → Option ρ) : Option ρ := br (!f) (k 0 0 21) (br (b == a) (k 0 0 13) (kr d e fun h j l i => br (i != 0) (k 0 0 i) (br (decide (h ≥ 1152921504606846976)) (k 0 0 8) (k (IntKind.u64.wrap (h + 1)) (bif decide (a < IntKind.u64.wrap (b + c)) then a else IntKind.u64.wrap (b + c)) 0))))
def y9 {ρ : Type} := shut (ahp (ρ := ρ))
theorem aod {ρ : Type} (a : List Int) (b : List Int) (c : Int) (d : Int) (f : Int) (e : Int) (g : Bool) (k : Int → Int → Int → Option ρ) : y9 a b c d f e g k = ahp a b c d f e g k := by unfold y9; rw [eu]

def aie {ρ : Type} (a b : List Int) (d : Int) (c : List Int) (k : (List Int) → (List Int) → Option ρ) : Option ρ := br (d == 0) (k c b) (k a c)
def xg {ρ : Type} := shut (aie (ρ := ρ))
theorem ap4 {ρ : Type} (a : List Int) (b : List Int) (c : Int) (d : List Int) (k : (List Int) → (List Int) → Option ρ) : xg a b c d k = aie a b c d k := by unfold xg; rw [eu]

def agp {ρ : Type} (a b : List Int) (c d : Int) (k : (List Int) → (List Int) → Int → Int → Option ρ) : Option ρ := kr a b fun j l e f => br (f != 0) (k a b 0 f) (o9 c d fun g => xg a b (IntKind.i64.wrap (1 - e)) g fun h i => k h i (IntKind.i64.wrap (1 - e)) 0)
def aam {ρ : Type} := shut (agp (ρ := ρ))
theorem anj {ρ : Type} (c : List Int) (d : List Int) (a : Int) (b : Int) (k : (List Int) → (List Int) → Int → Int → Option ρ) : aam c d a b k = agp c d a b k := by unfold aam; rw [eu]

def aeh {ρ : Type} (a b : List Int) (c d e f : Int) (g : Bool) (k : (List Int) → (List Int) → Int → Int → Int → Int → Bool → Int → Option ρ) : Option ρ := y9 a b c d e f g fun l h i => br (i != 0) (k a b c d e f g i) (aam a b l h fun m n o j => br (j != 0) (k a b c d e f g j) (k m n c d e h g 0))
def oo {ρ : Type} := shut (aeh (ρ := ρ))
theorem aja {ρ : Type} (a : List Int) (b : List Int) (c : Int) (d : Int) (f : Int) (e : Int) (g : Bool) (k : (List Int) → (List Int) → Int → Int → Int → Int → Bool → Int → Option ρ) : oo a b c d f e g k = aeh a b c d f e g k := by unfold oo; rw [eu]

def ahq {ρ : Type} (a b : List Int) (e f c d : Int) (g : Bool) (k : (List Int) → (List Int) → Int → Int → Int → Int → Bool → Int → Int → Option ρ) : Option ρ := br (!g) (k a b e f c d g 0 21) (br (c == d) (oo a b e f c d g fun j l m n h o p i => br (i != 0) (k a b e f c d g 0 i) (k j l m n (IntKind.u64.wrap (h + 1)) o p h 0)) (k a b e f (IntKind.u64.wrap (c + 1)) d g c 0))
def ach {ρ : Type} := shut (ahq (ρ := ρ))
theorem apu {ρ : Type} (a : List Int) (b : List Int) (c : Int) (d : Int) (f : Int) (e : Int) (g : Bool) (k : (List Int) → (List Int) → Int → Int → Int → Int → Bool → Int → Int → Option ρ) : ach a b c d f e g k = ahq a b c d f e g k := by unfold ach; rw [eu]

def ah5 {ρ : Type} (a b : List Int) (c d e : Int) (h : List Int) (k : (List Int) → (List Int) → Int → Option ρ) : Option ρ := kr a b fun o p f g => br (g != 0) (k a b g) (br (e == 0) (k a b 0) (br (e == 1) (o9 c d fun i => xg a b (IntKind.i64.wrap (1 - f)) i fun j l => k j l 0) (br (e == 2) (xg a b (IntKind.i64.wrap (1 - f)) h fun m n => k m n 0) (k a b 8))))
def ab3 {ρ : Type} := shut (ah5 (ρ := ρ))
theorem ao2 {ρ : Type} (c : List Int) (d : List Int) (a : Int) (b : Int) (e : Int) (f : List Int) (k : (List Int) → (List Int) → Int → Option ρ) : ab3 c d a b e f k = ah5 c d a b e f k := by unfold ab3; rw [eu]

def am6 {ρ : Type} (a b : List Int) (c d f e : Int) (g : Bool) (k : (List Int) → (List Int) → Int → Int → Int → Int → Bool → Option ρ) : Option ρ := k a b c d 0 0 false
def aea {ρ : Type} := shut (am6 (ρ := ρ))
theorem aek {ρ : Type} (a : List Int) (b : List Int) (c : Int) (d : Int) (f : Int) (e : Int) (g : Bool) (k : (List Int) → (List Int) → Int → Int → Int → Int → Bool → Option ρ) : aea a b c d f e g k = am6 a b c d f e g k := by unfold aea; rw [eu]

def alx {ρ : Type} (a b : List Int) (c d f e : Int) (g : Bool) (h i : Int) (j : List Int) (k : (List Int) → (List Int) → Int → Int → Int → Int → Bool → (List Int) → Int → Option ρ) : Option ρ := br (h == 1) (ach a b c d f e g fun o p q r s t u q7 v => br (v != 0) (k o p q r s t u [] v) (k o p q r s t u [q7] 0)) (br (h == 2) (oo a b c d f e g fun q9 w y z A B C F => k q9 w y z A B C [] F) (br (h == 3) (y9 a b c d f e g fun G H l => br (l != 0) (k a b c d f e g [] l) (ab3 a b G H i j fun I J m => br (m != 0) (k a b c d f e g [] m) (aea I J c d f e g fun M N O Q U W Z => k M N O Q U W Z [] 0))) (br (h == 4) (aea a b c d f e g fun aa ab ac ad ae af ag => k aa ab ac ad ae af ag [] 0) (br (h == 5) (br g (k a b c d f e g [] 0) (aby a b c d fun ah ai aj ak al am an n => br (n != 0) (k a b c d f e g [] n) (k ah ai aj ak al am an [] 0))) (k a b c d f e g [] 1)))))
def aho {ρ : Type} := shut (alx (ρ := ρ))
theorem awh {ρ : Type} (a : List Int) (b : List Int) (c : Int) (d : Int) (f : Int) (e : Int) (j : Bool) (g : Int) (h : Int) (i : List Int) (k : (List Int) → (List Int) → Int → Int → Int → Int → Bool → (List Int) → Int → Option ρ) : aho a b c d f e j g h i k = alx a b c d f e j g h i k := by unfold aho; rw [eu]

abbrev bm5 (ρ : Type) := Nat → (List Int) → (List Int) → (List (List Int)) → Int → (List Int) → (List Int) → (List Int) → Int → Int → Int → Int → Bool → Int → Int → Int → Int → Bool → Option ρ
def ajd {ρ : Type} (b : Nat) (c d : List Int) (e : List (List Int)) (a : Int) (r f g : List Int) (h i j k : Int) (l : Bool) (m n o p : Int) (q : Bool) (nx t : bm5 ρ) : Option ρ := br (decide (a < (↑b : Int))) (br (decide (0 ≤ a)) (br (decide (a < (↑b : Int))) (aho f g h i j k l (c.getD a.toNat 0) (d.getD a.toNat 0) (e.getD a.toNat []) fun u v w y z A B s C => br (decide ((r.length + s.length) * 8 ≤ 140737488355328)) (nx b c d e (IntKind.i64.wrap (a + 1)) (r ++ s) u v w y z A B m n o p q) none) none) none) (t b c d e a r f g h i j k l m n o p q)
abbrev bi7 := Nat × (List Int) × (List Int) × (List (List Int)) × Int × (List Int) × (List Int) × (List Int) × Int × Int × Int × Int × Bool × Int × Int × Int × Int × Bool
abbrev bok := bi7
def bpf {ρ : Type} (f : bi7 → Option ρ) : bm5 ρ := fun n o p q r s a b c d e g h i j k l m => f (n, o, p, q, r, s, a, b, c, d, e, g, h, i, j, k, l, m)
def bkz {ρ : Type} : ah7 bi7 bok ρ := fun (m, n, o, p, q, r, a, b, c, d, e, f, g, h, i, j, k, l) next ex => ajd m n o p q r a b c d e f g h i j k l (bpf next) (bpf ex)
def bn4 {ρ : Type} := shut (lp (bkz (ρ := ρ)))
theorem bqt {ρ : Type} : bn4 (ρ := ρ) = lp bkz := eu _
def blq {ρ : Type} (f : ahz bi7 bok ρ) (n : Nat) (o p : List Int) (q : List (List Int)) (r : Int) (s a b : List Int) (c d e g : Int) (h : Bool) (i j k l : Int) (m : Bool) (t : bm5 ρ) : Option ρ := f (n, o, p, q, r, s, a, b, c, d, e, g, h, i, j, k, l, m) (fun (n, o, p, q, r, s, a, b, c, d, e, g, h, i, j, k, l, m) => t n o p q r s a b c d e g h i j k l m)
def aoz {ρ : Type} := blq (lp (bkz (ρ := ρ)))
def aog {ρ : Type} := blq (bn4 (ρ := ρ))
theorem aqp {ρ : Type} : aog (ρ := ρ) = aoz := congrArg blq bqt
def ahw {ρ : Type} (a b : List Int) (c d f e : Int) (g : Bool) (h : Nat) (i j : List Int) (l : List (List Int)) (k : (List Int) → (List Int) → Int → Int → Int → Int → Bool → (List Int) → Option ρ) : Option ρ := aog h i j l 0 [] a b c d f e g 0 0 0 0 false fun A B C F G p q r s t m n o u v w y z => k q r s t m n o p
def ab9 {ρ : Type} := shut (ahw (ρ := ρ))
theorem apx {ρ : Type} (a : List Int) (b : List Int) (c : Int) (d : Int) (f : Int) (e : Int) (g : Bool) (h : Nat) (i : List Int) (j : List Int) (l : List (List Int)) (k : (List Int) → (List Int) → Int → Int → Int → Int → Bool → (List Int) → Option ρ) : ab9 a b c d f e g h i j l k = ahw a b c d f e g h i j l k := by unfold ab9; rw [eu]

def ab4 {ρ : Type} (a b : List Int) (c d f e : Int) (g : Bool) (h : Nat) (i j : List Int) (l : List (List Int)) (k : Bool → Option ρ) : Option ρ := agr a b h i j l fun A => br (!A) (uz fun B => k B) (agq a b c d f e g fun C => br (!C) (uz fun F => k F) (qd a b c d f e g h i j l fun G H I J M N m n => ab9 a b c d f e g h i j l fun o p q r s t u v => ab8 G H I J M N m o p q r s t u fun w => br w (qw n v fun y => br y (uz fun z => k z) (k false)) (k false)))
def qm {ρ : Type} := shut (ab4 (ρ := ρ))
theorem af9 {ρ : Type} (a : List Int) (b : List Int) (c : Int) (d : Int) (f : Int) (e : Int) (g : Bool) (h : Nat) (i : List Int) (j : List Int) (l : List (List Int)) (k : Bool → Option ρ) : qm a b c d f e g h i j l k = ab4 a b c d f e g h i j l k := by unfold qm; rw [eu]

































































end P
end
