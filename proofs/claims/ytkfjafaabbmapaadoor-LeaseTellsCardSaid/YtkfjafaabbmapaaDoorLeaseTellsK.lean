/-
  LeaseTells, part 11: an interpreter of my own over abstract values, the pure functions, the walks and the plain law.
-/

import Derived.Test.YtkfjafaabbmapaaDoorLeaseTellsH
import Derived.Test.YtkfjafaabbmapaaDoorLeaseTellsJ
import Derived.Test.YtkfjafaabbmapaaDoorLeaseTellsI

noncomputable section
open Go Go.Abs
set_option linter.unusedVariables false
namespace P

def aff {ρ : Type} (a : Int) (k : Int → Option ρ) : Option ρ := br (decide (0 ≤ a)) (br (decide (a < (↑64 : Int))) (k (roots256.getD a.toNat 0)) none) none
def mo {ρ : Type} := shut (aff (ρ := ρ))
theorem ajs {ρ : Type} (a : Int) (k : Int → Option ρ) : mo a k = aff a k := by unfold mo; rw [ig]

def uo {ρ : Type} (a g : Int) (b c d e : List Int) (h f : Int) (k : Int → Option ρ) : Option ρ := br (decide (f < 0)) none (br (decide (IntKind.i64.wrap (a - f) < 0)) none (k (bits BinOp.or IntKind.u32 (h.fdiv (2 ^ min f.toNat 32)) (IntKind.u32.wrap (h * 2 ^ min (IntKind.i64.wrap (a - f)).toNat 32)))))
def dw {ρ : Type} := shut (uo (ρ := ρ))
theorem aat {ρ : Type} (f : Int) (e : Int) (a : List Int) (b : List Int) (c : List Int) (d : List Int) (g : Int) (h : Int) (k : Int → Option ρ) : dw f e a b c d g h k = uo f e a b c d g h k := by unfold dw; rw [ig]

def qx {ρ : Type} (f e : Int) (a b c d : List Int) (g h : Int) (k : Int → Option ρ) : Option ρ := br (decide (h = (↑0 : Int))) (dw f e a b c d g (a.getD 0 0) fun l => dw f e a b c d g (a.getD 1 0) fun m => dw f e a b c d g (a.getD 2 0) fun n => k (bits BinOp.xor IntKind.u32 (bits BinOp.xor IntKind.u32 l m) n)) (br (decide (h = (↑1 : Int))) (dw f e a b c d g (b.getD 0 0) fun o => dw f e a b c d g (b.getD 1 0) fun p => dw f e a b c d g (b.getD 2 0) fun q => k (bits BinOp.xor IntKind.u32 (bits BinOp.xor IntKind.u32 o p) q)) (br (decide (h = (↑2 : Int))) (dw f e a b c d g (c.getD 0 0) fun r => dw f e a b c d g (c.getD 1 0) fun s => dw f e a b c d g (c.getD 2 0) fun t => k (bits BinOp.xor IntKind.u32 (bits BinOp.xor IntKind.u32 r s) t)) (br (decide (h = (↑3 : Int))) (dw f e a b c d g (d.getD 0 0) fun u => dw f e a b c d g (d.getD 1 0) fun i => dw f e a b c d g (d.getD 2 0) fun j => k (bits BinOp.xor IntKind.u32 (bits BinOp.xor IntKind.u32 u i) j)) none)))
def jo {ρ : Type} := shut (qx (ρ := ρ))
theorem yj {ρ : Type} (f : Int) (e : Int) (a : List Int) (b : List Int) (c : List Int) (d : List Int) (g : Int) (h : Int) (k : Int → Option ρ) : jo f e a b c d g h k = qx f e a b c d g h k := by unfold jo; rw [ig]

def ru {ρ : Type} (f e : Int) (a b c d : List Int) (g h : Int) (k : Int → Option ρ) : Option ρ := br (decide (h = (↑0 : Int))) (dw f e a b c d g (a.getD 0 (0 : Int)) fun i => dw f e a b c d g (a.getD 1 (0 : Int)) fun j => br (decide (a.getD 2 (0 : Int) < (0 : Int))) none (k (bits BinOp.xor IntKind.u32 (bits BinOp.xor IntKind.u32 i j) (g.fdiv ((2 : Int) ^ min (a.getD 2 (0 : Int)).toNat 32))))) (br (decide (h = (↑1 : Int))) (dw f e a b c d g (b.getD 0 (0 : Int)) fun l => dw f e a b c d g (b.getD 1 (0 : Int)) fun m => br (decide (b.getD 2 (0 : Int) < (0 : Int))) none (k (bits BinOp.xor IntKind.u32 (bits BinOp.xor IntKind.u32 l m) (g.fdiv ((2 : Int) ^ min (b.getD 2 (0 : Int)).toNat 32))))) (br (decide (h = (↑2 : Int))) (dw f e a b c d g (c.getD 0 (0 : Int)) fun n => dw f e a b c d g (c.getD 1 (0 : Int)) fun o => br (decide (c.getD 2 (0 : Int) < (0 : Int))) none (k (bits BinOp.xor IntKind.u32 (bits BinOp.xor IntKind.u32 n o) (g.fdiv ((2 : Int) ^ min (c.getD 2 (0 : Int)).toNat 32))))) (br (decide (h = (↑3 : Int))) (dw f e a b c d g (d.getD 0 (0 : Int)) fun p => dw f e a b c d g (d.getD 1 (0 : Int)) fun q => br (decide (d.getD 2 (0 : Int) < (0 : Int))) none (k (bits BinOp.xor IntKind.u32 (bits BinOp.xor IntKind.u32 p q) (g.fdiv ((2 : Int) ^ min (d.getD 2 (0 : Int)).toNat 32))))) none)))
def jy {ρ : Type} := shut (ru (ρ := ρ))
theorem y8 {ρ : Type} (f : Int) (e : Int) (a : List Int) (b : List Int) (c : List Int) (d : List Int) (g : Int) (h : Int) (k : Int → Option ρ) : jy f e a b c d g h k = ru f e a b c d g h k := by unfold jy; rw [ig]

abbrev zc7 (ρ : Type) := (List Int) → Int → Int → Int → Int → (List Int) → (List Int) → (List Int) → (List Int) → (List Int) → (List Int) → (List Int) → Option ρ
def xu {ρ : Type} (l : List Int) (b a c d : Int) (e f g h i j k : List Int) (nx m : zc7 ρ) : Option ρ := br (decide (a < 16)) (br (decide (0 ≤ IntKind.i64.wrap (a * b))) (br (decide (IntKind.i64.wrap (a * b) ≤ IntKind.i64.wrap (IntKind.i64.wrap (a + 1) * b))) (br (decide (IntKind.i64.wrap (IntKind.i64.wrap (a + 1) * b) ≤ (↑l.length : Int))) (rz (List.drop (IntKind.i64.wrap (a * b)).toNat (List.take (IntKind.i64.wrap (IntKind.i64.wrap (a + 1) * b)).toNat l)) fun n => br (decide (0 ≤ a)) (br (decide (a < (↑16 : Int))) (nx l b (IntKind.i64.wrap (a + 1)) c d e f g h i j (k.set a.toNat (IntKind.u32.wrap n))) none) none) none) none) none) (m l b a c d e f g h i j k)
abbrev zt7 := (List Int) × Int × Int × Int × Int × (List Int) × (List Int) × (List Int) × (List Int) × (List Int) × (List Int) × (List Int)
abbrev zy7 := zt7
def zu7 {ρ : Type} (f : zt7 → Option ρ) : zc7 ρ := fun l m k a b c d e g h i j => f (l, m, k, a, b, c, d, e, g, h, i, j)
def zs7 {ρ : Type} : aiw zt7 zy7 ρ := fun (k, l, j, a, b, c, d, e, f, g, h, i) next ex => xu k l j a b c d e f g h i (zu7 next) (zu7 ex)
def zm7 {ρ : Type} := shut (lp (zs7 (ρ := ρ)))
theorem ze7 {ρ : Type} : zm7 (ρ := ρ) = lp zs7 := ig _
def zk7 {ρ : Type} (f : ail zt7 zy7 ρ) (l : List Int) (m k a b : Int) (c d e g h i j : List Int) (n : zc7 ρ) : Option ρ := f (l, m, k, a, b, c, d, e, g, h, i, j) (fun (l, m, k, a, b, c, d, e, g, h, i, j) => n l m k a b c d e g h i j)
def abw {ρ : Type} := zk7 (lp (zs7 (ρ := ρ)))
def yc {ρ : Type} := zk7 (zm7 (ρ := ρ))
theorem ad9 {ρ : Type} : yc (ρ := ρ) = abw := congrArg zk7 ze7
abbrev zc8 (ρ : Type) := Int → Int → (List Int) → (List Int) → (List Int) → Int → Int → (List Int) → (List Int) → (List Int) → (List Int) → (List Int) → Option ρ
def vo {ρ : Type} (j b : Int) (c k l : List Int) (d e : Int) (f g h i a : List Int) (nx o : zc8 ρ) : Option ρ := br (decide (b < j)) (br (decide (0 ≤ b.tmod 16)) (br (decide (b.tmod 16 < (↑16 : Int))) (jo d e f g h i (a.getD 4 0) 3 fun m => mo b fun n => jo d e f g h i (a.getD 0 0) 2 fun p => br (decide (0 ≤ (IntKind.i64.wrap (b + 1)).tmod 16)) (br (decide ((IntKind.i64.wrap (b + 1)).tmod 16 < (↑16 : Int))) (jy d e f g h i (c.getD ((IntKind.i64.wrap (b + 1)).tmod 16).toNat 0) 0 fun q => br (decide (0 ≤ (IntKind.i64.wrap (b + 9)).tmod 16)) (br (decide ((IntKind.i64.wrap (b + 9)).tmod 16 < (↑16 : Int))) (br (decide (0 ≤ (IntKind.i64.wrap (b + 14)).tmod 16)) (br (decide ((IntKind.i64.wrap (b + 14)).tmod 16 < (↑16 : Int))) (jy d e f g h i (c.getD ((IntKind.i64.wrap (b + 14)).tmod 16).toNat 0) 1 fun r => br (decide (0 ≤ b.tmod 16)) (br (decide (b.tmod 16 < (↑16 : Int))) (nx j (IntKind.i64.wrap (b + 1)) (c.set (b.tmod 16).toNat (IntKind.u32.wrap (IntKind.u32.wrap (IntKind.u32.wrap (c.getD (b.tmod 16).toNat 0 + q) + c.getD ((IntKind.i64.wrap (b + 9)).tmod 16).toNat 0) + r))) k l d e f g h i ((((List.take 1 a).append (List.take 7 (List.take 7 (List.drop 0 a)) ++ List.drop (1 + min 7 (List.take 7 (List.drop 0 a)).length) a)).set 4 (IntKind.u32.wrap (((List.take 1 a).append (List.take 7 (List.take 7 (List.drop 0 a)) ++ List.drop (1 + min 7 (List.take 7 (List.drop 0 a)).length) a)).getD 4 0 + IntKind.u32.wrap (IntKind.u32.wrap (IntKind.u32.wrap (IntKind.u32.wrap (a.getD 7 0 + m) + bits BinOp.xor IntKind.u32 (a.getD 6 0) (bits BinOp.and IntKind.u32 (a.getD 4 0) (bits BinOp.xor IntKind.u32 (a.getD 5 0) (a.getD 6 0)))) + n) + c.getD (b.tmod 16).toNat 0)))).set 0 (IntKind.u32.wrap (IntKind.u32.wrap (IntKind.u32.wrap (IntKind.u32.wrap (IntKind.u32.wrap (a.getD 7 0 + m) + bits BinOp.xor IntKind.u32 (a.getD 6 0) (bits BinOp.and IntKind.u32 (a.getD 4 0) (bits BinOp.xor IntKind.u32 (a.getD 5 0) (a.getD 6 0)))) + n) + c.getD (b.tmod 16).toNat 0) + IntKind.u32.wrap (p + bits BinOp.or IntKind.u32 (bits BinOp.and IntKind.u32 (a.getD 0 0) (a.getD 1 0)) (bits BinOp.and IntKind.u32 (a.getD 2 0) (bits BinOp.or IntKind.u32 (a.getD 0 0) (a.getD 1 0)))))))) none) none) none) none) none) none) none) none) none) none) (o j b c k l d e f g h i a)
abbrev zt8 := Int × Int × (List Int) × (List Int) × (List Int) × Int × Int × (List Int) × (List Int) × (List Int) × (List Int) × (List Int)
abbrev zy8 := zt8
def zu8 {ρ : Type} (f : zt8 → Option ρ) : zc8 ρ := fun l m a b c d e g h i j k => f (l, m, a, b, c, d, e, g, h, i, j, k)
def zs8 {ρ : Type} : aiw zt8 zy8 ρ := fun (k, l, a, b, c, d, e, f, g, h, i, j) next ex => vo k l a b c d e f g h i j (zu8 next) (zu8 ex)
def zm8 {ρ : Type} := shut (lp (zs8 (ρ := ρ)))
theorem ze8 {ρ : Type} : zm8 (ρ := ρ) = lp zs8 := ig _
def zk8 {ρ : Type} (f : ail zt8 zy8 ρ) (l m : Int) (a b c : List Int) (d e : Int) (g h i j k : List Int) (n : zc8 ρ) : Option ρ := f (l, m, a, b, c, d, e, g, h, i, j, k) (fun (l, m, a, b, c, d, e, g, h, i, j, k) => n l m a b c d e g h i j k)
def aa5 {ρ : Type} := zk8 (lp (zs8 (ρ := ρ)))
def ql {ρ : Type} := zk8 (zm8 (ρ := ρ))
theorem ady {ρ : Type} : ql (ρ := ρ) = aa5 := congrArg zk8 ze8
abbrev zc9 (ρ : Type) := Int → (List Int) → (List Int) → (List Int) → Option ρ
def xg {ρ : Type} (a : Int) (b d c : List Int) (nx e : zc9 ρ) : Option ρ := br (decide (a < 8)) (br (decide (0 ≤ a)) (br (decide (a < (↑8 : Int))) (br (decide (0 ≤ a)) (br (decide (a < (↑8 : Int))) (br (decide (0 ≤ a)) (br (decide (a < (↑8 : Int))) (nx (IntKind.i64.wrap (a + 1)) b d (c.set a.toNat (IntKind.u32.wrap (c.getD a.toNat 0 + b.getD a.toNat 0)))) none) none) none) none) none) none) (e a b d c)
abbrev zt9 := Int × (List Int) × (List Int) × (List Int)
abbrev zy9 := zt9
def zu9 {ρ : Type} (f : zt9 → Option ρ) : zc9 ρ := fun a b c d => f (a, b, c, d)
def zs9 {ρ : Type} : aiw zt9 zy9 ρ := fun (a, b, c, d) next ex => xg a b c d (zu9 next) (zu9 ex)
def zm9 {ρ : Type} := shut (lp (zs9 (ρ := ρ)))
theorem ze9 {ρ : Type} : zm9 (ρ := ρ) = lp zs9 := ig _
def zk9 {ρ : Type} (f : ail zt9 zy9 ρ) (a : Int) (b c d : List Int) (e : zc9 ρ) : Option ρ := f (a, b, c, d) (fun (a, b, c, d) => e a b c d)
def abh {ρ : Type} := zk9 (lp (zs9 (ρ := ρ)))
def qo {ρ : Type} := zk9 (zm9 (ρ := ρ))
theorem ad3 {ρ : Type} : qo (ρ := ρ) = abh := congrArg zk9 ze9
def wo {ρ : Type} (a f : Int) (b c d e p q : List Int) (k : (List Int) → Option ρ) : Option ρ := yc q (IntKind.i64.wrap (a.tdiv 8)) 0 a f b c d e p [0, 0, 0, 0, 0, 0, 0, 0] [0, 0, 0, 0, 0, 0, 0, 0, 0, 0, 0, 0, 0, 0, 0, 0] fun N O Q r g s t u v h i j => ql g 0 j i h r g s t u v h fun w y z l m A B C F G H n => qo 0 m l n fun I J M o => k o
def ko {ρ : Type} := shut (wo (ρ := ρ))
theorem abx {ρ : Type} (f : Int) (e : Int) (a : List Int) (b : List Int) (c : List Int) (d : List Int) (g : List Int) (h : List Int) (k : (List Int) → Option ρ) : ko f e a b c d g h k = wo f e a b c d g h k := by unfold ko; rw [ig]

abbrev bo7 (ρ : Type) := (List Int) → (List Int) → Int → Int → Int → (List Int) → (List Int) → (List Int) → (List Int) → (List Int) → (List Int) → (List Int) → Option ρ
def abo {ρ : Type} (l b : List Int) (a c d : Int) (e f g h i j k : List Int) (nx m : bo7 ρ) : Option ρ := br (decide (a < 8)) (br (decide (0 ≤ a)) (br (decide (a < (↑8 : Int))) (br (decide (0 ≤ a)) (br (decide (a < (↑8 : Int))) (nx l b (IntKind.i64.wrap (a + 1)) c d e f g h i j (k.set a.toNat (IntKind.u32.wrap (b.getD a.toNat 0)))) none) none) none) none) (m l b a c d e f g h i j k)
abbrev bj7 := (List Int) × (List Int) × Int × Int × Int × (List Int) × (List Int) × (List Int) × (List Int) × (List Int) × (List Int) × (List Int)
abbrev bp5 := bj7
def bnt {ρ : Type} (f : bj7 → Option ρ) : bo7 ρ := fun m k l a b c d e g h i j => f (m, k, l, a, b, c, d, e, g, h, i, j)
def bl8 {ρ : Type} : aiw bj7 bp5 ρ := fun (l, j, k, a, b, c, d, e, f, g, h, i) next ex => abo l j k a b c d e f g h i (bnt next) (bnt ex)
def bpp {ρ : Type} := shut (lp (bl8 (ρ := ρ)))
theorem bq6 {ρ : Type} : bpp (ρ := ρ) = lp bl8 := ig _
def bmt {ρ : Type} (f : ail bj7 bp5 ρ) (m k : List Int) (l a b : Int) (c d e g h i j : List Int) (n : bo7 ρ) : Option ρ := f (m, k, l, a, b, c, d, e, g, h, i, j) (fun (m, k, l, a, b, c, d, e, g, h, i, j) => n m k l a b c d e g h i j)
def ad7 {ρ : Type} := bmt (lp (bl8 (ρ := ρ)))
def abj {ρ : Type} := bmt (bpp (ρ := ρ))
theorem agx {ρ : Type} : abj (ρ := ρ) = ad7 := congrArg bmt bq6
abbrev bo3 (ρ : Type) := (List Int) → Int → (List Int) → (List Int) → (List Int) → Int → Int → (List Int) → (List Int) → (List Int) → (List Int) → Option ρ
def abk {ρ : Type} (b : List Int) (a : Int) (i j k : List Int) (c d : Int) (e f g h : List Int) (nx l : bo3 ρ) : Option ρ := br (decide ((↑b.length : Int) ≥ a)) (br (decide (0 ≤ a)) (br (decide (a ≤ (↑b.length : Int))) (ko c d e f g h i (List.drop 0 (List.take a.toNat b)) fun m => br (decide (0 ≤ a)) (br (decide (a ≤ (↑b.length : Int))) (br (decide ((↑b.length : Int) ≤ (↑b.length : Int))) (nx (List.drop a.toNat (List.take (↑b.length : Int).toNat b)) a m j k c d e f g h) none) none) none) none) none) (l b a i j k c d e f g h)
abbrev bkv := (List Int) × Int × (List Int) × (List Int) × (List Int) × Int × Int × (List Int) × (List Int) × (List Int) × (List Int)
abbrev boi := bkv
def bqk {ρ : Type} (f : bkv → Option ρ) : bo3 ρ := fun l k a b c d e g h i j => f (l, k, a, b, c, d, e, g, h, i, j)
def bk5 {ρ : Type} : aiw bkv boi ρ := fun (k, j, a, b, c, d, e, f, g, h, i) next ex => abk k j a b c d e f g h i (bqk next) (bqk ex)
def bpy {ρ : Type} := shut (lp (bk5 (ρ := ρ)))
theorem brh {ρ : Type} : bpy (ρ := ρ) = lp bk5 := ig _
def bmr {ρ : Type} (f : ail bkv boi ρ) (l : List Int) (k : Int) (a b c : List Int) (d e : Int) (g h i j : List Int) (m : bo3 ρ) : Option ρ := f (l, k, a, b, c, d, e, g, h, i, j) (fun (l, k, a, b, c, d, e, g, h, i, j) => m l k a b c d e g h i j)
def adz {ρ : Type} := bmr (lp (bk5 (ρ := ρ)))
def aaz {ρ : Type} := bmr (bpy (ρ := ρ))
theorem agv {ρ : Type} : aaz (ρ := ρ) = adz := congrArg bmr brh
abbrev bqx (ρ : Type) := (List Int) → (List Int) → Int → (List Int) → (List Int) → Option ρ
def aap {ρ : Type} (e b : List Int) (a : Int) (c d : List Int) (nx f : bqx ρ) : Option ρ := br (decide (a < 8)) (br (decide (0 ≤ a)) (br (decide (a < (↑8 : Int))) (br (decide (0 ≤ a)) (br (decide (a < (↑8 : Int))) (nx e b (IntKind.i64.wrap (a + 1)) (c.set a.toNat (IntKind.u64.wrap (b.getD a.toNat 0))) d) none) none) none) none) (f e b a c d)
abbrev bkd := (List Int) × (List Int) × Int × (List Int) × (List Int)
abbrev bow := bkd
def bpo {ρ : Type} (f : bkd → Option ρ) : bqx ρ := fun e c d a b => f (e, c, d, a, b)
def zs12 {ρ : Type} : aiw bkd bow ρ := fun (e, c, d, a, b) next ex => aap e c d a b (bpo next) (bpo ex)
def bpq {ρ : Type} := shut (lp (zs12 (ρ := ρ)))
theorem bri {ρ : Type} : bpq (ρ := ρ) = lp zs12 := ig _
def bm2 {ρ : Type} (f : ail bkd bow ρ) (e c : List Int) (d : Int) (a b : List Int) (g : bqx ρ) : Option ρ := f (e, c, d, a, b) (fun (e, c, d, a, b) => g e c d a b)
def ac8 {ρ : Type} := bm2 (lp (zs12 (ρ := ρ)))
def aar {ρ : Type} := bm2 (bpq (ρ := ρ))
theorem af3 {ρ : Type} : aar (ρ := ρ) = ac8 := congrArg bm2 bri
def aas {ρ : Type} (f e : Int) (a b c d g r : List Int) (k : (List Int) → (List Int) → Option ρ) : Option ρ := abj r g 0 f e a b c d g [0, 0, 0, 0, 0, 0, 0, 0] [0, 0, 0, 0, 0, 0, 0, 0] fun s O Q h t u v w y z i j => aaz s (IntKind.i64.wrap (h * 2)) j i z h t u v w y fun l A m n o B C F G H I => aar l m 0 o n fun p J M q N => k q p
def og {ρ : Type} := shut (aas (ρ := ρ))
theorem ad5 {ρ : Type} (f : Int) (e : Int) (a : List Int) (b : List Int) (c : List Int) (d : List Int) (g : List Int) (h : List Int) (k : (List Int) → (List Int) → Option ρ) : og f e a b c d g h k = aas f e a b c d g h k := by unfold og; rw [ig]

def ak2 {ρ : Type} (k : Int → Int → (List Int) → (List Int) → (List Int) → (List Int) → Option ρ) : Option ρ := k 32 64 [7, 18, 3] [17, 19, 10] [2, 13, 22] [6, 11, 25]
def aa0 {ρ : Type} := shut (ak2 (ρ := ρ))
theorem an7 {ρ : Type}  (k : Int → Int → (List Int) → (List Int) → (List Int) → (List Int) → Option ρ) : aa0  k = ak2  k := by unfold aa0; rw [ig]

def afn {ρ : Type} (a : Int) (k : Int → Option ρ) : Option ρ := br (decide (0 ≤ a)) (br (decide (a < (↑80 : Int))) (k (roots512.getD a.toNat 0)) none) none
def ni {ρ : Type} := shut (afn (ρ := ρ))
theorem ajt {ρ : Type} (a : Int) (k : Int → Option ρ) : ni a k = afn a k := by unfold ni; rw [ig]

def uw {ρ : Type} (a g : Int) (b c d e : List Int) (h f : Int) (k : Int → Option ρ) : Option ρ := br (decide (f < 0)) none (br (decide (IntKind.i64.wrap (a - f) < 0)) none (k (bits BinOp.or IntKind.u64 (h.fdiv (2 ^ min f.toNat 64)) (IntKind.u64.wrap (h * 2 ^ min (IntKind.i64.wrap (a - f)).toNat 64)))))
def dn {ρ : Type} := shut (uw (ρ := ρ))
theorem aav {ρ : Type} (f : Int) (e : Int) (a : List Int) (b : List Int) (c : List Int) (d : List Int) (g : Int) (h : Int) (k : Int → Option ρ) : dn f e a b c d g h k = uw f e a b c d g h k := by unfold dn; rw [ig]

def qw {ρ : Type} (f e : Int) (a b c d : List Int) (g h : Int) (k : Int → Option ρ) : Option ρ := br (decide (h = (↑0 : Int))) (dn f e a b c d g (a.getD 0 0) fun l => dn f e a b c d g (a.getD 1 0) fun m => dn f e a b c d g (a.getD 2 0) fun n => k (bits BinOp.xor IntKind.u64 (bits BinOp.xor IntKind.u64 l m) n)) (br (decide (h = (↑1 : Int))) (dn f e a b c d g (b.getD 0 0) fun o => dn f e a b c d g (b.getD 1 0) fun p => dn f e a b c d g (b.getD 2 0) fun q => k (bits BinOp.xor IntKind.u64 (bits BinOp.xor IntKind.u64 o p) q)) (br (decide (h = (↑2 : Int))) (dn f e a b c d g (c.getD 0 0) fun r => dn f e a b c d g (c.getD 1 0) fun s => dn f e a b c d g (c.getD 2 0) fun t => k (bits BinOp.xor IntKind.u64 (bits BinOp.xor IntKind.u64 r s) t)) (br (decide (h = (↑3 : Int))) (dn f e a b c d g (d.getD 0 0) fun u => dn f e a b c d g (d.getD 1 0) fun i => dn f e a b c d g (d.getD 2 0) fun j => k (bits BinOp.xor IntKind.u64 (bits BinOp.xor IntKind.u64 u i) j)) none)))
def jm {ρ : Type} := shut (qw (ρ := ρ))
theorem yt {ρ : Type} (f : Int) (e : Int) (a : List Int) (b : List Int) (c : List Int) (d : List Int) (g : Int) (h : Int) (k : Int → Option ρ) : jm f e a b c d g h k = qw f e a b c d g h k := by unfold jm; rw [ig]

def tq {ρ : Type} (f e : Int) (a b c d : List Int) (g h : Int) (k : Int → Option ρ) : Option ρ := br (decide (h = (↑0 : Int))) (dn f e a b c d g (a.getD 0 (0 : Int)) fun i => dn f e a b c d g (a.getD 1 (0 : Int)) fun j => br (decide (a.getD 2 (0 : Int) < (0 : Int))) none (k (bits BinOp.xor IntKind.u64 (bits BinOp.xor IntKind.u64 i j) (g.fdiv ((2 : Int) ^ min (a.getD 2 (0 : Int)).toNat 64))))) (br (decide (h = (↑1 : Int))) (dn f e a b c d g (b.getD 0 (0 : Int)) fun l => dn f e a b c d g (b.getD 1 (0 : Int)) fun m => br (decide (b.getD 2 (0 : Int) < (0 : Int))) none (k (bits BinOp.xor IntKind.u64 (bits BinOp.xor IntKind.u64 l m) (g.fdiv ((2 : Int) ^ min (b.getD 2 (0 : Int)).toNat 64))))) (br (decide (h = (↑2 : Int))) (dn f e a b c d g (c.getD 0 (0 : Int)) fun n => dn f e a b c d g (c.getD 1 (0 : Int)) fun o => br (decide (c.getD 2 (0 : Int) < (0 : Int))) none (k (bits BinOp.xor IntKind.u64 (bits BinOp.xor IntKind.u64 n o) (g.fdiv ((2 : Int) ^ min (c.getD 2 (0 : Int)).toNat 64))))) (br (decide (h = (↑3 : Int))) (dn f e a b c d g (d.getD 0 (0 : Int)) fun p => dn f e a b c d g (d.getD 1 (0 : Int)) fun q => br (decide (d.getD 2 (0 : Int) < (0 : Int))) none (k (bits BinOp.xor IntKind.u64 (bits BinOp.xor IntKind.u64 p q) (g.fdiv ((2 : Int) ^ min (d.getD 2 (0 : Int)).toNat 64))))) none)))
def jv {ρ : Type} := shut (tq (ρ := ρ))
theorem zi {ρ : Type} (f : Int) (e : Int) (a : List Int) (b : List Int) (c : List Int) (d : List Int) (g : Int) (h : Int) (k : Int → Option ρ) : jv f e a b c d g h k = tq f e a b c d g h k := by unfold jv; rw [ig]

abbrev bog (ρ : Type) := (List Int) → Int → Int → Int → Int → (List Int) → (List Int) → (List Int) → (List Int) → (List Int) → (List Int) → (List Int) → Option ρ
def x9 {ρ : Type} (l : List Int) (b a c d : Int) (e f g h i j k : List Int) (nx m : bog ρ) : Option ρ := br (decide (a < 16)) (br (decide (0 ≤ IntKind.i64.wrap (a * b))) (br (decide (IntKind.i64.wrap (a * b) ≤ IntKind.i64.wrap (IntKind.i64.wrap (a + 1) * b))) (br (decide (IntKind.i64.wrap (IntKind.i64.wrap (a + 1) * b) ≤ (↑l.length : Int))) (rz (List.drop (IntKind.i64.wrap (a * b)).toNat (List.take (IntKind.i64.wrap (IntKind.i64.wrap (a + 1) * b)).toNat l)) fun n => br (decide (0 ≤ a)) (br (decide (a < (↑16 : Int))) (nx l b (IntKind.i64.wrap (a + 1)) c d e f g h i j (k.set a.toNat n)) none) none) none) none) none) (m l b a c d e f g h i j k)
abbrev bkb := (List Int) × Int × Int × Int × Int × (List Int) × (List Int) × (List Int) × (List Int) × (List Int) × (List Int) × (List Int)
abbrev bqt := bkb
def bqs {ρ : Type} (f : bkb → Option ρ) : bog ρ := fun l m k a b c d e g h i j => f (l, m, k, a, b, c, d, e, g, h, i, j)
def bj9 {ρ : Type} : aiw bkb bqt ρ := fun (k, l, j, a, b, c, d, e, f, g, h, i) next ex => x9 k l j a b c d e f g h i (bqs next) (bqs ex)
def bpw {ρ : Type} := shut (lp (bj9 (ρ := ρ)))
theorem brj {ρ : Type} : bpw (ρ := ρ) = lp bj9 := ig _
def bme {ρ : Type} (f : ail bkb bqt ρ) (l : List Int) (m k a b : Int) (c d e g h i j : List Int) (n : bog ρ) : Option ρ := f (l, m, k, a, b, c, d, e, g, h, i, j) (fun (l, m, k, a, b, c, d, e, g, h, i, j) => n l m k a b c d e g h i j)
def abz {ρ : Type} := bme (lp (bj9 (ρ := ρ)))
def xw {ρ : Type} := bme (bpw (ρ := ρ))
theorem aec {ρ : Type} : xw (ρ := ρ) = abz := congrArg bme brj
abbrev bpd (ρ : Type) := Int → Int → (List Int) → (List Int) → (List Int) → Int → Int → (List Int) → (List Int) → (List Int) → (List Int) → (List Int) → Option ρ
def vv {ρ : Type} (j b : Int) (c k l : List Int) (d e : Int) (f g h i a : List Int) (nx o : bpd ρ) : Option ρ := br (decide (b < j)) (br (decide (0 ≤ b.tmod 16)) (br (decide (b.tmod 16 < (↑16 : Int))) (jm d e f g h i (a.getD 4 0) 3 fun m => ni b fun n => jm d e f g h i (a.getD 0 0) 2 fun p => br (decide (0 ≤ (IntKind.i64.wrap (b + 1)).tmod 16)) (br (decide ((IntKind.i64.wrap (b + 1)).tmod 16 < (↑16 : Int))) (jv d e f g h i (c.getD ((IntKind.i64.wrap (b + 1)).tmod 16).toNat 0) 0 fun q => br (decide (0 ≤ (IntKind.i64.wrap (b + 9)).tmod 16)) (br (decide ((IntKind.i64.wrap (b + 9)).tmod 16 < (↑16 : Int))) (br (decide (0 ≤ (IntKind.i64.wrap (b + 14)).tmod 16)) (br (decide ((IntKind.i64.wrap (b + 14)).tmod 16 < (↑16 : Int))) (jv d e f g h i (c.getD ((IntKind.i64.wrap (b + 14)).tmod 16).toNat 0) 1 fun r => br (decide (0 ≤ b.tmod 16)) (br (decide (b.tmod 16 < (↑16 : Int))) (nx j (IntKind.i64.wrap (b + 1)) (c.set (b.tmod 16).toNat (IntKind.u64.wrap (IntKind.u64.wrap (IntKind.u64.wrap (c.getD (b.tmod 16).toNat 0 + q) + c.getD ((IntKind.i64.wrap (b + 9)).tmod 16).toNat 0) + r))) k l d e f g h i ((((List.take 1 a).append (List.take 7 (List.take 7 (List.drop 0 a)) ++ List.drop (1 + min 7 (List.take 7 (List.drop 0 a)).length) a)).set 4 (IntKind.u64.wrap (((List.take 1 a).append (List.take 7 (List.take 7 (List.drop 0 a)) ++ List.drop (1 + min 7 (List.take 7 (List.drop 0 a)).length) a)).getD 4 0 + IntKind.u64.wrap (IntKind.u64.wrap (IntKind.u64.wrap (IntKind.u64.wrap (a.getD 7 0 + m) + bits BinOp.xor IntKind.u64 (a.getD 6 0) (bits BinOp.and IntKind.u64 (a.getD 4 0) (bits BinOp.xor IntKind.u64 (a.getD 5 0) (a.getD 6 0)))) + n) + c.getD (b.tmod 16).toNat 0)))).set 0 (IntKind.u64.wrap (IntKind.u64.wrap (IntKind.u64.wrap (IntKind.u64.wrap (IntKind.u64.wrap (a.getD 7 0 + m) + bits BinOp.xor IntKind.u64 (a.getD 6 0) (bits BinOp.and IntKind.u64 (a.getD 4 0) (bits BinOp.xor IntKind.u64 (a.getD 5 0) (a.getD 6 0)))) + n) + c.getD (b.tmod 16).toNat 0) + IntKind.u64.wrap (p + bits BinOp.or IntKind.u64 (bits BinOp.and IntKind.u64 (a.getD 0 0) (a.getD 1 0)) (bits BinOp.and IntKind.u64 (a.getD 2 0) (bits BinOp.or IntKind.u64 (a.getD 0 0) (a.getD 1 0)))))))) none) none) none) none) none) none) none) none) none) none) (o j b c k l d e f g h i a)
abbrev bjs := Int × Int × (List Int) × (List Int) × (List Int) × Int × Int × (List Int) × (List Int) × (List Int) × (List Int) × (List Int)
abbrev bor := bjs
def bp2 {ρ : Type} (f : bjs → Option ρ) : bpd ρ := fun l m a b c d e g h i j k => f (l, m, a, b, c, d, e, g, h, i, j, k)
def bli {ρ : Type} : aiw bjs bor ρ := fun (k, l, a, b, c, d, e, f, g, h, i, j) next ex => vv k l a b c d e f g h i j (bp2 next) (bp2 ex)
def bpr {ρ : Type} := shut (lp (bli (ρ := ρ)))
theorem brq {ρ : Type} : bpr (ρ := ρ) = lp bli := ig _
def bmw {ρ : Type} (f : ail bjs bor ρ) (l m : Int) (a b c : List Int) (d e : Int) (g h i j k : List Int) (n : bpd ρ) : Option ρ := f (l, m, a, b, c, d, e, g, h, i, j, k) (fun (l, m, a, b, c, d, e, g, h, i, j, k) => n l m a b c d e g h i j k)
def abg {ρ : Type} := bmw (lp (bli (ρ := ρ)))
def qj {ρ : Type} := bmw (bpr (ρ := ρ))
theorem ad2 {ρ : Type} : qj (ρ := ρ) = abg := congrArg bmw brq
abbrev bn4 (ρ : Type) := Int → (List Int) → (List Int) → (List Int) → Option ρ
def xk {ρ : Type} (a : Int) (b d c : List Int) (nx e : bn4 ρ) : Option ρ := br (decide (a < 8)) (br (decide (0 ≤ a)) (br (decide (a < (↑8 : Int))) (br (decide (0 ≤ a)) (br (decide (a < (↑8 : Int))) (br (decide (0 ≤ a)) (br (decide (a < (↑8 : Int))) (nx (IntKind.i64.wrap (a + 1)) b d (c.set a.toNat (IntKind.u64.wrap (c.getD a.toNat 0 + b.getD a.toNat 0)))) none) none) none) none) none) none) (e a b d c)
abbrev bkf := Int × (List Int) × (List Int) × (List Int)
abbrev bp3 := bkf
def bqg {ρ : Type} (f : bkf → Option ρ) : bn4 ρ := fun a b c d => f (a, b, c, d)
def blv {ρ : Type} : aiw bkf bp3 ρ := fun (a, b, c, d) next ex => xk a b c d (bqg next) (bqg ex)
def bpt {ρ : Type} := shut (lp (blv (ρ := ρ)))
theorem bre {ρ : Type} : bpt (ρ := ρ) = lp blv := ig _
def bm1 {ρ : Type} (f : ail bkf bp3 ρ) (a : Int) (b c d : List Int) (e : bn4 ρ) : Option ρ := f (a, b, c, d) (fun (a, b, c, d) => e a b c d)
def abl {ρ : Type} := bm1 (lp (blv (ρ := ρ)))
def qm {ρ : Type} := bm1 (bpt (ρ := ρ))
theorem adt {ρ : Type} : qm (ρ := ρ) = abl := congrArg bm1 bre
def wm {ρ : Type} (a f : Int) (b c d e p q : List Int) (k : (List Int) → Option ρ) : Option ρ := xw q (IntKind.i64.wrap (a.tdiv 8)) 0 a f b c d e p [0, 0, 0, 0, 0, 0, 0, 0] [0, 0, 0, 0, 0, 0, 0, 0, 0, 0, 0, 0, 0, 0, 0, 0] fun N O Q r g s t u v h i j => qj g 0 j i h r g s t u v h fun w y z l m A B C F G H n => qm 0 m l n fun I J M o => k o
def kr {ρ : Type} := shut (wm (ρ := ρ))
theorem aby {ρ : Type} (f : Int) (e : Int) (a : List Int) (b : List Int) (c : List Int) (d : List Int) (g : List Int) (h : List Int) (k : (List Int) → Option ρ) : kr f e a b c d g h k = wm f e a b c d g h k := by unfold kr; rw [ig]

abbrev bo0 (ρ : Type) := (List Int) → (List Int) → Int → Int → Int → (List Int) → (List Int) → (List Int) → (List Int) → (List Int) → (List Int) → (List Int) → Option ρ
def aa1 {ρ : Type} (l b : List Int) (a c d : Int) (e f g h i j k : List Int) (nx m : bo0 ρ) : Option ρ := br (decide (a < 8)) (br (decide (0 ≤ a)) (br (decide (a < (↑8 : Int))) (br (decide (0 ≤ a)) (br (decide (a < (↑8 : Int))) (nx l b (IntKind.i64.wrap (a + 1)) c d e f g h i j (k.set a.toNat (b.getD a.toNat 0))) none) none) none) none) (m l b a c d e f g h i j k)
abbrev bj6 := (List Int) × (List Int) × Int × Int × Int × (List Int) × (List Int) × (List Int) × (List Int) × (List Int) × (List Int) × (List Int)
abbrev bpz := bj6
def bpe {ρ : Type} (f : bj6 → Option ρ) : bo0 ρ := fun m k l a b c d e g h i j => f (m, k, l, a, b, c, d, e, g, h, i, j)
def bk4 {ρ : Type} : aiw bj6 bpz ρ := fun (l, j, k, a, b, c, d, e, f, g, h, i) next ex => aa1 l j k a b c d e f g h i (bpe next) (bpe ex)
def bnh {ρ : Type} := shut (lp (bk4 (ρ := ρ)))
theorem brf {ρ : Type} : bnh (ρ := ρ) = lp bk4 := ig _
def bmi {ρ : Type} (f : ail bj6 bpz ρ) (m k : List Int) (l a b : Int) (c d e g h i j : List Int) (n : bo0 ρ) : Option ρ := f (m, k, l, a, b, c, d, e, g, h, i, j) (fun (m, k, l, a, b, c, d, e, g, h, i, j) => n m k l a b c d e g h i j)
def ads {ρ : Type} := bmi (lp (bk4 (ρ := ρ)))
def aa8 {ρ : Type} := bmi (bnh (ρ := ρ))
theorem agt {ρ : Type} : aa8 (ρ := ρ) = ads := congrArg bmi brf
abbrev bo1 (ρ : Type) := (List Int) → Int → (List Int) → (List Int) → (List Int) → Int → Int → (List Int) → (List Int) → (List Int) → (List Int) → Option ρ
def aa2 {ρ : Type} (b : List Int) (a : Int) (i j k : List Int) (c d : Int) (e f g h : List Int) (nx l : bo1 ρ) : Option ρ := br (decide ((↑b.length : Int) ≥ a)) (br (decide (0 ≤ a)) (br (decide (a ≤ (↑b.length : Int))) (kr c d e f g h i (List.drop 0 (List.take a.toNat b)) fun m => br (decide (0 ≤ a)) (br (decide (a ≤ (↑b.length : Int))) (br (decide ((↑b.length : Int) ≤ (↑b.length : Int))) (nx (List.drop a.toNat (List.take (↑b.length : Int).toNat b)) a m j k c d e f g h) none) none) none) none) none) (l b a i j k c d e f g h)
abbrev blq := (List Int) × Int × (List Int) × (List Int) × (List Int) × Int × Int × (List Int) × (List Int) × (List Int) × (List Int)
abbrev bok := blq
def bod {ρ : Type} (f : blq → Option ρ) : bo1 ρ := fun l k a b c d e g h i j => f (l, k, a, b, c, d, e, g, h, i, j)
def bjn {ρ : Type} : aiw blq bok ρ := fun (k, j, a, b, c, d, e, f, g, h, i) next ex => aa2 k j a b c d e f g h i (bod next) (bod ex)
def boy {ρ : Type} := shut (lp (bjn (ρ := ρ)))
theorem brr {ρ : Type} : boy (ρ := ρ) = lp bjn := ig _
def bm3 {ρ : Type} (f : ail blq bok ρ) (l : List Int) (k : Int) (a b c : List Int) (d e : Int) (g h i j : List Int) (m : bo1 ρ) : Option ρ := f (l, k, a, b, c, d, e, g, h, i, j) (fun (l, k, a, b, c, d, e, g, h, i, j) => m l k a b c d e g h i j)
def ad4 {ρ : Type} := bm3 (lp (bjn (ρ := ρ)))
def aay {ρ : Type} := bm3 (boy (ρ := ρ))
theorem agp {ρ : Type} : aay (ρ := ρ) = ad4 := congrArg bm3 brr
abbrev bnz (ρ : Type) := (List Int) → (List Int) → Int → (List Int) → (List Int) → Option ρ
def aan {ρ : Type} (e b : List Int) (a : Int) (c d : List Int) (nx f : bnz ρ) : Option ρ := br (decide (a < 8)) (br (decide (0 ≤ a)) (br (decide (a < (↑8 : Int))) (br (decide (0 ≤ a)) (br (decide (a < (↑8 : Int))) (nx e b (IntKind.i64.wrap (a + 1)) (c.set a.toNat (b.getD a.toNat 0)) d) none) none) none) none) (f e b a c d)
abbrev bj0 := (List Int) × (List Int) × Int × (List Int) × (List Int)
abbrev bnr := bj0
def bn8 {ρ : Type} (f : bj0 → Option ρ) : bnz ρ := fun e c d a b => f (e, c, d, a, b)
def blh {ρ : Type} : aiw bj0 bnr ρ := fun (e, c, d, a, b) next ex => aan e c d a b (bn8 next) (bn8 ex)
def bpi {ρ : Type} := shut (lp (blh (ρ := ρ)))
theorem bq0 {ρ : Type} : bpi (ρ := ρ) = lp blh := ig _
def bmk {ρ : Type} (f : ail bj0 bnr ρ) (e c : List Int) (d : Int) (a b : List Int) (g : bnz ρ) : Option ρ := f (e, c, d, a, b) (fun (e, c, d, a, b) => g e c d a b)
def ac9 {ρ : Type} := bmk (lp (blh (ρ := ρ)))
def aam {ρ : Type} := bmk (bpi (ρ := ρ))
theorem aga {ρ : Type} : aam (ρ := ρ) = ac9 := congrArg bmk bq0
def aak {ρ : Type} (f e : Int) (a b c d g r : List Int) (k : (List Int) → (List Int) → Option ρ) : Option ρ := aa8 r g 0 f e a b c d g [0, 0, 0, 0, 0, 0, 0, 0] [0, 0, 0, 0, 0, 0, 0, 0] fun s O Q h t u v w y z i j => aay s (IntKind.i64.wrap (h * 2)) j i z h t u v w y fun l A m n o B C F G H I => aam l m 0 o n fun p J M q N => k q p
def ny {ρ : Type} := shut (aak (ρ := ρ))
theorem adu {ρ : Type} (f : Int) (e : Int) (a : List Int) (b : List Int) (c : List Int) (d : List Int) (g : List Int) (h : List Int) (k : (List Int) → (List Int) → Option ρ) : ny f e a b c d g h k = aak f e a b c d g h k := by unfold ny; rw [ig]

def alh {ρ : Type} (k : Int → Int → (List Int) → (List Int) → (List Int) → (List Int) → Option ρ) : Option ρ := k 64 80 [1, 8, 7] [19, 61, 6] [28, 34, 39] [14, 18, 41]
def abn {ρ : Type} := shut (alh (ρ := ρ))
theorem ano {ρ : Type}  (k : Int → Int → (List Int) → (List Int) → (List Int) → (List Int) → Option ρ) : abn  k = alh  k := by unfold abn; rw [ig]

def aky {ρ : Type} (a : Int) (b d : List Int) (c : Int) (e : List Int) (k : Int → (List Int) → (List Int) → Int → Option ρ) : Option ρ := jk [d, e] fun f => br (a == 1) (aa0 fun q r s t u v => og q r s t u v b f fun w y => jf y fun z => k a w z (IntKind.u64.wrap (c + IntKind.u64.wrap (↑e.length : Int)))) (abn fun g h i j l m => ny g h i j l m b f fun n o => jf o fun p => k a n p (IntKind.u64.wrap (c + IntKind.u64.wrap (↑e.length : Int))))
def ab9 {ρ : Type} := shut (aky (ρ := ρ))
theorem as5 {ρ : Type} (b : Int) (a : List Int) (c : List Int) (d : Int) (e : List Int) (k : Int → (List Int) → (List Int) → Int → Option ρ) : ab9 b a c d e k = aky b a c d e k := by unfold ab9; rw [ig]

def adl {ρ : Type} (a : Int) (k : Int → Option ρ) : Option ρ := br (a == 1) (k 64) (k 128)
def qg {ρ : Type} := shut (adl (ρ := ρ))
theorem ahq {ρ : Type} (a : Int) (k : Int → Option ρ) : qg a k = adl a k := by unfold qg; rw [ig]

abbrev bo2 (ρ : Type) := Int → (List Int) → Int → (List Int) → Int → (List Int) → Int → (List Int) → Option ρ
def akm {ρ : Type} (g : Int) (b : List Int) (a : Int) (c : List Int) (d : Int) (e : List Int) (f : Int) (h : List Int) (nx j : bo2 ρ) : Option ρ := br (decide (a < 8)) (br (decide (0 ≤ a)) (br (decide (a < (↑8 : Int))) (aad (b.getD a.toNat 0) (IntKind.i64.wrap (g.tdiv 16)) fun i => br (decide ((c.length + i.length) * 1 ≤ 140737488355328)) (nx g b (IntKind.i64.wrap (a + 1)) (c ++ i) d e f h) none) none) none) (j g b a c d e f h)
abbrev bkq := Int × (List Int) × Int × (List Int) × Int × (List Int) × Int × (List Int)
abbrev bqc := bkq
def bqi {ρ : Type} (f : bkq → Option ρ) : bo2 ρ := fun h d e g a b c i => f (h, d, e, g, a, b, c, i)
def blg {ρ : Type} : aiw bkq bqc ρ := fun (g, d, e, f, a, b, c, h) next ex => akm g d e f a b c h (bqi next) (bqi ex)
def bpm {ρ : Type} := shut (lp (blg (ρ := ρ)))
theorem brt {ρ : Type} : bpm (ρ := ρ) = lp blg := ig _
def bmj {ρ : Type} (f : ail bkq bqc ρ) (h : Int) (d : List Int) (e : Int) (g : List Int) (a : Int) (b : List Int) (c : Int) (i : List Int) (j : bo2 ρ) : Option ρ := f (h, d, e, g, a, b, c, i) (fun (h, d, e, g, a, b, c, i) => j h d e g a b c i)
def aql {ρ : Type} := bmj (lp (blg (ρ := ρ)))
def akd {ρ : Type} := bmj (bpm (ρ := ρ))
theorem ara {ρ : Type} : akd (ρ := ρ) = aql := congrArg bmj brt
def akx {ρ : Type} (c : Int) (e a : List Int) (d : Int) (k : (List Int) → Option ρ) : Option ρ := qg c fun b => br (decide (1 ≤ b)) (br (decide (b * (↑1 : Int) ≤ (↑140737488355328 : Int))) (br (decide (b = 0)) none (br (decide (0 ≤ IntKind.i64.wrap (IntKind.i64.wrap ((IntKind.i64.wrap (IntKind.i64.wrap (IntKind.i64.wrap (IntKind.i64.wrap (2 * b) - 1) - IntKind.i64.wrap (b.tdiv 8)) - (↑a.length : Int))).tmod b + IntKind.i64.wrap (b.tdiv 8)) - 8))) (br (decide ((1 + (IntKind.i64.wrap (IntKind.i64.wrap ((IntKind.i64.wrap (IntKind.i64.wrap (IntKind.i64.wrap (IntKind.i64.wrap (2 * b) - 1) - IntKind.i64.wrap (b.tdiv 8)) - (↑a.length : Int))).tmod b + IntKind.i64.wrap (b.tdiv 8)) - 8)).toNat) * 1 ≤ 140737488355328)) (aad (IntKind.u64.wrap (d * 2 ^ 3)) 8 fun g => br (decide ((((List.replicate (IntKind.i64.wrap (IntKind.i64.wrap ((IntKind.i64.wrap (IntKind.i64.wrap (IntKind.i64.wrap (IntKind.i64.wrap (2 * b) - 1) - IntKind.i64.wrap (b.tdiv 8)) - (↑a.length : Int))).tmod b + IntKind.i64.wrap (b.tdiv 8)) - 8)).toNat (0 : Int)).length.add 0).succ + g.length) * 1 ≤ 140737488355328)) (ab9 c e a d ((List.replicate 1 (0 : Int)).set 0 128 ++ List.replicate (IntKind.i64.wrap (IntKind.i64.wrap ((IntKind.i64.wrap (IntKind.i64.wrap (IntKind.i64.wrap (IntKind.i64.wrap (2 * b) - 1) - IntKind.i64.wrap (b.tdiv 8)) - (↑a.length : Int))).tmod b + IntKind.i64.wrap (b.tdiv 8)) - 8)).toNat (0 : Int) ++ g) fun j h l m => akd b h 0 [] j h m l fun q r s f i n o p => br (i == 2) (br (decide (48 ≤ (↑f.length : Int))) (k (List.take ((48 : Int) - (0 : Int)).toNat f)) none) (k f)) none) none) none)) none) none
def ae6 {ρ : Type} := shut (akx (ρ := ρ))
theorem as3 {ρ : Type} (b : Int) (a : List Int) (c : List Int) (d : Int) (k : (List Int) → Option ρ) : ae6 b a c d k = akx b a c d k := by unfold ae6; rw [ig]

def akp {ρ : Type} (b : Int) (c : List Int) (k : (List Int) → Int → Option ρ) : Option ρ := aex b fun d e f g a => br (a != 0) (k [] a) (ab9 d e f g c fun h i j l => ae6 h i j l fun m => k m 0)
def acf {ρ : Type} := shut (akp (ρ := ρ))
theorem asb {ρ : Type} (a : Int) (b : List Int) (k : (List Int) → Int → Option ρ) : acf a b k = akp a b k := by unfold acf; rw [ig]

abbrev bp0 (ρ : Type) := (List Int) → (List Int) → Int → Int → Int → Option ρ
def aij {ρ : Type} (c d : List Int) (e b a : Int) (nx f : bp0 ρ) : Option ρ := br (decide (a < b)) (br (decide (0 ≤ a)) (br (decide (a < (↑c.length : Int))) (br (decide (0 ≤ a)) (br (decide (a < (↑d.length : Int))) (nx c d (bits BinOp.or IntKind.u8 e (bits BinOp.xor IntKind.u8 (c.getD a.toNat 0) (d.getD a.toNat 0))) b (IntKind.i64.wrap (a + 1))) none) none) none) none) (f c d e b a)
abbrev bjf := (List Int) × (List Int) × Int × Int × Int
abbrev boj := bjf
def bpl {ρ : Type} (f : bjf → Option ρ) : bp0 ρ := fun c d e a b => f (c, d, e, a, b)
def bj3 {ρ : Type} : aiw bjf boj ρ := fun (c, d, e, a, b) next ex => aij c d e a b (bpl next) (bpl ex)
def bo5 {ρ : Type} := shut (lp (bj3 (ρ := ρ)))
theorem brd {ρ : Type} : bo5 (ρ := ρ) = lp bj3 := ig _
def bmm {ρ : Type} (f : ail bjf boj ρ) (c d : List Int) (e a b : Int) (g : bp0 ρ) : Option ρ := f (c, d, e, a, b) (fun (c, d, e, a, b) => g c d e a b)
def anv {ρ : Type} := bmm (lp (bj3 (ρ := ρ)))
def an1 {ρ : Type} := bmm (bo5 (ρ := ρ))
theorem ao8 {ρ : Type} : an1 (ρ := ρ) = anv := congrArg bmm brd
def ahi {ρ : Type} (a b : List Int) (k : Bool → Option ρ) : Option ρ := br ((↑a.length : Int) != (↑b.length : Int)) (k false) (an1 a b 0 (↑a.length : Int) 0 fun d e c f g => k (c == 0))
def aa3 {ρ : Type} := shut (ahi (ρ := ρ))
theorem anm {ρ : Type} (a : List Int) (b : List Int) (k : Bool → Option ρ) : aa3 a b k = ahi a b k := by unfold aa3; rw [ig]

def ae8 {ρ : Type} (a : List Int) (k : Int → Int → Bool → Option ρ) : Option ρ := br ((↑a.length : Int) != 48) (k 0 0 false) (br (decide (16 ≤ (↑a.length : Int))) (acf 1 (List.drop 0 (List.take (Int.toNat 16) a)) fun b f => br (decide (16 ≤ (↑a.length : Int))) (br (decide ((↑a.length : Int) ≤ (↑a.length : Int))) (aa3 b (List.drop 16 (List.take (↑a.length : Int).toNat a)) fun c => br (!c) (k 0 0 false) (br (decide (8 ≤ (↑a.length : Int))) (rz (List.drop 0 (List.take (Int.toNat 8) a)) fun d => br (decide (16 ≤ (↑a.length : Int))) (rz (List.drop 8 (List.take (Int.toNat 16) a)) fun e => k d e true) none) none)) none) none) none)
def mh {ρ : Type} := shut (ae8 (ρ := ρ))
theorem ajr {ρ : Type} (a : List Int) (k : Int → Int → Bool → Option ρ) : mh a k = ae8 a k := by unfold mh; rw [ig]

abbrev bns (ρ : Type) := (List Int) → (List Int) → Int → Int → Int → Int → Int → Int → Int → Option ρ
def ab5 {ρ : Type} (a b : List Int) (e c d f h i g : Int) (nx n : bns ρ) : Option ρ := br (decide (e < 2)) (br (decide (e = (↑0 : Int))) (mh a fun j l o => br o (br (g != 0) (nx a b (IntKind.i64.wrap (e + 1)) c d j l e 0) (br (decide (j > f)) (nx a b (IntKind.i64.wrap (e + 1)) c d j l e 0) (nx a b (IntKind.i64.wrap (e + 1)) c d f h i g))) (nx a b (IntKind.i64.wrap (e + 1)) c d f h i g)) (br (decide (e = (↑1 : Int))) (mh b fun k m p => br p (br (g != 0) (nx a b (IntKind.i64.wrap (e + 1)) c d k m e 0) (br (decide (k > f)) (nx a b (IntKind.i64.wrap (e + 1)) c d k m e 0) (nx a b (IntKind.i64.wrap (e + 1)) c d f h i g))) (nx a b (IntKind.i64.wrap (e + 1)) c d f h i g)) none)) (n a b e c d f h i g)
abbrev blf := (List Int) × (List Int) × Int × Int × Int × Int × Int × Int × Int
abbrev bom := blf
def bql {ρ : Type} (f : blf → Option ρ) : bns ρ := fun a b j c d e g h i => f (a, b, j, c, d, e, g, h, i)
def bkx {ρ : Type} : aiw blf bom ρ := fun (a, b, i, c, d, e, f, g, h) next ex => ab5 a b i c d e f g h (bql next) (bql ex)
def boz {ρ : Type} := shut (lp (bkx (ρ := ρ)))
theorem bru {ρ : Type} : boz (ρ := ρ) = lp bkx := ig _
def bmf {ρ : Type} (f : ail blf bom ρ) (a b : List Int) (j c d e g h i : Int) (k : bns ρ) : Option ρ := f (a, b, j, c, d, e, g, h, i) (fun (a, b, j, c, d, e, g, h, i) => k a b j c d e g h i)
def ahj {ρ : Type} := bmf (lp (bkx (ρ := ρ)))
def aht {ρ : Type} := bmf (boz (ρ := ρ))
theorem akg {ρ : Type} : aht (ρ := ρ) = ahj := congrArg bmf bru
def ae5 {ρ : Type} (a b : List Int) (k : Int → Int → Int → Int → Option ρ) : Option ρ := aht a b 0 0 0 0 0 0 21 fun g h i j l c d e f => k c d e f
def dz {ρ : Type} := shut (ae5 (ρ := ρ))
theorem aju {ρ : Type} (a : List Int) (b : List Int) (k : Int → Int → Int → Int → Option ρ) : dz a b k = ae5 a b k := by unfold dz; rw [ig]

def af6 {ρ : Type} (a b : List Int) (c d : Int) (k : (List Int) → (List Int) → Int → Int → Int → Int → Bool → Int → Option ρ) : Option ρ := br (decide (c > 1152921504606846976)) (k [] [] 0 0 0 0 false 8) (br (decide (d < 1)) (k [] [] 0 0 0 0 false 8) (br (decide (d > 4294967296)) (k [] [] 0 0 0 0 false 8) (dz a b fun g e j f => br (f != 0) (k [] [] 0 0 0 0 false f) (br (decide (e > c)) (k [] [] 0 0 0 0 false 8) (br (decide (g ≥ 1152921504606846976)) (k [] [] 0 0 0 0 false 8) (jf a fun h => jf b fun i => k h i c d e e true 0))))))
def je {ρ : Type} := shut (af6 (ρ := ρ))
theorem amf {ρ : Type} (a : List Int) (b : List Int) (c : Int) (d : Int) (k : (List Int) → (List Int) → Int → Int → Int → Int → Bool → Int → Option ρ) : je a b c d k = af6 a b c d k := by unfold je; rw [ig]

def ahb {ρ : Type} (a : List (List Int)) (k : (List Int) → Option ρ) : Option ρ := jk a fun b => k b
def abd {ρ : Type} := shut (ahb (ρ := ρ))
theorem anj {ρ : Type} (a : List (List Int)) (k : (List Int) → Option ρ) : abd a k = ahb a k := by unfold abd; rw [ig]

def ad8 {ρ : Type} (a b : Int) (k : (List Int) → Option ρ) : Option ρ := aad a 8 fun e => aad b 8 fun f => abd [e, f] fun c => acf 1 c fun d g => br (decide ((c.length + d.length) * 1 ≤ 140737488355328)) (k (c ++ d)) none
def l9 {ρ : Type} := shut (ad8 (ρ := ρ))
theorem ai4 {ρ : Type} (a : Int) (b : Int) (k : (List Int) → Option ρ) : l9 a b k = ad8 a b k := by unfold l9; rw [ig]

def af8 {ρ : Type} (k : (List Int) → (List Int) → Option ρ) : Option ρ := l9 0 0 fun a => l9 0 0 fun b => k a b
def zl {ρ : Type} := shut (af8 (ρ := ρ))
theorem alc {ρ : Type}  (k : (List Int) → (List Int) → Option ρ) : zl  k = af8  k := by unfold zl; rw [ig]

def ag5 {ρ : Type} (a b : Int) (k : (List Int) → (List Int) → Int → Int → Int → Int → Bool → Int → Option ρ) : Option ρ := zl fun c d => je c d a b fun e f g h i j l m => k e f g h i j l m
def xq {ρ : Type} := shut (ag5 (ρ := ρ))
theorem anp {ρ : Type} (a : Int) (b : Int) (k : (List Int) → (List Int) → Int → Int → Int → Int → Bool → Int → Option ρ) : xq a b k = ag5 a b k := by unfold xq; rw [ig]

def ade {ρ : Type} (a b : List Int) (k : (List Int) → (List Int) → Option ρ) : Option ρ := jf a fun c => jf b fun d => k c d
def ng {ρ : Type} := shut (ade (ρ := ρ))
theorem aho {ρ : Type} (a : List Int) (b : List Int) (k : (List Int) → (List Int) → Option ρ) : ng a b k = ade a b k := by unfold ng; rw [ig]

def afh {ρ : Type} (a b h : List Int) (k : (List Int) → (List Int) → Int → Int → Option ρ) : Option ρ := ng a b fun d e => dz a b fun i j c f => br (f != 0) (k d e 0 f) (jf h fun g => br (decide (IntKind.i64.wrap (1 - c) = (↑0 : Int))) (k g e (IntKind.i64.wrap (1 - c)) 0) (br (decide (IntKind.i64.wrap (1 - c) = (↑1 : Int))) (k d g (IntKind.i64.wrap (1 - c)) 0) none))
def pz {ρ : Type} := shut (afh (ρ := ρ))
theorem ajq {ρ : Type} (a : List Int) (b : List Int) (c : List Int) (k : (List Int) → (List Int) → Int → Int → Option ρ) : pz a b c k = afh a b c k := by unfold pz; rw [ig]

def aef {ρ : Type} (c d : List Int) (a b : Int) (k : (List Int) → (List Int) → Int → Int → Option ρ) : Option ρ := l9 a b fun e => pz c d e fun f g h i => k f g h i
def eu {ρ : Type} := shut (aef (ρ := ρ))
theorem aix {ρ : Type} (c : List Int) (d : List Int) (a : Int) (b : Int) (k : (List Int) → (List Int) → Int → Int → Option ρ) : eu c d a b k = aef c d a b k := by unfold eu; rw [ig]

def afe {ρ : Type} (a b : List Int) (c d f : Int) (i : List Int) (k : (List Int) → (List Int) → Int → Option ρ) : Option ρ := ng a b fun g h => br (f == 1) (eu a b c d fun j l t m => k j l m) (br (f == 2) (pz a b i fun n o u p => k n o p) (dz a b fun q r s e => br (e == 0) (br (f != 0) (k g h 8) (k g h e)) (k g h e)))
def jd {ρ : Type} := shut (afe (ρ := ρ))
theorem ajw {ρ : Type} (c : List Int) (d : List Int) (a : Int) (b : Int) (e : Int) (f : List Int) (k : (List Int) → (List Int) → Int → Option ρ) : jd c d a b e f k = afe c d a b e f k := by unfold jd; rw [ig]

def agd {ρ : Type} (e f : List Int) (a c d b : Int) (g : Bool) (k : (List Int) → (List Int) → Int → Int → Int → Int → Bool → Int → Int → Option ρ) : Option ρ := br (!g) (k e f a c d b g 0 21) (br (d == b) (br (!g) (k e f a c d b g 0 21) (br (b == a) (k e f a c d b g 0 13) (dz e f fun l r s j => br (j != 0) (br (j != 0) (br (j != 0) (k e f a c d b g 0 j) (k e f a c (IntKind.u64.wrap (d + 1)) b g (IntKind.u64.wrap (IntKind.u64.wrap (d + 1) - 1)) 0)) (eu e f 0 0 fun m n t i => br (i == 0) (br (i != 0) (k m n a c d 0 g 0 i) (k m n a c (IntKind.u64.wrap (d + 1)) 0 g (IntKind.u64.wrap (IntKind.u64.wrap (d + 1) - 1)) 0)) (br (i != 0) (k e f a c d b g 0 i) (k e f a c (IntKind.u64.wrap (d + 1)) b g (IntKind.u64.wrap (IntKind.u64.wrap (d + 1) - 1)) 0)))) (br (decide (l ≥ 1152921504606846976)) (k e f a c d b g 0 8) (eu e f (IntKind.u64.wrap (l + 1)) (IntKind.u64.wrap (b + bif decide (IntKind.u64.wrap (a - b) < c) then IntKind.u64.wrap (a - b) else c)) fun o p q h => br (h == 0) (br (h != 0) (k o p a c d (IntKind.u64.wrap (b + bif decide (IntKind.u64.wrap (a - b) < c) then IntKind.u64.wrap (a - b) else c)) g 0 h) (k o p a c (IntKind.u64.wrap (d + 1)) (IntKind.u64.wrap (b + bif decide (IntKind.u64.wrap (a - b) < c) then IntKind.u64.wrap (a - b) else c)) g (IntKind.u64.wrap (IntKind.u64.wrap (d + 1) - 1)) 0)) (br (h != 0) (k e f a c d b g 0 h) (k e f a c (IntKind.u64.wrap (d + 1)) b g (IntKind.u64.wrap (IntKind.u64.wrap (d + 1) - 1)) 0))))))) (k e f a c (IntKind.u64.wrap (d + 1)) b g (IntKind.u64.wrap (IntKind.u64.wrap (d + 1) - 1)) 0))
def qy {ρ : Type} := shut (agd (ρ := ρ))
theorem alu {ρ : Type} (a : List Int) (b : List Int) (c : Int) (d : Int) (f : Int) (e : Int) (g : Bool) (k : (List Int) → (List Int) → Int → Int → Int → Int → Bool → Int → Int → Option ρ) : qy a b c d f e g k = agd a b c d f e g k := by unfold qy; rw [ig]

def ah0 {ρ : Type} (d e : List Int) (a b f c : Int) (g : Bool) (h j : Int) (l : List Int) (k : (List Int) → (List Int) → Int → Int → Int → Int → Bool → (List Int) → Int → Option ρ) : Option ρ := br (h == 1) (br (!g) (k d e a b f c g [] 21) (br (f == c) (br (!g) (k d e a b f c g [] 21) (br (c == a) (k d e a b f c g [] 13) (dz d e fun C q1 q2 n => br (n != 0) (br (n != 0) (br (n != 0) (br (n != 0) (k d e a b f c g [] n) (k d e a b f c g [0] 0)) (k d e a b (IntKind.u64.wrap (f + 1)) c g [IntKind.u64.wrap (IntKind.u64.wrap (f + 1) - 1)] 0)) (eu d e 0 0 fun y z q6 m => br (m == 0) (br (m != 0) (br (m != 0) (k y z a b f 0 g [] m) (k y z a b f 0 g [0] 0)) (k y z a b (IntKind.u64.wrap (f + 1)) 0 g [IntKind.u64.wrap (IntKind.u64.wrap (f + 1) - 1)] 0)) (br (m != 0) (br (m != 0) (k d e a b f c g [] m) (k d e a b f c g [0] 0)) (k d e a b (IntKind.u64.wrap (f + 1)) c g [IntKind.u64.wrap (IntKind.u64.wrap (f + 1) - 1)] 0)))) (br (decide (C ≥ 1152921504606846976)) (k d e a b f c g [] 8) (eu d e (IntKind.u64.wrap (C + 1)) (IntKind.u64.wrap (c + bif decide (IntKind.u64.wrap (a - c) < b) then IntKind.u64.wrap (a - c) else b)) fun A B ad i => br (i == 0) (br (i != 0) (br (i != 0) (k A B a b f (IntKind.u64.wrap (c + bif decide (IntKind.u64.wrap (a - c) < b) then IntKind.u64.wrap (a - c) else b)) g [] i) (k A B a b f (IntKind.u64.wrap (c + bif decide (IntKind.u64.wrap (a - c) < b) then IntKind.u64.wrap (a - c) else b)) g [0] 0)) (k A B a b (IntKind.u64.wrap (f + 1)) (IntKind.u64.wrap (c + bif decide (IntKind.u64.wrap (a - c) < b) then IntKind.u64.wrap (a - c) else b)) g [IntKind.u64.wrap (IntKind.u64.wrap (f + 1) - 1)] 0)) (br (i != 0) (br (i != 0) (k d e a b f c g [] i) (k d e a b f c g [0] 0)) (k d e a b (IntKind.u64.wrap (f + 1)) c g [IntKind.u64.wrap (IntKind.u64.wrap (f + 1) - 1)] 0))))))) (k d e a b (IntKind.u64.wrap (f + 1)) c g [IntKind.u64.wrap (IntKind.u64.wrap (f + 1) - 1)] 0))) (br (h == 3) (br (!g) (k d e a b f c g [] 21) (br (c == a) (k d e a b f c g [] 13) (dz d e fun v ae af o => br (o != 0) (br (o != 0) (k d e a b f c g [] o) (jd d e 0 0 j l fun F G p => br (p == 0) (k F G a b 0 0 false [] p) (k d e a b f c g [] p))) (br (decide (v ≥ 1152921504606846976)) (k d e a b f c g [] 8) (jd d e (IntKind.u64.wrap (v + 1)) (IntKind.u64.wrap (c + bif decide (IntKind.u64.wrap (a - c) < b) then IntKind.u64.wrap (a - c) else b)) j l fun H I q => br (q == 0) (k H I a b 0 0 false [] q) (k d e a b f c g [] q)))))) (br (h == 4) (k d e a b 0 0 false [] 0) (br (h == 2) (br (!g) (k d e a b f c g [] 21) (br (c == a) (k d e a b f c g [] 13) (dz d e fun w ag ah r => br (r != 0) (br (r != 0) (k d e a b f c g [] r) (eu d e 0 0 fun J M ai s => br (s == 0) (k J M a b f 0 g [] s) (k d e a b f c g [] s))) (br (decide (w ≥ 1152921504606846976)) (k d e a b f c g [] 8) (eu d e (IntKind.u64.wrap (w + 1)) (IntKind.u64.wrap (c + bif decide (IntKind.u64.wrap (a - c) < b) then IntKind.u64.wrap (a - c) else b)) fun N O aj t => br (t == 0) (k N O a b f (IntKind.u64.wrap (c + bif decide (IntKind.u64.wrap (a - c) < b) then IntKind.u64.wrap (a - c) else b)) g [] t) (k d e a b f c g [] t)))))) (br (h == 5) (br g (k d e a b f c g [] 0) (je d e a b fun Q U W Z aa ab ac u => br (u == 0) (k Q U W Z aa ab ac [] u) (k d e a b f c g [] u))) (k d e a b f c g [] 1)))))
def zq {ρ : Type} := shut (ah0 (ρ := ρ))
theorem aq3 {ρ : Type} (a : List Int) (b : List Int) (c : Int) (d : Int) (f : Int) (e : Int) (j : Bool) (g : Int) (h : Int) (i : List Int) (k : (List Int) → (List Int) → Int → Int → Int → Int → Bool → (List Int) → Int → Option ρ) : zq a b c d f e j g h i k = ah0 a b c d f e j g h i k := by unfold zq; rw [ig]

abbrev bn9 (ρ : Type) := Nat → (List Int) → (List Int) → (List (List Int)) → Int → Int → (List Int) → (List Int) → (List Int) → Int → Int → Int → Int → Bool → Int → Int → Int → Int → Bool → Option ρ
def ag7 {ρ : Type} (b : Nat) (c d : List Int) (e : List (List Int)) (f a : Int) (s g h : List Int) (i j k l : Int) (m : Bool) (n o p q : Int) (r : Bool) (nx u : bn9 ρ) : Option ρ := br (decide (a < f)) (br (decide (0 ≤ a)) (br (decide (a < (↑b : Int))) (zq g h i j k l m (c.getD a.toNat 0) (d.getD a.toNat 0) (e.getD a.toNat []) fun v w y z A B C t F => br (decide ((s.length + t.length) * 8 ≤ 140737488355328)) (nx b c d e f (IntKind.i64.wrap (a + 1)) (s ++ t) v w y z A B C n o p q r) none) none) none) (u b c d e f a s g h i j k l m n o p q r)
abbrev bl0 := Nat × (List Int) × (List Int) × (List (List Int)) × Int × Int × (List Int) × (List Int) × (List Int) × Int × Int × Int × Int × Bool × Int × Int × Int × Int × Bool
abbrev bpj := bl0
def bqv {ρ : Type} (f : bl0 → Option ρ) : bn9 ρ := fun a b c d r s t e g h i j k l m n o p q => f (a, b, c, d, r, s, t, e, g, h, i, j, k, l, m, n, o, p, q)
def bk7 {ρ : Type} : aiw bl0 bpj ρ := fun (a, b, c, d, q, r, s, e, f, g, h, i, j, k, l, m, n, o, p) next ex => ag7 a b c d q r s e f g h i j k l m n o p (bqv next) (bqv ex)
def bnx {ρ : Type} := shut (lp (bk7 (ρ := ρ)))
theorem bq4 {ρ : Type} : bnx (ρ := ρ) = lp bk7 := ig _
def bm7 {ρ : Type} (f : ail bl0 bpj ρ) (a : Nat) (b c : List Int) (d : List (List Int)) (r s : Int) (t e g : List Int) (h i j k : Int) (l : Bool) (m n o p : Int) (q : Bool) (u : bn9 ρ) : Option ρ := f (a, b, c, d, r, s, t, e, g, h, i, j, k, l, m, n, o, p, q) (fun (a, b, c, d, r, s, t, e, g, h, i, j, k, l, m, n, o, p, q) => u a b c d r s t e g h i j k l m n o p q)
def al4 {ρ : Type} := bm7 (lp (bk7 (ρ := ρ)))
def als {ρ : Type} := bm7 (bnx (ρ := ρ))
theorem aoe {ρ : Type} : als (ρ := ρ) = al4 := congrArg bm7 bq4
def af7 {ρ : Type} (a b : List Int) (c d f e : Int) (g : Bool) (h : Nat) (i j : List Int) (l : List (List Int)) (k : (List Int) → (List Int) → Int → Int → Int → Int → Bool → (List Int) → Option ρ) : Option ρ := als h i j l (↑h : Int) 0 [] a b c d f e g 0 0 0 0 false fun A B C F G H q r s t m n o p u v w y z => k r s t m n o p q
def zk {ρ : Type} := shut (af7 (ρ := ρ))
theorem alm {ρ : Type} (a : List Int) (b : List Int) (c : Int) (d : Int) (f : Int) (e : Int) (g : Bool) (h : Nat) (i : List Int) (j : List Int) (l : List (List Int)) (k : (List Int) → (List Int) → Int → Int → Int → Int → Bool → (List Int) → Option ρ) : zk a b c d f e g h i j l k = af7 a b c d f e g h i j l k := by unfold zk; rw [ig]

def agy {ρ : Type} (k : Bool → Option ρ) : Option ρ := xq (5 : Int) (2 : Int) fun h i j l m n o p => zk h i j l m n o 6 [(1 : Int), (1 : Int), (1 : Int), (4 : Int), (5 : Int), (1 : Int)] [(0 : Int), (0 : Int), (0 : Int), (0 : Int), (0 : Int), (0 : Int)] [[], [], [], [], [], []] fun q r b c d e f a => qy q r b c d e f fun s t u v w y z A g => br (p == (0 : Int)) (br ((↑a.length : Int) == (4 : Int)) (br (decide ((0 : Int) < (↑a.length : Int))) (br (a.getD 0 (0 : Int) == (0 : Int)) (br (decide ((1 : Int) < (↑a.length : Int))) (br (a.getD 1 (0 : Int) == (1 : Int)) (br (decide ((2 : Int) < (↑a.length : Int))) (br (a.getD 2 (0 : Int) == (2 : Int)) (br (decide ((3 : Int) < (↑a.length : Int))) (br (a.getD 3 (0 : Int) == (4 : Int)) (k (g == (13 : Int))) (k false)) none) (k false)) none) (k false)) none) (k false)) none) (k false)) (k false)
def uh {ρ : Type} := shut (agy (ρ := ρ))
theorem an3 {ρ : Type}  (k : Bool → Option ρ) : uh  k = agy  k := by unfold uh; rw [ig]

abbrev boq (ρ : Type) := (List (List Int)) → Int → (List Int) → Option ρ
def akv {ρ : Type} (b : List (List Int)) (a : Int) (c : List Int) (nx d : boq ρ) : Option ρ := br (decide (a < (↑b.length : Int))) (br (decide (0 ≤ a)) (br (decide (a < (↑b.length : Int))) (br (decide ((c.length + (b.getD a.toNat []).length) * 1 ≤ 140737488355328)) (nx b (IntKind.i64.wrap (a + 1)) (c ++ b.getD a.toNat [])) none) none) none) (d b a c)
abbrev blb := (List (List Int)) × Int × (List Int)
abbrev bqf := blb
def bn6 {ρ : Type} (f : blb → Option ρ) : boq ρ := fun a b c => f (a, b, c)
def blc {ρ : Type} : aiw blb bqf ρ := fun (a, b, c) next ex => akv a b c (bn6 next) (bn6 ex)
def bp6 {ρ : Type} := shut (lp (blc (ρ := ρ)))
theorem bq5 {ρ : Type} : bp6 (ρ := ρ) = lp blc := ig _
def bmn {ρ : Type} (f : ail blb bqf ρ) (a : List (List Int)) (b : Int) (c : List Int) (d : boq ρ) : Option ρ := f (a, b, c) (fun (a, b, c) => d a b c)
def aqo {ρ : Type} := bmn (lp (blc (ρ := ρ)))
def aqz {ρ : Type} := bmn (bp6 (ρ := ρ))
theorem arf {ρ : Type} : aqz (ρ := ρ) = aqo := congrArg bmn bq5
def ah9 {ρ : Type} (a : List (List Int)) (k : (List Int) → Option ρ) : Option ρ := aqz a 0 [] fun c d b => k b
def z8 {ρ : Type} := shut (ah9 (ρ := ρ))
theorem ap0 {ρ : Type} (a : List (List Int)) (k : (List Int) → Option ρ) : z8 a k = ah9 a k := by unfold z8; rw [ig]

abbrev bnm (ρ : Type) := Int → Int → (List Int) → Option ρ
def apl {ρ : Type} (b a : Int) (c : List Int) (nx d : bnm ρ) : Option ρ := br (decide (a ≥ 0)) (br (decide (0 ≤ a)) (br (decide (a < (↑c.length : Int))) (nx (b.fdiv (2 ^ 8)) (IntKind.i64.wrap (a - 1)) (c.set a.toNat (IntKind.u8.wrap (bits BinOp.and IntKind.u64 b 255)))) none) none) (d b a c)
abbrev blw := Int × Int × (List Int)
abbrev bpn := blw
def bpa {ρ : Type} (f : blw → Option ρ) : bnm ρ := fun a b c => f (a, b, c)
def bjx {ρ : Type} : aiw blw bpn ρ := fun (a, b, c) next ex => apl a b c (bpa next) (bpa ex)
def bob {ρ : Type} := shut (lp (bjx (ρ := ρ)))
theorem brv {ρ : Type} : bob (ρ := ρ) = lp bjx := ig _
def bmz {ρ : Type} (f : ail blw bpn ρ) (a b : Int) (c : List Int) (d : bnm ρ) : Option ρ := f (a, b, c) (fun (a, b, c) => d a b c)
def aw6 {ρ : Type} := bmz (lp (bjx (ρ := ρ)))
def avj {ρ : Type} := bmz (bob (ρ := ρ))
theorem au8 {ρ : Type} : avj (ρ := ρ) = aw6 := congrArg bmz brv
def am7 {ρ : Type} (b a : Int) (k : (List Int) → Option ρ) : Option ρ := br (decide (a < 0)) (k []) (br (decide (a > 65536)) (k []) (br (decide (0 ≤ a)) (br (decide (a ≤ a)) (br (decide (a * (↑1 : Int) ≤ (↑140737488355328 : Int))) (avj b (IntKind.i64.wrap (a - 1)) (List.replicate a.toNat (0 : Int)) fun d e c => k c) none) none) none))
def abm {ρ : Type} := shut (am7 (ρ := ρ))
theorem awl {ρ : Type} (a : Int) (b : Int) (k : (List Int) → Option ρ) : abm a b k = am7 a b k := by unfold abm; rw [ig]

def akr {ρ : Type} (a : Int) (k : Int → (List Int) → (List Int) → Int → Int → Option ρ) : Option ρ := br (a == 1) (k a [1779033703, 3144134277, 1013904242, 2773480762, 1359893119, 2600822924, 528734635, 1541459225] [] 0 0) (br (a == 2) (k a [14680500436340154072, 7105036623409894663, 10473403895298186519, 1526699215303891257, 7436329637833083697, 10282925794625328401, 15784041429090275239, 5167115440072839076] [] 0 0) (br (a == 3) (k a [7640891576956012808, 13503953896175478587, 4354685564936845355, 11912009170470909681, 5840696475078001361, 11170449401992604703, 2270897969802886507, 6620516959819538809] [] 0 0) (k 0 [0, 0, 0, 0, 0, 0, 0, 0] [] 0 9)))
def ae9 {ρ : Type} := shut (akr (ρ := ρ))
theorem asv {ρ : Type} (a : Int) (k : Int → (List Int) → (List Int) → Int → Int → Option ρ) : ae9 a k = akr a k := by unfold ae9; rw [ig]

def ahg {ρ : Type} (a : Int) (k : Int → Option ρ) : Option ρ := br (a == 1) (k 64) (k 128)
def vk {ρ : Type} := shut (ahg (ρ := ρ))
theorem anl {ρ : Type} (a : Int) (k : Int → Option ρ) : vk a k = ahg a k := by unfold vk; rw [ig]

def ahk {ρ : Type} (k : (List Int) → Option ρ) : Option ρ := k [1116352408, 1899447441, 3049323471, 3921009573, 961987163, 1508970993, 2453635748, 2870763221, 3624381080, 310598401, 607225278, 1426881987, 1925078388, 2162078206, 2614888103, 3248222580, 3835390401, 4022224774, 264347078, 604807628, 770255983, 1249150122, 1555081692, 1996064986, 2554220882, 2821834349, 2952996808, 3210313671, 3336571891, 3584528711, 113926993, 338241895, 666307205, 773529912, 1294757372, 1396182291, 1695183700, 1986661051, 2177026350, 2456956037, 2730485921, 2820302411, 3259730800, 3345764771, 3516065817, 3600352804, 4094571909, 275423344, 430227734, 506948616, 659060556, 883997877, 958139571, 1322822218, 1537002063, 1747873779, 1955562222, 2024104815, 2227730452, 2361852424, 2428436474, 2756734187, 3204031479, 3329325298]
def u7 {ρ : Type} := shut (ahk (ρ := ρ))
theorem ae3 {ρ : Type}  (k : (List Int) → Option ρ) : u7  k = ahk  k := by unfold u7; rw [ig]

def ahm {ρ : Type} (k : (List Int) → Option ρ) : Option ρ := k [4794697086780616226, 8158064640168781261, 13096744586834688815, 16840607885511220156, 4131703408338449720, 6480981068601479193, 10538285296894168987, 12329834152419229976, 15566598209576043074, 1334009975649890238, 2608012711638119052, 6128411473006802146, 8268148722764581231, 9286055187155687089, 11230858885718282805, 13951009754708518548, 16472876342353939154, 17275323862435702243, 1135362057144423861, 2597628984639134821, 3308224258029322869, 5365058923640841347, 6679025012923562964, 8573033837759648693, 10970295158949994411, 12119686244451234320, 12683024718118986047, 13788192230050041572, 14330467153632333762, 15395433587784984357, 489312712824947311, 1452737877330783856, 2861767655752347644, 3322285676063803686, 5560940570517711597, 5996557281743188959, 7280758554555802590, 8532644243296465576, 9350256976987008742, 10552545826968843579, 11727347734174303076, 12113106623233404929, 14000437183269869457, 14369950271660146224, 15101387698204529176, 15463397548674623760, 17586052441742319658, 1182934255886127544, 1847814050463011016, 2177327727835720531, 2830643537854262169, 3796741975233480872, 4115178125766777443, 5681478168544905931, 6601373596472566643, 7507060721942968483, 8399075790359081724, 8693463985226723168, 9568029438360202098, 10144078919501101548, 10430055236837252648, 11840083180663258601, 13761210420658862357, 14299343276471374635, 14566680578165727644, 15097957966210449927, 16922976911328602910, 17689382322260857208, 500013540394364858, 748580250866718886, 1242879168328830382, 1977374033974150939, 2944078676154940804, 3659926193048069267, 4368137639120453308, 4836135668995329356, 5532061633213252278, 6448918945643986474, 6902733635092675308, 7801388544844847127]
def vg {ρ : Type} := shut (ahm (ρ := ρ))
theorem ae2 {ρ : Type}  (k : (List Int) → Option ρ) : vg  k = ahm  k := by unfold vg; rw [ig]

abbrev bnv (ρ : Type) := (List Int) → Int → Int → Option ρ
def am0 {ρ : Type} (b : List Int) (c a : Int) (nx d : bnv ρ) : Option ρ := br (decide (a < (↑b.length : Int))) (br (decide (0 ≤ a)) (br (decide (a < (↑b.length : Int))) (nx b (IntKind.u64.wrap (IntKind.u64.wrap (c * 256) + IntKind.u64.wrap (b.getD a.toNat 0))) (IntKind.i64.wrap (a + 1))) none) none) (d b c a)
abbrev bjz := (List Int) × Int × Int
abbrev bqo := bjz
def bqr {ρ : Type} (f : bjz → Option ρ) : bnv ρ := fun a b c => f (a, b, c)
def blo {ρ : Type} : aiw bjz bqo ρ := fun (a, b, c) next ex => am0 a b c (bqr next) (bqr ex)
def bqp {ρ : Type} := shut (lp (blo (ρ := ρ)))
theorem brz {ρ : Type} : bqp (ρ := ρ) = lp blo := ig _
def bmv {ρ : Type} (f : ail bjz bqo ρ) (a : List Int) (b c : Int) (d : bnv ρ) : Option ρ := f (a, b, c) (fun (a, b, c) => d a b c)
def ase {ρ : Type} := bmv (lp (blo (ρ := ρ)))
def arn {ρ : Type} := bmv (bqp (ρ := ρ))
theorem atp {ρ : Type} : arn (ρ := ρ) = ase := congrArg bmv brz
def akt {ρ : Type} (a : List Int) (k : Int → Option ρ) : Option ρ := arn a 0 0 fun c b d => k b
def aao {ρ : Type} := shut (akt (ρ := ρ))
theorem atd {ρ : Type} (a : List Int) (k : Int → Option ρ) : aao a k = akt a k := by unfold aao; rw [ig]

def ac3 {ρ : Type} (b a : Int) (c : Bool) (k : Int → Option ρ) : Option ρ := br c (br (decide (a < 0)) none (br (decide (IntKind.i64.wrap (64 - a) < 0)) none (k (bits BinOp.or IntKind.u64 (b.fdiv (2 ^ min a.toNat 64)) (IntKind.u64.wrap (b * 2 ^ min (IntKind.i64.wrap (64 - a)).toNat 64)))))) (br (decide (a < 0)) none (br (decide (IntKind.i64.wrap (32 - a) < 0)) none (k (bits BinOp.or IntKind.u64 (b.fdiv (2 ^ min a.toNat 64)) (bits BinOp.and IntKind.u64 (IntKind.u64.wrap (b * 2 ^ min (IntKind.i64.wrap (32 - a)).toNat 64)) 4294967295)))))
def wu {ρ : Type} := shut (ac3 (ρ := ρ))
theorem afs {ρ : Type} (a : Int) (b : Int) (c : Bool) (k : Int → Option ρ) : wu a b c k = ac3 a b c k := by unfold wu; rw [ig]

def abp {ρ : Type} (a d e c : Int) (f b : Bool) (k : Int → Option ρ) : Option ρ := br (decide (c < 0)) none (br (!f) (wu a c b fun g => wu a d b fun h => wu a e b fun i => k (bits BinOp.xor IntKind.u64 (bits BinOp.xor IntKind.u64 h i) g)) (wu a d b fun j => wu a e b fun l => k (bits BinOp.xor IntKind.u64 (bits BinOp.xor IntKind.u64 j l) (a.fdiv (2 ^ min c.toNat 64)))))
def wh {ρ : Type} := shut (abp (ρ := ρ))
theorem adg {ρ : Type} (a : Int) (b : Int) (c : Int) (d : Int) (e : Bool) (f : Bool) (k : Int → Option ρ) : wh a b c d e f k = abp a b c d e f k := by unfold wh; rw [ig]

abbrev bp9 (ρ : Type) := (List Int) → Bool → Int → Int → Int → Int → (List Int) → Option ρ
def ad1 {ρ : Type} (d : List Int) (f : Bool) (g e c a : Int) (b : List Int) (nx h : bp9 ρ) : Option ρ := br (decide (a < g)) (br (decide (a < 16)) (br (decide (0 ≤ IntKind.i64.wrap (a * c))) (br (decide (IntKind.i64.wrap (a * c) ≤ IntKind.i64.wrap (IntKind.i64.wrap (a * c) + c))) (br (decide (IntKind.i64.wrap (IntKind.i64.wrap (a * c) + c) ≤ (↑d.length : Int))) (aao (List.drop (IntKind.i64.wrap (a * c)).toNat (List.take (IntKind.i64.wrap (IntKind.i64.wrap (a * c) + c)).toNat d)) fun i => br (decide ((b.length + 1) * 8 ≤ 140737488355328)) (nx d f g e c (IntKind.i64.wrap (a + 1)) (b ++ [i])) none) none) none) none) (br (decide (0 ≤ IntKind.i64.wrap (a - 15))) (br (decide (IntKind.i64.wrap (a - 15) < (↑b.length : Int))) (wh (b.getD (IntKind.i64.wrap (a - 15)).toNat 0) 7 18 3 true false fun j => br (decide (0 ≤ IntKind.i64.wrap (a - 2))) (br (decide (IntKind.i64.wrap (a - 2) < (↑b.length : Int))) (wh (b.getD (IntKind.i64.wrap (a - 2)).toNat 0) 17 19 10 true false fun k => br f (br (decide (0 ≤ IntKind.i64.wrap (a - 15))) (br (decide (IntKind.i64.wrap (a - 15) < (↑b.length : Int))) (wh (b.getD (IntKind.i64.wrap (a - 15)).toNat 0) 1 8 7 true true fun l => br (decide (0 ≤ IntKind.i64.wrap (a - 2))) (br (decide (IntKind.i64.wrap (a - 2) < (↑b.length : Int))) (wh (b.getD (IntKind.i64.wrap (a - 2)).toNat 0) 19 61 6 true true fun m => br (decide (0 ≤ IntKind.i64.wrap (a - 7))) (br (decide (IntKind.i64.wrap (a - 7) < (↑b.length : Int))) (br (decide (0 ≤ IntKind.i64.wrap (a - 16))) (br (decide (IntKind.i64.wrap (a - 16) < (↑b.length : Int))) (br (decide ((b.length + 1) * 8 ≤ 140737488355328)) (nx d f g e c (IntKind.i64.wrap (a + 1)) (b ++ [bits BinOp.and IntKind.u64 (IntKind.u64.wrap (IntKind.u64.wrap (IntKind.u64.wrap (m + b.getD (IntKind.i64.wrap (a - 7)).toNat 0) + l) + b.getD (IntKind.i64.wrap (a - 16)).toNat 0)) e])) none) none) none) none) none) none) none) none) none) (br (decide (0 ≤ IntKind.i64.wrap (a - 7))) (br (decide (IntKind.i64.wrap (a - 7) < (↑b.length : Int))) (br (decide (0 ≤ IntKind.i64.wrap (a - 16))) (br (decide (IntKind.i64.wrap (a - 16) < (↑b.length : Int))) (br (decide ((b.length + 1) * 8 ≤ 140737488355328)) (nx d f g e c (IntKind.i64.wrap (a + 1)) (b ++ [bits BinOp.and IntKind.u64 (IntKind.u64.wrap (IntKind.u64.wrap (IntKind.u64.wrap (k + b.getD (IntKind.i64.wrap (a - 7)).toNat 0) + j) + b.getD (IntKind.i64.wrap (a - 16)).toNat 0)) e])) none) none) none) none) none)) none) none) none) none)) (h d f g e c a b)
abbrev bjv := (List Int) × Bool × Int × Int × Int × Int × (List Int)
abbrev bna := bjv
def bmq {ρ : Type} (f : bjv → Option ρ) : bp9 ρ := fun b c d e g a h => f (b, c, d, e, g, a, h)
def bi6 {ρ : Type} : aiw bjv bna ρ := fun (b, c, d, e, f, a, g) next ex => ad1 b c d e f a g (bmq next) (bmq ex)
def bon {ρ : Type} := shut (lp (bi6 (ρ := ρ)))
theorem brg {ρ : Type} : bon (ρ := ρ) = lp bi6 := ig _
def bl6 {ρ : Type} (f : ail bjv bna ρ) (b : List Int) (c : Bool) (d e g a : Int) (h : List Int) (i : bp9 ρ) : Option ρ := f (b, c, d, e, g, a, h) (fun (b, c, d, e, g, a, h) => i b c d e g a h)
def aic {ρ : Type} := bl6 (lp (bi6 (ρ := ρ)))
def aiv {ρ : Type} := bl6 (bon (ρ := ρ))
theorem ah7 {ρ : Type} : aiv (ρ := ρ) = aic := congrArg bl6 brg
def aeo {ρ : Type} (b : List Int) (a : Bool) (c d : Int) (k : (List Int) → Option ρ) : Option ρ := br a (aiv b a c d 8 0 [] fun j l m n o p f => k f) (aiv b a c d 4 0 [] fun q r s g h i e => k e)
def aaw {ρ : Type} := shut (aeo (ρ := ρ))
theorem aii {ρ : Type} (a : List Int) (b : Bool) (c : Int) (d : Int) (k : (List Int) → Option ρ) : aaw a b c d k = aeo a b c d k := by unfold aaw; rw [ig]

abbrev bn1 (ρ : Type) := Bool → Int → Int → Int → (List Int) → (List Int) → (List Int) → (List Int) → (List Int) → (List Int) → Option ρ
def acz {ρ : Type} (i : Bool) (j c b : Int) (g h d e f a : List Int) (nx m : bn1 ρ) : Option ρ := br (decide (b < j)) (wh (a.getD 0 0) 2 13 22 false false fun n => wh (a.getD 4 0) 6 11 25 false false fun k => br i (wh (a.getD 0 0) 28 34 39 false true fun o => wh (a.getD 4 0) 14 18 41 false true fun l => br (decide (0 ≤ b)) (br (decide (b < (↑80 : Int))) (br (decide (0 ≤ b)) (br (decide (b < (↑f.length : Int))) (nx i j c (IntKind.i64.wrap (b + 1)) g h d e f [bits BinOp.and IntKind.u64 (IntKind.u64.wrap (IntKind.u64.wrap (IntKind.u64.wrap (IntKind.u64.wrap (IntKind.u64.wrap (a.getD 7 0 + l) + bits BinOp.xor IntKind.u64 (bits BinOp.and IntKind.u64 (a.getD 4 0) (a.getD 5 0)) (bits BinOp.and IntKind.u64 (bits BinOp.xor IntKind.u64 c (a.getD 4 0)) (a.getD 6 0))) + e.getD b.toNat 0) + f.getD b.toNat 0) + IntKind.u64.wrap (o + bits BinOp.xor IntKind.u64 (bits BinOp.xor IntKind.u64 (bits BinOp.and IntKind.u64 (a.getD 0 0) (a.getD 1 0)) (bits BinOp.and IntKind.u64 (a.getD 0 0) (a.getD 2 0))) (bits BinOp.and IntKind.u64 (a.getD 1 0) (a.getD 2 0))))) c, a.getD 0 0, a.getD 1 0, a.getD 2 0, bits BinOp.and IntKind.u64 (IntKind.u64.wrap (a.getD 3 0 + IntKind.u64.wrap (IntKind.u64.wrap (IntKind.u64.wrap (IntKind.u64.wrap (a.getD 7 0 + l) + bits BinOp.xor IntKind.u64 (bits BinOp.and IntKind.u64 (a.getD 4 0) (a.getD 5 0)) (bits BinOp.and IntKind.u64 (bits BinOp.xor IntKind.u64 c (a.getD 4 0)) (a.getD 6 0))) + e.getD b.toNat 0) + f.getD b.toNat 0))) c, a.getD 4 0, a.getD 5 0, a.getD 6 0]) none) none) none) none) (br (decide (0 ≤ b)) (br (decide (b < (↑64 : Int))) (br (decide (0 ≤ b)) (br (decide (b < (↑f.length : Int))) (nx i j c (IntKind.i64.wrap (b + 1)) g h d e f [bits BinOp.and IntKind.u64 (IntKind.u64.wrap (IntKind.u64.wrap (IntKind.u64.wrap (IntKind.u64.wrap (IntKind.u64.wrap (a.getD 7 0 + k) + bits BinOp.xor IntKind.u64 (bits BinOp.and IntKind.u64 (a.getD 4 0) (a.getD 5 0)) (bits BinOp.and IntKind.u64 (bits BinOp.xor IntKind.u64 c (a.getD 4 0)) (a.getD 6 0))) + d.getD b.toNat 0) + f.getD b.toNat 0) + IntKind.u64.wrap (n + bits BinOp.xor IntKind.u64 (bits BinOp.xor IntKind.u64 (bits BinOp.and IntKind.u64 (a.getD 0 0) (a.getD 1 0)) (bits BinOp.and IntKind.u64 (a.getD 0 0) (a.getD 2 0))) (bits BinOp.and IntKind.u64 (a.getD 1 0) (a.getD 2 0))))) c, a.getD 0 0, a.getD 1 0, a.getD 2 0, bits BinOp.and IntKind.u64 (IntKind.u64.wrap (a.getD 3 0 + IntKind.u64.wrap (IntKind.u64.wrap (IntKind.u64.wrap (IntKind.u64.wrap (a.getD 7 0 + k) + bits BinOp.xor IntKind.u64 (bits BinOp.and IntKind.u64 (a.getD 4 0) (a.getD 5 0)) (bits BinOp.and IntKind.u64 (bits BinOp.xor IntKind.u64 c (a.getD 4 0)) (a.getD 6 0))) + d.getD b.toNat 0) + f.getD b.toNat 0))) c, a.getD 4 0, a.getD 5 0, a.getD 6 0]) none) none) none) none)) (m i j c b g h d e f a)
abbrev bjg := Bool × Int × Int × Int × (List Int) × (List Int) × (List Int) × (List Int) × (List Int) × (List Int)
abbrev bp8 := bjg
def bmu {ρ : Type} (f : bjg → Option ρ) : bn1 ρ := fun h i j g a b c d k e => f (h, i, j, g, a, b, c, d, k, e)
def bja {ρ : Type} : aiw bjg bp8 ρ := fun (g, h, i, f, a, b, c, d, j, e) next ex => acz g h i f a b c d j e (bmu next) (bmu ex)
def bov {ρ : Type} := shut (lp (bja (ρ := ρ)))
theorem brm {ρ : Type} : bov (ρ := ρ) = lp bja := ig _
def bkj {ρ : Type} (f : ail bjg bp8 ρ) (h : Bool) (i j g : Int) (a b c d k e : List Int) (l : bn1 ρ) : Option ρ := f (h, i, j, g, a, b, c, d, k, e) (fun (h, i, j, g, a, b, c, d, k, e) => l h i j g a b c d k e)
def ag2 {ρ : Type} := bkj (lp (bja (ρ := ρ)))
def acs {ρ : Type} := bkj (bov (ρ := ρ))
theorem ahs {ρ : Type} : acs (ρ := ρ) = ag2 := congrArg bkj brm
abbrev bn7 (ρ : Type) := Int → Int → (List Int) → (List Int) → (List Int) → Option ρ
def acy {ρ : Type} (e a : Int) (b d c : List Int) (nx f : bn7 ρ) : Option ρ := br (decide (a < 8)) (br (decide (0 ≤ a)) (br (decide (a < (↑8 : Int))) (br (decide (0 ≤ a)) (br (decide (a < (↑8 : Int))) (br (decide (0 ≤ a)) (br (decide (a < (↑8 : Int))) (nx e (IntKind.i64.wrap (a + 1)) b d (c.set a.toNat (bits BinOp.and IntKind.u64 (IntKind.u64.wrap (c.getD a.toNat 0 + b.getD a.toNat 0)) e))) none) none) none) none) none) none) (f e a b d c)
abbrev bku := Int × Int × (List Int) × (List Int) × (List Int)
abbrev bpv := bku
def bm4 {ρ : Type} (f : bku → Option ρ) : bn7 ρ := fun e d a b c => f (e, d, a, b, c)
def bi8 {ρ : Type} : aiw bku bpv ρ := fun (e, d, a, b, c) next ex => acy e d a b c (bm4 next) (bm4 ex)
def boh {ρ : Type} := shut (lp (bi8 (ρ := ρ)))
theorem bq1 {ρ : Type} : boh (ρ := ρ) = lp bi8 := ig _
def bji {ρ : Type} (f : ail bku bpv ρ) (e d : Int) (a b c : List Int) (g : bn7 ρ) : Option ρ := f (e, d, a, b, c) (fun (e, d, a, b, c) => g e d a b c)
def ag6 {ρ : Type} := bji (lp (bi8 (ρ := ρ)))
def ac0 {ρ : Type} := bji (boh (ρ := ρ))
theorem ahp {ρ : Type} : ac0 (ρ := ρ) = ag6 := congrArg bji bq1
def ael {ρ : Type} (b c : List Int) (a : Bool) (k : (List Int) → Option ρ) : Option ρ := u7 fun d => vg fun e => br a (aaw c a 80 18446744073709551615 fun o => acs a 80 18446744073709551615 0 b [0, 0, 0, 0, 0, 0, 0, 0] d e o b fun N O p Q q r U s t f => ac0 p 0 q r f fun u v w y g => k g) (aaw c a 64 4294967295 fun h => acs a 64 4294967295 0 b [0, 0, 0, 0, 0, 0, 0, 0] d e h b fun z A i B j l C F G m => ac0 i 0 j l m fun H I J M n => k n)
def ab4 {ρ : Type} := shut (ael (ρ := ρ))
theorem air {ρ : Type} (a : List Int) (b : List Int) (c : Bool) (k : (List Int) → Option ρ) : ab4 a b c k = ael a b c k := by unfold ab4; rw [ig]

abbrev bqh (ρ : Type) := Int → (List Int) → Int → (List Int) → (List Int) → Int → Int → (List Int) → Int → Option ρ
def agw {ρ : Type} (a : Int) (b : List Int) (c : Int) (d e : List Int) (f g : Int) (h : List Int) (i : Int) (nx j : bqh ρ) : Option ρ := br (decide ((↑b.length : Int) ≥ a)) (br (decide (0 ≤ a)) (br (decide (a ≤ (↑b.length : Int))) (ab4 d (List.drop 0 (List.take a.toNat b)) (a == 128) fun k => br (decide (0 ≤ a)) (br (decide (a ≤ (↑b.length : Int))) (br (decide ((↑b.length : Int) ≤ (↑b.length : Int))) (nx a (List.drop a.toNat (List.take (↑b.length : Int).toNat b)) c k e f g h i) none) none) none) none) none) (j a b c d e f g h i)
abbrev bj1 := Int × (List Int) × Int × (List Int) × (List Int) × Int × Int × (List Int) × Int
abbrev bqa := bj1
def bmx {ρ : Type} (f : bj1 → Option ρ) : bqh ρ := fun i j a b c d e g h => f (i, j, a, b, c, d, e, g, h)
def bjc {ρ : Type} : aiw bj1 bqa ρ := fun (h, i, a, b, c, d, e, f, g) next ex => agw h i a b c d e f g (bmx next) (bmx ex)
def bpc {ρ : Type} := shut (lp (bjc (ρ := ρ)))
theorem br1 {ρ : Type} : bpc (ρ := ρ) = lp bjc := ig _
def bjq {ρ : Type} (f : ail bj1 bqa ρ) (i : Int) (j : List Int) (a : Int) (b c : List Int) (d e : Int) (g : List Int) (h : Int) (k : bqh ρ) : Option ρ := f (i, j, a, b, c, d, e, g, h) (fun (i, j, a, b, c, d, e, g, h) => k i j a b c d e g h)
def amn {ρ : Type} := bjq (lp (bjc (ρ := ρ)))
def ajb {ρ : Type} := bjq (bpc (ρ := ρ))
theorem alv {ρ : Type} : ajb (ρ := ρ) = amn := congrArg bjq br1
def aj6 {ρ : Type} (a : Int) (c b : List Int) (d : Int) (e : List Int) (k : Int → (List Int) → (List Int) → Int → Option ρ) : Option ρ := vk a fun f => z8 [b, e] fun g => ajb f g a c b (IntKind.u64.wrap (d + IntKind.u64.wrap (↑e.length : Int))) 0 [0, 0, 0, 0, 0, 0, 0, 0] 0 fun n h i j o l p q m => k i j h l
def abe {ρ : Type} := shut (aj6 (ρ := ρ))
theorem ash {ρ : Type} (b : Int) (a : List Int) (c : List Int) (d : Int) (e : List Int) (k : Int → (List Int) → (List Int) → Int → Option ρ) : abe b a c d e k = aj6 b a c d e k := by unfold abe; rw [ig]

abbrev bg5 (ρ : Type) := Int → Int → (List Int) → Int → (List Int) → (List Int) → Int → Option ρ
def ana {ρ : Type} (c g : Int) (b : List Int) (d : Int) (e a : List Int) (f : Int) (nx h : bg5 ρ) : Option ρ := br (decide (c = 0)) none (br ((IntKind.i64.wrap ((↑a.length : Int) + (↑b.length : Int))).tmod c != IntKind.i64.wrap (c - 8)) (br (decide ((b.length + 1) * 1 ≤ 140737488355328)) (nx c g (b ++ [0]) d e a f) none) (h c g b d e a f))
abbrev bky := Int × Int × (List Int) × Int × (List Int) × (List Int) × Int
abbrev bph := bky
def bp7 {ρ : Type} (f : bky → Option ρ) : bg5 ρ := fun g h e a b c d => f (g, h, e, a, b, c, d)
def bkl {ρ : Type} : aiw bky bph ρ := fun (f, g, e, a, b, c, d) next ex => ana f g e a b c d (bp7 next) (bp7 ex)
def bny {ρ : Type} := shut (lp (bkl (ρ := ρ)))
theorem brb {ρ : Type} : bny (ρ := ρ) = lp bkl := ig _
def bmo {ρ : Type} (f : ail bky bph ρ) (g h : Int) (e : List Int) (a : Int) (b c : List Int) (d : Int) (i : bg5 ρ) : Option ρ := f (g, h, e, a, b, c, d) (fun (g, h, e, a, b, c, d) => i g h e a b c d)
def asq {ρ : Type} := bmo (lp (bkl (ρ := ρ)))
def am2 {ρ : Type} := bmo (bny (ρ := ρ))
theorem aud {ρ : Type} : am2 (ρ := ρ) = asq := congrArg bmo brb
abbrev zc31 (ρ : Type) := Int → Int → (List Int) → Int → (List Int) → (List Int) → Int → Option ρ
def ang {ρ : Type} (c g : Int) (b : List Int) (d : Int) (e a : List Int) (f : Int) (nx h : bg5 ρ) : Option ρ := br (decide (c = 0)) none (br ((IntKind.i64.wrap ((↑a.length : Int) + (↑b.length : Int))).tmod c != IntKind.i64.wrap (c - 16)) (br (decide ((b.length + 1) * 1 ≤ 140737488355328)) (nx c g (b ++ [0]) d e a f) none) (h c g b d e a f))
abbrev bjt := Int × Int × (List Int) × Int × (List Int) × (List Int) × Int
abbrev bnu := bjt
def bqj {ρ : Type} (f : bjt → Option ρ) : zc31 ρ := fun g h e a b c d => f (g, h, e, a, b, c, d)
def bjh {ρ : Type} : aiw bjt bnu ρ := fun (f, g, e, a, b, c, d) next ex => ang f g e a b c d (bqj next) (bqj ex)
def bqm {ρ : Type} := shut (lp (bjh (ρ := ρ)))
theorem brp {ρ : Type} : bqm (ρ := ρ) = lp bjh := ig _
def bmb {ρ : Type} (f : ail bjt bnu ρ) (g h : Int) (e : List Int) (a : Int) (b c : List Int) (d : Int) (i : bg5 ρ) : Option ρ := f (g, h, e, a, b, c, d) (fun (g, h, e, a, b, c, d) => i g h e a b c d)
def atc {ρ : Type} := bmb (lp (bjh (ρ := ρ)))
def ane {ρ : Type} := bmb (bqm (ρ := ρ))
theorem at1 {ρ : Type} : ane (ρ := ρ) = atc := congrArg bmb brp
abbrev zc32 (ρ : Type) := Int → Int → (List Int) → Int → (List Int) → (List Int) → Int → Option ρ
def aj3 {ρ : Type} (g c : Int) (a : List Int) (d : Int) (b e : List Int) (f : Int) (nx i : bg5 ρ) : Option ρ := br (decide (c < 8)) (br (decide (0 ≤ c)) (br (decide (c < (↑8 : Int))) (abm (b.getD c.toNat 0) (IntKind.i64.wrap (g.tdiv 16)) fun h => br (decide ((a.length + h.length) * 1 ≤ 140737488355328)) (nx g (IntKind.i64.wrap (c + 1)) (a ++ h) d b e f) none) none) none) (i g c a d b e f)
abbrev bki := Int × Int × (List Int) × Int × (List Int) × (List Int) × Int
abbrev bm8 := bki
def bos {ρ : Type} (f : bki → Option ρ) : zc32 ρ := fun g h a b c d e => f (g, h, a, b, c, d, e)
def bkn {ρ : Type} : aiw bki bm8 ρ := fun (f, g, a, b, c, d, e) next ex => aj3 f g a b c d e (bos next) (bos ex)
def bni {ρ : Type} := shut (lp (bkn (ρ := ρ)))
theorem bra {ρ : Type} : bni (ρ := ρ) = lp bkn := ig _
def bm0 {ρ : Type} (f : ail bki bm8 ρ) (g h : Int) (a : List Int) (b : Int) (c d : List Int) (e : Int) (i : bg5 ρ) : Option ρ := f (g, h, a, b, c, d, e) (fun (g, h, a, b, c, d, e) => i g h a b c d e)
def aqi {ρ : Type} := bm0 (lp (bkn (ρ := ρ)))
def aha {ρ : Type} := bm0 (bni (ρ := ρ))
theorem arh {ρ : Type} : aha (ρ := ρ) = aqi := congrArg bm0 bra
def aku {ρ : Type} (a : Int) (c d : List Int) (b : Int) (k : (List Int) → Option ρ) : Option ρ := vk a fun J => am2 J (IntKind.u64.wrap (b * 8)) [128] a c d b fun m n o p q r s => br (m == 128) (ane m n [128] p q r s fun M N e t u v i => abm (i.fdiv (2 ^ 61)) 8 fun f => br (decide ((e.length + f.length) * 1 ≤ 140737488355328)) (abm N 8 fun j => br (decide (((e ++ f).length + j.length) * 1 ≤ 140737488355328)) (abe t u v i (e ++ f ++ j) fun w y z A => aha M 0 [] w y z A fun O Q g B U W Z => br (B == 2) (br (decide (48 ≤ (↑g.length : Int))) (k (List.take ((48 : Int) - (0 : Int)).toNat g)) none) (k g)) none) none) (abm n 8 fun l => br (decide ((o.length + l.length) * 1 ≤ 140737488355328)) (abe p q r s (o ++ l) fun C F G H => aha m 0 [] C F G H fun aa ab h I ac ad ae => br (I == 2) (br (decide (48 ≤ (↑h.length : Int))) (k (List.take ((48 : Int) - (0 : Int)).toNat h)) none) (k h)) none)
def afd {ρ : Type} := shut (aku (ρ := ρ))
theorem asx {ρ : Type} (b : Int) (a : List Int) (c : List Int) (d : Int) (k : (List Int) → Option ρ) : afd b a c d k = aku b a c d k := by unfold afd; rw [ig]

def akn {ρ : Type} (b : Int) (c : List Int) (k : (List Int) → Int → Option ρ) : Option ρ := ae9 b fun d e f g a => br (a != 0) (k [] a) (abe d e f g c fun h i j l => afd h i j l fun m => k m 0)
def aez {ρ : Type} := shut (akn (ρ := ρ))
theorem asl {ρ : Type} (a : Int) (b : List Int) (k : (List Int) → Int → Option ρ) : aez a b k = akn a b k := by unfold aez; rw [ig]

def agz {ρ : Type} (a b : Int) (k : (List Int) → Option ρ) : Option ρ := abm a 8 fun e => abm b 8 fun f => z8 [e, f] fun c => aez 1 c fun d g => br (decide ((c.length + d.length) * 1 ≤ 140737488355328)) (k (c ++ d)) none
def nk {ρ : Type} := shut (agz (ρ := ρ))
theorem an4 {ρ : Type} (a : Int) (b : Int) (k : (List Int) → Option ρ) : nk a b k = agz a b k := by unfold nk; rw [ig]

abbrev bpu (ρ : Type) := (List Int) → (List Int) → Int → Option ρ
def ako {ρ : Type} (b c : List Int) (a : Int) (nx d : bpu ρ) (e : Bool → Option ρ) : Option ρ := br (decide (a < (↑b.length : Int))) (br (decide (0 ≤ a)) (br (decide (a < (↑b.length : Int))) (br (decide (0 ≤ a)) (br (decide (a < (↑c.length : Int))) (br (b.getD a.toNat 0 != c.getD a.toNat 0) (e false) (nx b c (IntKind.i64.wrap (a + 1)))) none) none) none) none) (d b c a)
abbrev bmp := (List Int) × (List Int) × Int
abbrev bn5 := ((List Int) × (List Int) × Int) ⊕ (Bool)
def brn {ρ : Type} (f : bmp → Option ρ) : bpu ρ := fun a b c => f (a, b, c)
def bkc {ρ : Type} : aiw bmp bn5 ρ := fun (a, b, c) next ex => ako a b c (brn next) (fun a b c => ex (.inl (a, b, c))) (fun d => ex (.inr d))
def boe {ρ : Type} := shut (lp (bkc (ρ := ρ)))
theorem brl {ρ : Type} : boe (ρ := ρ) = lp bkc := ig _
def bmd {ρ : Type} (f : ail bmp bn5 ρ) (a b : List Int) (c : Int) (d : bpu ρ) (e : Bool → Option ρ) : Option ρ := f (a, b, c) (Sum.elim (fun (a, b, c) => d a b c) (fun x => e x))
def aqa {ρ : Type} := bmd (lp (bkc (ρ := ρ)))
def apv {ρ : Type} := bmd (boe (ρ := ρ))
theorem aq8 {ρ : Type} : apv (ρ := ρ) = aqa := congrArg bmd brl
def ah2 {ρ : Type} (a b : List Int) (k : Bool → Option ρ) : Option ρ := br ((↑a.length : Int) != (↑b.length : Int)) (k false) (apv a b 0 (fun d e f => k true) fun c => k c)
def yh {ρ : Type} := shut (ah2 (ρ := ρ))
theorem aqy {ρ : Type} (a : List Int) (b : List Int) (k : Bool → Option ρ) : yh a b k = ah2 a b k := by unfold yh; rw [ig]

def aie {ρ : Type} (a : List Int) (k : Int → Int → Bool → Option ρ) : Option ρ := br ((↑a.length : Int) != 48) (k 0 0 false) (br (decide (8 ≤ (↑a.length : Int))) (aao (List.drop 0 (List.take (Int.toNat 8) a)) fun b => br (decide (16 ≤ (↑a.length : Int))) (aao (List.drop 8 (List.take (Int.toNat 16) a)) fun c => nk b c fun d => yh d a fun e => br (!e) (k 0 0 false) (k b c true)) none) none)
def aau {ρ : Type} := shut (aie (ρ := ρ))
theorem aqj {ρ : Type} (a : List Int) (k : Int → Int → Bool → Option ρ) : aau a k = aie a k := by unfold aau; rw [ig]

def aiq {ρ : Type} (a b : List Int) (k : Int → Int → Int → Int → Option ρ) : Option ρ := aau a fun c f h => aau b fun d g e => br h (br (!e) (k c f 0 0) (br (decide (c ≥ d)) (k c f 0 0) (br e (k d g 1 0) (k 0 0 0 21)))) (br e (k d g 1 0) (k 0 0 0 21))
def l8 {ρ : Type} := shut (aiq (ρ := ρ))
theorem ao0 {ρ : Type} (a : List Int) (b : List Int) (k : Int → Int → Int → Int → Option ρ) : l8 a b k = aiq a b k := by unfold l8; rw [ig]

def ah5 {ρ : Type} (a b : List Int) (c d : Int) (k : (List Int) → (List Int) → Int → Int → Int → Int → Bool → Int → Option ρ) : Option ρ := br (decide (c > 1152921504606846976)) (k [] [] 0 0 0 0 false 8) (br (decide (d < 1)) (k [] [] 0 0 0 0 false 8) (br (decide (d > 4294967296)) (k [] [] 0 0 0 0 false 8) (l8 a b fun g e h f => br (f != 0) (k [] [] 0 0 0 0 false f) (br (decide (e > c)) (k [] [] 0 0 0 0 false 8) (br (decide (g ≥ 1152921504606846976)) (k [] [] 0 0 0 0 false 8) (k a b c d e e true 0))))))
def uz {ρ : Type} := shut (ah5 (ρ := ρ))
theorem ap2 {ρ : Type} (a : List Int) (b : List Int) (c : Int) (d : Int) (k : (List Int) → (List Int) → Int → Int → Int → Int → Bool → Int → Option ρ) : uz a b c d k = ah5 a b c d k := by unfold uz; rw [ig]

def aki {ρ : Type} (k : (List Int) → (List Int) → Option ρ) : Option ρ := nk 0 0 fun a => nk 0 0 fun b => k a b
def afg {ρ : Type} := shut (aki (ρ := ρ))
theorem as8 {ρ : Type}  (k : (List Int) → (List Int) → Option ρ) : afg  k = aki  k := by unfold afg; rw [ig]

def ake {ρ : Type} (a b : Int) (k : (List Int) → (List Int) → Int → Int → Int → Int → Bool → Int → Option ρ) : Option ρ := afg fun c d => uz c d a b fun e f g h i j l m => k e f g h i j l m
def afp {ρ : Type} := shut (ake (ρ := ρ))
theorem aso {ρ : Type} (a : Int) (b : Int) (k : (List Int) → (List Int) → Int → Int → Int → Int → Bool → Int → Option ρ) : afp a b k = ake a b k := by unfold afp; rw [ig]

def aiy {ρ : Type} (a b c d : List Int) (k : Bool → Option ρ) : Option ρ := yh a c fun e => br e (yh b d fun f => k f) (k false)
def ab6 {ρ : Type} := shut (aiy (ρ := ρ))
theorem ao1 {ρ : Type} (a : List Int) (b : List Int) (c : List Int) (d : List Int) (k : Bool → Option ρ) : ab6 a b c d k = aiy a b c d k := by unfold ab6; rw [ig]

def af2 {ρ : Type} (a b : List Int) (e g l h : Int) (n : Bool) (c d : List Int) (f i m j : Int) (o : Bool) (k : Bool → Option ρ) : Option ρ := ab6 a b c d fun p => br p (br (e == f) (br (g == i) (br (l == m) (br (h == j) (k (n == o)) (k false)) (k false)) (k false)) (k false)) (k false)
def su {ρ : Type} := shut (af2 (ρ := ρ))
theorem aj1 {ρ : Type} (a : List Int) (b : List Int) (e : Int) (g : Int) (l : Int) (h : Int) (n : Bool) (c : List Int) (d : List Int) (f : Int) (i : Int) (m : Int) (j : Int) (o : Bool) (k : Bool → Option ρ) : su a b e g l h n c d f i m j o k = af2 a b e g l h n c d f i m j o k := by unfold su; rw [ig]

abbrev bps (ρ : Type) := (List Int) → (List Int) → Int → Int → Option ρ
def aeh {ρ : Type} (c d : List Int) (b a : Int) (nx e : bps ρ) (f : Bool → Option ρ) : Option ρ := br (decide (a < b)) (br (decide (0 ≤ a)) (br (decide (a < (↑c.length : Int))) (br (decide (0 ≤ a)) (br (decide (a < (↑d.length : Int))) (br (c.getD a.toNat 0 != d.getD a.toNat 0) (f false) (nx c d b (IntKind.i64.wrap (a + 1)))) none) none) none) none) (e c d b a)
abbrev bmg := (List Int) × (List Int) × Int × Int
abbrev bn3 := ((List Int) × (List Int) × Int × Int) ⊕ (Bool)
def bq9 {ρ : Type} (f : bmg → Option ρ) : bps ρ := fun c d a b => f (c, d, a, b)
def bjd {ρ : Type} : aiw bmg bn3 ρ := fun (c, d, a, b) next ex => aeh c d a b (bq9 next) (fun c d a b => ex (.inl (c, d, a, b))) (fun e => ex (.inr e))
def bqu {ρ : Type} := shut (lp (bjd (ρ := ρ)))
theorem brc {ρ : Type} : bqu (ρ := ρ) = lp bjd := ig _
def bmy {ρ : Type} (f : ail bmg bn3 ρ) (c d : List Int) (a b : Int) (e : bps ρ) (g : Bool → Option ρ) : Option ρ := f (c, d, a, b) (Sum.elim (fun (c, d, a, b) => e c d a b) (fun x => g x))
def aei {ρ : Type} := bmy (lp (bjd (ρ := ρ)))
def aej {ρ : Type} := bmy (bqu (ρ := ρ))
theorem ag3 {ρ : Type} : aej (ρ := ρ) = aei := congrArg bmy brc
def aa9 {ρ : Type} (a b : List Int) (k : Bool → Option ρ) : Option ρ := br ((↑a.length : Int) != (↑b.length : Int)) (k false) (aej a b (↑a.length : Int) 0 (fun d e f g => k true) fun c => k c)
def lg {ρ : Type} := shut (aa9 (ρ := ρ))
theorem aeg {ρ : Type} (a : List Int) (b : List Int) (k : Bool → Option ρ) : lg a b k = aa9 a b k := by unfold lg; rw [ig]

def afo {ρ : Type} (a b c d : List Int) (k : Bool → Option ρ) : Option ρ := lg a c fun e => br e (lg b d fun f => k f) (k false)
def w9 {ρ : Type} := shut (afo (ρ := ρ))
theorem ajx {ρ : Type} (a : List Int) (b : List Int) (c : List Int) (d : List Int) (k : Bool → Option ρ) : w9 a b c d k = afo a b c d k := by unfold w9; rw [ig]

def af5 {ρ : Type} (a b : List Int) (e g l h : Int) (n : Bool) (c d : List Int) (f i m j : Int) (o : Bool) (k : Bool → Option ρ) : Option ρ := w9 a b c d fun p => br p (br (e == f) (br (g == i) (br (l == m) (br (h == j) (k (n == o)) (k false)) (k false)) (k false)) (k false)) (k false)
def zh {ρ : Type} := shut (af5 (ρ := ρ))
theorem amc {ρ : Type} (a : List Int) (b : List Int) (e : Int) (g : Int) (l : Int) (h : Int) (n : Bool) (c : List Int) (d : List Int) (f : Int) (i : Int) (m : Int) (j : Int) (o : Bool) (k : Bool → Option ρ) : zh a b e g l h n c d f i m j o k = af5 a b e g l h n c d f i m j o k := by unfold zh; rw [ig]

def uq {ρ : Type} (e f : List Int) (b c d a : Int) (g : Bool) (k : Bool → Option ρ) : Option ρ := br (decide (c < 1)) (k false) (br (decide (c > 4294967296)) (k false) (br (decide (b > 1152921504606846976)) (k false) (br (!g) (br (d == 0) (k (a == 0)) (k false)) (l8 e f fun j h l i => br (i == 0) (br (h == a) (br (decide (d ≤ a)) (k (decide (a ≤ b))) (k false)) (k false)) (k false)))))
def ag9 {ρ : Type} := shut (uq (ρ := ρ))
theorem y7 {ρ : Type} (a : List Int) (b : List Int) (c : Int) (d : Int) (f : Int) (e : Int) (g : Bool) (k : Bool → Option ρ) : ag9 a b c d f e g k = uq a b c d f e g k := by unfold ag9; rw [ig]

def abu {ρ : Type} (d e : List Int) (a c f b : Int) (g : Bool) (k : (List Int) → (List Int) → Int → Int → Int → Int → Bool → Int → Option ρ) : Option ρ := br (!g) (k d e a c f b g 21) (br (b == a) (k d e a c f b g 13) (dz d e fun l r s i => br (i != 0) (br (i != 0) (k d e a c f b g i) (eu d e 0 0 fun m n t j => br (j == 0) (k m n a c f 0 g j) (k d e a c f b g j))) (br (decide (l ≥ 1152921504606846976)) (k d e a c f b g 8) (eu d e (IntKind.u64.wrap (l + 1)) (IntKind.u64.wrap (b + bif decide (IntKind.u64.wrap (a - b) < c) then IntKind.u64.wrap (a - b) else c)) fun o p q h => br (h == 0) (k o p a c f (IntKind.u64.wrap (b + bif decide (IntKind.u64.wrap (a - b) < c) then IntKind.u64.wrap (a - b) else c)) g h) (k d e a c f b g h)))))
def o9 {ρ : Type} := shut (abu (ρ := ρ))
theorem aee {ρ : Type} (a : List Int) (b : List Int) (c : Int) (d : Int) (f : Int) (e : Int) (g : Bool) (k : (List Int) → (List Int) → Int → Int → Int → Int → Bool → Int → Option ρ) : o9 a b c d f e g k = abu a b c d f e g k := by unfold o9; rw [ig]

def ahy {ρ : Type} (d e : List Int) (a c g b : Int) (f : Bool) (k : Int → Int → Int → Option ρ) : Option ρ := br (!f) (k 0 0 21) (br (b == a) (k 0 0 13) (l8 d e fun h j l i => br (i != 0) (k 0 0 i) (br (decide (h ≥ 1152921504606846976)) (k 0 0 8) (k (IntKind.u64.wrap (h + 1)) (bif decide (a < IntKind.u64.wrap (b + c)) then a else IntKind.u64.wrap (b + c)) 0))))
def aae {ρ : Type} := shut (ahy (ρ := ρ))
theorem ao7 {ρ : Type} (a : List Int) (b : List Int) (c : Int) (d : Int) (f : Int) (e : Int) (g : Bool) (k : Int → Int → Int → Option ρ) : aae a b c d f e g k = ahy a b c d f e g k := by unfold aae; rw [ig]

def aiz {ρ : Type} (a b : List Int) (d : Int) (c : List Int) (k : (List Int) → (List Int) → Option ρ) : Option ρ := br (d == 0) (k c b) (k a c)
def yx {ρ : Type} := shut (aiz (ρ := ρ))
theorem apk {ρ : Type} (a : List Int) (b : List Int) (c : Int) (d : List Int) (k : (List Int) → (List Int) → Option ρ) : yx a b c d k = aiz a b c d k := by unfold yx; rw [ig]

def ahd {ρ : Type} (a b : List Int) (c d : Int) (k : (List Int) → (List Int) → Int → Int → Option ρ) : Option ρ := l8 a b fun j l e f => br (f != 0) (k a b 0 f) (nk c d fun g => yx a b (IntKind.i64.wrap (1 - e)) g fun h i => k h i (IntKind.i64.wrap (1 - e)) 0)
def abf {ρ : Type} := shut (ahd (ρ := ρ))
theorem an0 {ρ : Type} (c : List Int) (d : List Int) (a : Int) (b : Int) (k : (List Int) → (List Int) → Int → Int → Option ρ) : abf c d a b k = ahd c d a b k := by unfold abf; rw [ig]

def ae7 {ρ : Type} (a b : List Int) (c d e f : Int) (g : Bool) (k : (List Int) → (List Int) → Int → Int → Int → Int → Bool → Int → Option ρ) : Option ρ := aae a b c d e f g fun l h i => br (i != 0) (k a b c d e f g i) (abf a b l h fun m n o j => br (j != 0) (k a b c d e f g j) (k m n c d e h g 0))
def mq {ρ : Type} := shut (ae7 (ρ := ρ))
theorem ajp {ρ : Type} (a : List Int) (b : List Int) (c : Int) (d : Int) (f : Int) (e : Int) (g : Bool) (k : (List Int) → (List Int) → Int → Int → Int → Int → Bool → Int → Option ρ) : mq a b c d f e g k = ae7 a b c d f e g k := by unfold mq; rw [ig]

def ain {ρ : Type} (a b : List Int) (e f c d : Int) (g : Bool) (k : (List Int) → (List Int) → Int → Int → Int → Int → Bool → Int → Int → Option ρ) : Option ρ := br (!g) (k a b e f c d g 0 21) (br (c == d) (mq a b e f c d g fun j l m n h o p i => br (i != 0) (k a b e f c d g 0 i) (k j l m n (IntKind.u64.wrap (h + 1)) o p h 0)) (k a b e f (IntKind.u64.wrap (c + 1)) d g c 0))
def zw {ρ : Type} := shut (ain (ρ := ρ))
theorem aq5 {ρ : Type} (a : List Int) (b : List Int) (c : Int) (d : Int) (f : Int) (e : Int) (g : Bool) (k : (List Int) → (List Int) → Int → Int → Int → Int → Bool → Int → Int → Option ρ) : zw a b c d f e g k = ain a b c d f e g k := by unfold zw; rw [ig]

def ahz {ρ : Type} (a b : List Int) (c d e : Int) (h : List Int) (k : (List Int) → (List Int) → Int → Option ρ) : Option ρ := l8 a b fun o p f g => br (g != 0) (k a b g) (br (e == 0) (k a b 0) (br (e == 1) (nk c d fun i => yx a b (IntKind.i64.wrap (1 - f)) i fun j l => k j l 0) (br (e == 2) (yx a b (IntKind.i64.wrap (1 - f)) h fun m n => k m n 0) (k a b 8))))
def aco {ρ : Type} := shut (ahz (ρ := ρ))
theorem apd {ρ : Type} (c : List Int) (d : List Int) (a : Int) (b : Int) (e : Int) (f : List Int) (k : (List Int) → (List Int) → Int → Option ρ) : aco c d a b e f k = ahz c d a b e f k := by unfold aco; rw [ig]

def anu {ρ : Type} (a b : List Int) (c d f e : Int) (g : Bool) (k : (List Int) → (List Int) → Int → Int → Int → Int → Bool → Option ρ) : Option ρ := k a b c d 0 0 false
def aek {ρ : Type} := shut (anu (ρ := ρ))
theorem afl {ρ : Type} (a : List Int) (b : List Int) (c : Int) (d : Int) (f : Int) (e : Int) (g : Bool) (k : (List Int) → (List Int) → Int → Int → Int → Int → Bool → Option ρ) : aek a b c d f e g k = anu a b c d f e g k := by unfold aek; rw [ig]

def amq {ρ : Type} (a b : List Int) (c d f e : Int) (g : Bool) (h i : Int) (j : List Int) (k : (List Int) → (List Int) → Int → Int → Int → Int → Bool → (List Int) → Int → Option ρ) : Option ρ := br (h == 1) (zw a b c d f e g fun o p q r s t u q7 v => br (v != 0) (k o p q r s t u [] v) (k o p q r s t u [q7] 0)) (br (h == 2) (mq a b c d f e g fun q9 w y z A B C F => k q9 w y z A B C [] F) (br (h == 3) (aae a b c d f e g fun G H l => br (l != 0) (k a b c d f e g [] l) (aco a b G H i j fun I J m => br (m != 0) (k a b c d f e g [] m) (aek I J c d f e g fun M N O Q U W Z => k M N O Q U W Z [] 0))) (br (h == 4) (aek a b c d f e g fun aa ab ac ad ae af ag => k aa ab ac ad ae af ag [] 0) (br (h == 5) (br g (k a b c d f e g [] 0) (uz a b c d fun ah ai aj ak al am an n => br (n != 0) (k a b c d f e g [] n) (k ah ai aj ak al am an [] 0))) (k a b c d f e g [] 1)))))
def aip {ρ : Type} := shut (amq (ρ := ρ))
theorem au7 {ρ : Type} (a : List Int) (b : List Int) (c : Int) (d : Int) (f : Int) (e : Int) (j : Bool) (g : Int) (h : Int) (i : List Int) (k : (List Int) → (List Int) → Int → Int → Int → Int → Bool → (List Int) → Int → Option ρ) : aip a b c d f e j g h i k = amq a b c d f e j g h i k := by unfold aip; rw [ig]

abbrev bof (ρ : Type) := (List Int) → (List Int) → Int → Option ρ
def afk {ρ : Type} (b c : List Int) (a : Int) (nx d : bof ρ) (e : Bool → Option ρ) : Option ρ := br (decide (a < (↑b.length : Int))) (br (decide (0 ≤ a)) (br (decide (a < (↑b.length : Int))) (br (decide (0 ≤ a)) (br (decide (a < (↑c.length : Int))) (br (b.getD a.toNat 0 != c.getD a.toNat 0) (e false) (nx b c (IntKind.i64.wrap (a + 1)))) none) none) none) none) (d b c a)
abbrev bm5 := (List Int) × (List Int) × Int
abbrev bqb := ((List Int) × (List Int) × Int) ⊕ (Bool)
def brs {ρ : Type} (f : bm5 → Option ρ) : bof ρ := fun a b c => f (a, b, c)
def bj2 {ρ : Type} : aiw bm5 bqb ρ := fun (a, b, c) next ex => afk a b c (brs next) (fun a b c => ex (.inl (a, b, c))) (fun d => ex (.inr d))
def bqd {ρ : Type} := shut (lp (bj2 (ρ := ρ)))
theorem bq8 {ρ : Type} : bqd (ρ := ρ) = lp bj2 := ig _
def bms {ρ : Type} (f : ail bm5 bqb ρ) (a b : List Int) (c : Int) (d : bof ρ) (e : Bool → Option ρ) : Option ρ := f (a, b, c) (Sum.elim (fun (a, b, c) => d a b c) (fun x => e x))
def ai5 {ρ : Type} := bms (lp (bj2 (ρ := ρ)))
def aik {ρ : Type} := bms (bqd (ρ := ρ))
theorem aly {ρ : Type} : aik (ρ := ρ) = ai5 := congrArg bms bq8
def aea {ρ : Type} (a b : List Int) (k : Bool → Option ρ) : Option ρ := br ((↑a.length : Int) != (↑b.length : Int)) (k false) (aik a b 0 (fun d e f => k true) fun c => k c)
def tu {ρ : Type} := shut (aea (ρ := ρ))
theorem aif {ρ : Type} (a : List Int) (b : List Int) (k : Bool → Option ρ) : tu a b k = aea a b k := by unfold tu; rw [ig]

def ac1 {ρ : Type} (l m : List Int) (o p : Int) (a b : List Int) (c d f e : Int) (g : Bool) (h i : Int) (j : List Int) (k : Bool → Option ρ) : Option ρ := agi l m 1 [h] [i] [j] fun q0 => br (!q0) (uh fun q1 => k q1) (agi a b 0 [] [] [] fun q2 => br (!q2) (uh fun q3 => k q3) (je l m o p fun q r s t u v n w => uz l m o p fun y z A B C F G H => xq o p fun I J M N O Q U W => afp o p fun Z aa ab ac ad ae af ag => su q r s t u v n y z A B C F G fun ah => br (!ah) (k false) (br (w != H) (k false) (su I J M N O Q U Z aa ab ac ad ae af fun ai => br (!ai) (k false) (br (W != ag) (k false) (zh q r s t u v n a b c d f e g fun aj => su q r s t u v n a b c d f e g fun ak => br (!aj == ak) (k false) (ag9 a b c d f e g fun al => br (!al) (uh fun am => k am) (o9 a b c d f e g fun an ao ap aq ar au av aw => mq a b c d f e g fun ax ay az a0 a3 a4 a5 a6 => qy a b c d f e g fun a7 a8 a9 ba bb bc bd be bf => zw a b c d f e g fun bg bh bi bj bk bl bm bn bo => zq a b c d f e g h i j fun bp bq bs bt bu bv bw bx bz => aip a b c d f e g h i j fun b0 b1 b2 b3 b4 b5 b6 b7 b8 => su an ao ap aq ar au av ax ay az a0 a3 a4 a5 fun b9 => br b9 (br (aw == a6) (su a7 a8 a9 ba bb bc bd bg bh bi bj bk bl bm fun ca => br ca (br (be == bn) (br (bf == bo) (su bp bq bs bt bu bv bw b0 b1 b2 b3 b4 b5 b6 fun cb => br cb (tu bx b7 fun cc => br cc (br (bz == b8) (uh fun cd => k cd) (k false)) (k false)) (k false)) (k false)) (k false)) (k false)) (k false)) (k false)))))))))
def sj {ρ : Type} := shut (ac1 (ρ := ρ))
theorem agl {ρ : Type} (l : List Int) (m : List Int) (n : Int) (o : Int) (a : List Int) (b : List Int) (c : Int) (d : Int) (f : Int) (e : Int) (j : Bool) (g : Int) (h : Int) (i : List Int) (k : Bool → Option ρ) : sj l m n o a b c d f e j g h i k = ac1 l m n o a b c d f e j g h i k := by unfold sj; rw [ig]





















end P
end
