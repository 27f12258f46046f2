/-
  LeaseSpent, part 11: an interpreter of my own over abstract values, the pure functions, the walks and the plain law.
-/

import Derived.Test.YtkfjafaabbmapaaDoorLeaseSpentH
import Derived.Test.YtkfjafaabbmapaaDoorLeaseSpentJ
import Derived.Test.YtkfjafaabbmapaaDoorLeaseSpentI

noncomputable section
open Go Go.Abs
set_option linter.unusedVariables false
namespace P

def ad7 {ρ : Type} (a : Int) (k : Int → Option ρ) : Option ρ := br (decide (0 ≤ a)) (br (decide (a < (↑64 : Int))) (k (roots256.getD a.toNat 0)) none) none
def l7 {ρ : Type} := shut (ad7 (ρ := ρ))
theorem ais {ρ : Type} (a : Int) (k : Int → Option ρ) : l7 a k = ad7 a k := by unfold l7; rw [fq]

def rz {ρ : Type} (a g : Int) (b c d e : List Int) (h f : Int) (k : Int → Option ρ) : Option ρ := br (decide (f < 0)) none (br (decide (IntKind.i64.wrap (a - f) < 0)) none (k (bits BinOp.or IntKind.u32 (h.fdiv (2 ^ min f.toNat 32)) (IntKind.u32.wrap (h * 2 ^ min (IntKind.i64.wrap (a - f)).toNat 32)))))
def bn {ρ : Type} := shut (rz (ρ := ρ))
theorem zx {ρ : Type} (f : Int) (e : Int) (a : List Int) (b : List Int) (c : List Int) (d : List Int) (g : Int) (h : Int) (k : Int → Option ρ) : bn f e a b c d g h k = rz f e a b c d g h k := by unfold bn; rw [fq]

def qb {ρ : Type} (f e : Int) (a b c d : List Int) (g h : Int) (k : Int → Option ρ) : Option ρ := br (decide (h = (↑0 : Int))) (bn f e a b c d g (a.getD 0 0) fun l => bn f e a b c d g (a.getD 1 0) fun m => bn f e a b c d g (a.getD 2 0) fun n => k (bits BinOp.xor IntKind.u32 (bits BinOp.xor IntKind.u32 l m) n)) (br (decide (h = (↑1 : Int))) (bn f e a b c d g (b.getD 0 0) fun o => bn f e a b c d g (b.getD 1 0) fun p => bn f e a b c d g (b.getD 2 0) fun q => k (bits BinOp.xor IntKind.u32 (bits BinOp.xor IntKind.u32 o p) q)) (br (decide (h = (↑2 : Int))) (bn f e a b c d g (c.getD 0 0) fun r => bn f e a b c d g (c.getD 1 0) fun s => bn f e a b c d g (c.getD 2 0) fun t => k (bits BinOp.xor IntKind.u32 (bits BinOp.xor IntKind.u32 r s) t)) (br (decide (h = (↑3 : Int))) (bn f e a b c d g (d.getD 0 0) fun u => bn f e a b c d g (d.getD 1 0) fun i => bn f e a b c d g (d.getD 2 0) fun j => k (bits BinOp.xor IntKind.u32 (bits BinOp.xor IntKind.u32 u i) j)) none)))
def jk {ρ : Type} := shut (qb (ρ := ρ))
theorem wm {ρ : Type} (f : Int) (e : Int) (a : List Int) (b : List Int) (c : List Int) (d : List Int) (g : Int) (h : Int) (k : Int → Option ρ) : jk f e a b c d g h k = qb f e a b c d g h k := by unfold jk; rw [fq]

def qo {ρ : Type} (f e : Int) (a b c d : List Int) (g h : Int) (k : Int → Option ρ) : Option ρ := br (decide (h = (↑0 : Int))) (bn f e a b c d g (a.getD 0 (0 : Int)) fun i => bn f e a b c d g (a.getD 1 (0 : Int)) fun j => br (decide (a.getD 2 (0 : Int) < (0 : Int))) none (k (bits BinOp.xor IntKind.u32 (bits BinOp.xor IntKind.u32 i j) (g.fdiv ((2 : Int) ^ min (a.getD 2 (0 : Int)).toNat 32))))) (br (decide (h = (↑1 : Int))) (bn f e a b c d g (b.getD 0 (0 : Int)) fun l => bn f e a b c d g (b.getD 1 (0 : Int)) fun m => br (decide (b.getD 2 (0 : Int) < (0 : Int))) none (k (bits BinOp.xor IntKind.u32 (bits BinOp.xor IntKind.u32 l m) (g.fdiv ((2 : Int) ^ min (b.getD 2 (0 : Int)).toNat 32))))) (br (decide (h = (↑2 : Int))) (bn f e a b c d g (c.getD 0 (0 : Int)) fun n => bn f e a b c d g (c.getD 1 (0 : Int)) fun o => br (decide (c.getD 2 (0 : Int) < (0 : Int))) none (k (bits BinOp.xor IntKind.u32 (bits BinOp.xor IntKind.u32 n o) (g.fdiv ((2 : Int) ^ min (c.getD 2 (0 : Int)).toNat 32))))) (br (decide (h = (↑3 : Int))) (bn f e a b c d g (d.getD 0 (0 : Int)) fun p => bn f e a b c d g (d.getD 1 (0 : Int)) fun q => br (decide (d.getD 2 (0 : Int) < (0 : Int))) none (k (bits BinOp.xor IntKind.u32 (bits BinOp.xor IntKind.u32 p q) (g.fdiv ((2 : Int) ^ min (d.getD 2 (0 : Int)).toNat 32))))) none)))
def jr {ρ : Type} := shut (qo (ρ := ρ))
theorem w9 {ρ : Type} (f : Int) (e : Int) (a : List Int) (b : List Int) (c : List Int) (d : List Int) (g : Int) (h : Int) (k : Int → Option ρ) : jr f e a b c d g h k = qo f e a b c d g h k := by unfold jr; rw [fq]

abbrev zc7 (ρ : Type) := (List Int) → Int → Int → Int → Int → (List Int) → (List Int) → (List Int) → (List Int) → (List Int) → (List Int) → (List Int) → Option ρ
def u7 {ρ : Type} (l : List Int) (b a c d : Int) (e f g h i j k : List Int) (nx m : zc7 ρ) : Option ρ := br (decide (a < 16)) (br (decide (0 ≤ IntKind.i64.wrap (a * b))) (br (decide (IntKind.i64.wrap (a * b) ≤ IntKind.i64.wrap (IntKind.i64.wrap (a + 1) * b))) (br (decide (IntKind.i64.wrap (IntKind.i64.wrap (a + 1) * b) ≤ (↑l.length : Int))) (qh (List.drop (IntKind.i64.wrap (a * b)).toNat (List.take (IntKind.i64.wrap (IntKind.i64.wrap (a + 1) * b)).toNat l)) fun n => br (decide (0 ≤ a)) (br (decide (a < (↑16 : Int))) (nx l b (IntKind.i64.wrap (a + 1)) c d e f g h i j (k.set a.toNat (IntKind.u32.wrap n))) none) none) none) none) none) (m l b a c d e f g h i j k)
abbrev zt7 := (List Int) × Int × Int × Int × Int × (List Int) × (List Int) × (List Int) × (List Int) × (List Int) × (List Int) × (List Int)
abbrev zy7 := zt7
def zu7 {ρ : Type} (f : zt7 → Option ρ) : zc7 ρ := fun l m k a b c d e g h i j => f (l, m, k, a, b, c, d, e, g, h, i, j)
def zs7 {ρ : Type} : ahg zt7 zy7 ρ := fun (k, l, j, a, b, c, d, e, f, g, h, i) next ex => u7 k l j a b c d e f g h i (zu7 next) (zu7 ex)
def zm7 {ρ : Type} := shut (lp (zs7 (ρ := ρ)))
theorem ze7 {ρ : Type} : zm7 (ρ := ρ) = lp zs7 := fq _
def zk7 {ρ : Type} (f : ag6 zt7 zy7 ρ) (l : List Int) (m k a b : Int) (c d e g h i j : List Int) (n : zc7 ρ) : Option ρ := f (l, m, k, a, b, c, d, e, g, h, i, j) (fun (l, m, k, a, b, c, d, e, g, h, i, j) => n l m k a b c d e g h i j)
def aa8 {ρ : Type} := zk7 (lp (zs7 (ρ := ρ)))
def vk {ρ : Type} := zk7 (zm7 (ρ := ρ))
theorem ads {ρ : Type} : vk (ρ := ρ) = aa8 := congrArg zk7 ze7
abbrev zc8 (ρ : Type) := Int → Int → (List Int) → (List Int) → (List Int) → Int → Int → (List Int) → (List Int) → (List Int) → (List Int) → (List Int) → Option ρ
def tu {ρ : Type} (j b : Int) (c k l : List Int) (d e : Int) (f g h i a : List Int) (nx o : zc8 ρ) : Option ρ := br (decide (b < j)) (br (decide (0 ≤ b.tmod 16)) (br (decide (b.tmod 16 < (↑16 : Int))) (jk d e f g h i (a.getD 4 0) 3 fun m => l7 b fun n => jk d e f g h i (a.getD 0 0) 2 fun p => br (decide (0 ≤ (IntKind.i64.wrap (b + 1)).tmod 16)) (br (decide ((IntKind.i64.wrap (b + 1)).tmod 16 < (↑16 : Int))) (jr d e f g h i (c.getD ((IntKind.i64.wrap (b + 1)).tmod 16).toNat 0) 0 fun q => br (decide (0 ≤ (IntKind.i64.wrap (b + 9)).tmod 16)) (br (decide ((IntKind.i64.wrap (b + 9)).tmod 16 < (↑16 : Int))) (br (decide (0 ≤ (IntKind.i64.wrap (b + 14)).tmod 16)) (br (decide ((IntKind.i64.wrap (b + 14)).tmod 16 < (↑16 : Int))) (jr d e f g h i (c.getD ((IntKind.i64.wrap (b + 14)).tmod 16).toNat 0) 1 fun r => br (decide (0 ≤ b.tmod 16)) (br (decide (b.tmod 16 < (↑16 : Int))) (nx j (IntKind.i64.wrap (b + 1)) (c.set (b.tmod 16).toNat (IntKind.u32.wrap (IntKind.u32.wrap (IntKind.u32.wrap (c.getD (b.tmod 16).toNat 0 + q) + c.getD ((IntKind.i64.wrap (b + 9)).tmod 16).toNat 0) + r))) k l d e f g h i ((((List.take 1 a).append (List.take 7 (List.take 7 (List.drop 0 a)) ++ List.drop (1 + min 7 (List.take 7 (List.drop 0 a)).length) a)).set 4 (IntKind.u32.wrap (((List.take 1 a).append (List.take 7 (List.take 7 (List.drop 0 a)) ++ List.drop (1 + min 7 (List.take 7 (List.drop 0 a)).length) a)).getD 4 0 + IntKind.u32.wrap (IntKind.u32.wrap (IntKind.u32.wrap (IntKind.u32.wrap (a.getD 7 0 + m) + bits BinOp.xor IntKind.u32 (a.getD 6 0) (bits BinOp.and IntKind.u32 (a.getD 4 0) (bits BinOp.xor IntKind.u32 (a.getD 5 0) (a.getD 6 0)))) + n) + c.getD (b.tmod 16).toNat 0)))).set 0 (IntKind.u32.wrap (IntKind.u32.wrap (IntKind.u32.wrap (IntKind.u32.wrap (IntKind.u32.wrap (a.getD 7 0 + m) + bits BinOp.xor IntKind.u32 (a.getD 6 0) (bits BinOp.and IntKind.u32 (a.getD 4 0) (bits BinOp.xor IntKind.u32 (a.getD 5 0) (a.getD 6 0)))) + n) + c.getD (b.tmod 16).toNat 0) + IntKind.u32.wrap (p + bits BinOp.or IntKind.u32 (bits BinOp.and IntKind.u32 (a.getD 0 0) (a.getD 1 0)) (bits BinOp.and IntKind.u32 (a.getD 2 0) (bits BinOp.or IntKind.u32 (a.getD 0 0) (a.getD 1 0)))))))) none) none) none) none) none) none) none) none) none) none) (o j b c k l d e f g h i a)
abbrev zt8 := Int × Int × (List Int) × (List Int) × (List Int) × Int × Int × (List Int) × (List Int) × (List Int) × (List Int) × (List Int)
abbrev zy8 := zt8
def zu8 {ρ : Type} (f : zt8 → Option ρ) : zc8 ρ := fun l m a b c d e g h i j k => f (l, m, a, b, c, d, e, g, h, i, j, k)
def zs8 {ρ : Type} : ahg zt8 zy8 ρ := fun (k, l, a, b, c, d, e, f, g, h, i, j) next ex => tu k l a b c d e f g h i j (zu8 next) (zu8 ex)
def zm8 {ρ : Type} := shut (lp (zs8 (ρ := ρ)))
theorem ze8 {ρ : Type} : zm8 (ρ := ρ) = lp zs8 := fq _
def zk8 {ρ : Type} (f : ag6 zt8 zy8 ρ) (l m : Int) (a b c : List Int) (d e : Int) (g h i j k : List Int) (n : zc8 ρ) : Option ρ := f (l, m, a, b, c, d, e, g, h, i, j, k) (fun (l, m, a, b, c, d, e, g, h, i, j, k) => n l m a b c d e g h i j k)
def aao {ρ : Type} := zk8 (lp (zs8 (ρ := ρ)))
def p8 {ρ : Type} := zk8 (zm8 (ρ := ρ))
theorem ado {ρ : Type} : p8 (ρ := ρ) = aao := congrArg zk8 ze8
abbrev zc9 (ρ : Type) := Int → (List Int) → (List Int) → (List Int) → Option ρ
def ug {ρ : Type} (a : Int) (b d c : List Int) (nx e : zc9 ρ) : Option ρ := br (decide (a < 8)) (br (decide (0 ≤ a)) (br (decide (a < (↑8 : Int))) (br (decide (0 ≤ a)) (br (decide (a < (↑8 : Int))) (br (decide (0 ≤ a)) (br (decide (a < (↑8 : Int))) (nx (IntKind.i64.wrap (a + 1)) b d (c.set a.toNat (IntKind.u32.wrap (c.getD a.toNat 0 + b.getD a.toNat 0)))) none) none) none) none) none) none) (e a b d c)
abbrev zt9 := Int × (List Int) × (List Int) × (List Int)
abbrev zy9 := zt9
def zu9 {ρ : Type} (f : zt9 → Option ρ) : zc9 ρ := fun a b c d => f (a, b, c, d)
def zs9 {ρ : Type} : ahg zt9 zy9 ρ := fun (a, b, c, d) next ex => ug a b c d (zu9 next) (zu9 ex)
def zm9 {ρ : Type} := shut (lp (zs9 (ρ := ρ)))
theorem ze9 {ρ : Type} : zm9 (ρ := ρ) = lp zs9 := fq _
def zk9 {ρ : Type} (f : ag6 zt9 zy9 ρ) (a : Int) (b c d : List Int) (e : zc9 ρ) : Option ρ := f (a, b, c, d) (fun (a, b, c, d) => e a b c d)
def aau {ρ : Type} := zk9 (lp (zs9 (ρ := ρ)))
def o7 {ρ : Type} := zk9 (zm9 (ρ := ρ))
theorem adg {ρ : Type} : o7 (ρ := ρ) = aau := congrArg zk9 ze9
def uz {ρ : Type} (a f : Int) (b c d e p q : List Int) (k : (List Int) → Option ρ) : Option ρ := vk q (IntKind.i64.wrap (a.tdiv 8)) 0 a f b c d e p [0, 0, 0, 0, 0, 0, 0, 0] [0, 0, 0, 0, 0, 0, 0, 0, 0, 0, 0, 0, 0, 0, 0, 0] fun N O Q r g s t u v h i j => p8 g 0 j i h r g s t u v h fun w y z l m A B C F G H n => o7 0 m l n fun I J M o => k o
def j5 {ρ : Type} := shut (uz (ρ := ρ))
theorem abb {ρ : Type} (f : Int) (e : Int) (a : List Int) (b : List Int) (c : List Int) (d : List Int) (g : List Int) (h : List Int) (k : (List Int) → Option ρ) : j5 f e a b c d g h k = uz f e a b c d g h k := by unfold j5; rw [fq]

abbrev bl6 (ρ : Type) := (List Int) → (List Int) → Int → Int → Int → (List Int) → (List Int) → (List Int) → (List Int) → (List Int) → (List Int) → (List Int) → Option ρ
def aaw {ρ : Type} (l b : List Int) (a c d : Int) (e f g h i j k : List Int) (nx m : bl6 ρ) : Option ρ := br (decide (a < 8)) (br (decide (0 ≤ a)) (br (decide (a < (↑8 : Int))) (br (decide (0 ≤ a)) (br (decide (a < (↑8 : Int))) (nx l b (IntKind.i64.wrap (a + 1)) c d e f g h i j (k.set a.toNat (IntKind.u32.wrap (b.getD a.toNat 0)))) none) none) none) none) (m l b a c d e f g h i j k)
abbrev bhx := (List Int) × (List Int) × Int × Int × Int × (List Int) × (List Int) × (List Int) × (List Int) × (List Int) × (List Int) × (List Int)
abbrev bnj := bhx
def bm0 {ρ : Type} (f : bhx → Option ρ) : bl6 ρ := fun m k l a b c d e g h i j => f (m, k, l, a, b, c, d, e, g, h, i, j)
def bjr {ρ : Type} : ahg bhx bnj ρ := fun (l, j, k, a, b, c, d, e, f, g, h, i) next ex => aaw l j k a b c d e f g h i (bm0 next) (bm0 ex)
def bnf {ρ : Type} := shut (lp (bjr (ρ := ρ)))
theorem bqn {ρ : Type} : bnf (ρ := ρ) = lp bjr := fq _
def blp {ρ : Type} (f : ag6 bhx bnj ρ) (m k : List Int) (l a b : Int) (c d e g h i j : List Int) (n : bl6 ρ) : Option ρ := f (m, k, l, a, b, c, d, e, g, h, i, j) (fun (m, k, l, a, b, c, d, e, g, h, i, j) => n m k l a b c d e g h i j)
def ac8 {ρ : Type} := blp (lp (bjr (ρ := ρ)))
def aae {ρ : Type} := blp (bnf (ρ := ρ))
theorem afr {ρ : Type} : aae (ρ := ρ) = ac8 := congrArg blp bqn
abbrev bn2 (ρ : Type) := (List Int) → Int → (List Int) → (List Int) → (List Int) → Int → Int → (List Int) → (List Int) → (List Int) → (List Int) → Option ρ
def aaf {ρ : Type} (b : List Int) (a : Int) (i j k : List Int) (c d : Int) (e f g h : List Int) (nx l : bn2 ρ) : Option ρ := br (decide ((↑b.length : Int) ≥ a)) (br (decide (0 ≤ a)) (br (decide (a ≤ (↑b.length : Int))) (j5 c d e f g h i (List.drop 0 (List.take a.toNat b)) fun m => br (decide (0 ≤ a)) (br (decide (a ≤ (↑b.length : Int))) (br (decide ((↑b.length : Int) ≤ (↑b.length : Int))) (nx (List.drop a.toNat (List.take (↑b.length : Int).toNat b)) a m j k c d e f g h) none) none) none) none) none) (l b a i j k c d e f g h)
abbrev bii := (List Int) × Int × (List Int) × (List Int) × (List Int) × Int × Int × (List Int) × (List Int) × (List Int) × (List Int)
abbrev bod := bii
def bpt {ρ : Type} (f : bii → Option ρ) : bn2 ρ := fun l k a b c d e g h i j => f (l, k, a, b, c, d, e, g, h, i, j)
def bh6 {ρ : Type} : ahg bii bod ρ := fun (k, j, a, b, c, d, e, f, g, h, i) next ex => aaf k j a b c d e f g h i (bpt next) (bpt ex)
def boy {ρ : Type} := shut (lp (bh6 (ρ := ρ)))
theorem bp6 {ρ : Type} : boy (ρ := ρ) = lp bh6 := fq _
def bls {ρ : Type} (f : ag6 bii bod ρ) (l : List Int) (k : Int) (a b c : List Int) (d e : Int) (g h i j : List Int) (m : bn2 ρ) : Option ρ := f (l, k, a, b, c, d, e, g, h, i, j) (fun (l, k, a, b, c, d, e, g, h, i, j) => m l k a b c d e g h i j)
def adn {ρ : Type} := bls (lp (bh6 (ρ := ρ)))
def aag {ρ : Type} := bls (boy (ρ := ρ))
theorem afs {ρ : Type} : aag (ρ := ρ) = adn := congrArg bls bp6
abbrev bm7 (ρ : Type) := (List Int) → (List Int) → Int → (List Int) → (List Int) → Option ρ
def zi {ρ : Type} (e b : List Int) (a : Int) (c d : List Int) (nx f : bm7 ρ) : Option ρ := br (decide (a < 8)) (br (decide (0 ≤ a)) (br (decide (a < (↑8 : Int))) (br (decide (0 ≤ a)) (br (decide (a < (↑8 : Int))) (nx e b (IntKind.i64.wrap (a + 1)) (c.set a.toNat (IntKind.u64.wrap (b.getD a.toNat 0))) d) none) none) none) none) (f e b a c d)
abbrev bh3 := (List Int) × (List Int) × Int × (List Int) × (List Int)
abbrev bnx := bh3
def bmk {ρ : Type} (f : bh3 → Option ρ) : bm7 ρ := fun e c d a b => f (e, c, d, a, b)
def zs12 {ρ : Type} : ahg bh3 bnx ρ := fun (e, c, d, a, b) next ex => zi e c d a b (bmk next) (bmk ex)
def bl3 {ρ : Type} := shut (lp (zs12 (ρ := ρ)))
theorem bqv {ρ : Type} : bl3 (ρ := ρ) = lp zs12 := fq _
def blx {ρ : Type} (f : ag6 bh3 bnx ρ) (e c : List Int) (d : Int) (a b : List Int) (g : bm7 ρ) : Option ρ := f (e, c, d, a, b) (fun (e, c, d, a, b) => g e c d a b)
def aci {ρ : Type} := blx (lp (zs12 (ρ := ρ)))
def zu {ρ : Type} := blx (bl3 (ρ := ρ))
theorem afd {ρ : Type} : zu (ρ := ρ) = aci := congrArg blx bqv
def zh {ρ : Type} (f e : Int) (a b c d g r : List Int) (k : (List Int) → (List Int) → Option ρ) : Option ρ := aae r g 0 f e a b c d g [0, 0, 0, 0, 0, 0, 0, 0] [0, 0, 0, 0, 0, 0, 0, 0] fun s O Q h t u v w y z i j => aag s (IntKind.i64.wrap (h * 2)) j i z h t u v w y fun l A m n o B C F G H I => zu l m 0 o n fun p J M q N => k q p
def mq {ρ : Type} := shut (zh (ρ := ρ))
theorem adl {ρ : Type} (f : Int) (e : Int) (a : List Int) (b : List Int) (c : List Int) (d : List Int) (g : List Int) (h : List Int) (k : (List Int) → (List Int) → Option ρ) : mq f e a b c d g h k = zh f e a b c d g h k := by unfold mq; rw [fq]

def ajw {ρ : Type} (k : Int → Int → (List Int) → (List Int) → (List Int) → (List Int) → Option ρ) : Option ρ := k 32 64 [7, 18, 3] [17, 19, 10] [2, 13, 22] [6, 11, 25]
def aam {ρ : Type} := shut (ajw (ρ := ρ))
theorem ami {ρ : Type}  (k : Int → Int → (List Int) → (List Int) → (List Int) → (List Int) → Option ρ) : aam  k = ajw  k := by unfold aam; rw [fq]

def aev {ρ : Type} (a : Int) (k : Int → Option ρ) : Option ρ := br (decide (0 ≤ a)) (br (decide (a < (↑80 : Int))) (k (roots512.getD a.toNat 0)) none) none
def l9 {ρ : Type} := shut (aev (ρ := ρ))
theorem aiq {ρ : Type} (a : Int) (k : Int → Option ρ) : l9 a k = aev a k := by unfold l9; rw [fq]

def ru {ρ : Type} (a g : Int) (b c d e : List Int) (h f : Int) (k : Int → Option ρ) : Option ρ := br (decide (f < 0)) none (br (decide (IntKind.i64.wrap (a - f) < 0)) none (k (bits BinOp.or IntKind.u64 (h.fdiv (2 ^ min f.toNat 64)) (IntKind.u64.wrap (h * 2 ^ min (IntKind.i64.wrap (a - f)).toNat 64)))))
def cu {ρ : Type} := shut (ru (ρ := ρ))
theorem zw {ρ : Type} (f : Int) (e : Int) (a : List Int) (b : List Int) (c : List Int) (d : List Int) (g : Int) (h : Int) (k : Int → Option ρ) : cu f e a b c d g h k = ru f e a b c d g h k := by unfold cu; rw [fq]

def qc {ρ : Type} (f e : Int) (a b c d : List Int) (g h : Int) (k : Int → Option ρ) : Option ρ := br (decide (h = (↑0 : Int))) (cu f e a b c d g (a.getD 0 0) fun l => cu f e a b c d g (a.getD 1 0) fun m => cu f e a b c d g (a.getD 2 0) fun n => k (bits BinOp.xor IntKind.u64 (bits BinOp.xor IntKind.u64 l m) n)) (br (decide (h = (↑1 : Int))) (cu f e a b c d g (b.getD 0 0) fun o => cu f e a b c d g (b.getD 1 0) fun p => cu f e a b c d g (b.getD 2 0) fun q => k (bits BinOp.xor IntKind.u64 (bits BinOp.xor IntKind.u64 o p) q)) (br (decide (h = (↑2 : Int))) (cu f e a b c d g (c.getD 0 0) fun r => cu f e a b c d g (c.getD 1 0) fun s => cu f e a b c d g (c.getD 2 0) fun t => k (bits BinOp.xor IntKind.u64 (bits BinOp.xor IntKind.u64 r s) t)) (br (decide (h = (↑3 : Int))) (cu f e a b c d g (d.getD 0 0) fun u => cu f e a b c d g (d.getD 1 0) fun i => cu f e a b c d g (d.getD 2 0) fun j => k (bits BinOp.xor IntKind.u64 (bits BinOp.xor IntKind.u64 u i) j)) none)))
def ji {ρ : Type} := shut (qc (ρ := ρ))
theorem wh {ρ : Type} (f : Int) (e : Int) (a : List Int) (b : List Int) (c : List Int) (d : List Int) (g : Int) (h : Int) (k : Int → Option ρ) : ji f e a b c d g h k = qc f e a b c d g h k := by unfold ji; rw [fq]

def qm {ρ : Type} (f e : Int) (a b c d : List Int) (g h : Int) (k : Int → Option ρ) : Option ρ := br (decide (h = (↑0 : Int))) (cu f e a b c d g (a.getD 0 (0 : Int)) fun i => cu f e a b c d g (a.getD 1 (0 : Int)) fun j => br (decide (a.getD 2 (0 : Int) < (0 : Int))) none (k (bits BinOp.xor IntKind.u64 (bits BinOp.xor IntKind.u64 i j) (g.fdiv ((2 : Int) ^ min (a.getD 2 (0 : Int)).toNat 64))))) (br (decide (h = (↑1 : Int))) (cu f e a b c d g (b.getD 0 (0 : Int)) fun l => cu f e a b c d g (b.getD 1 (0 : Int)) fun m => br (decide (b.getD 2 (0 : Int) < (0 : Int))) none (k (bits BinOp.xor IntKind.u64 (bits BinOp.xor IntKind.u64 l m) (g.fdiv ((2 : Int) ^ min (b.getD 2 (0 : Int)).toNat 64))))) (br (decide (h = (↑2 : Int))) (cu f e a b c d g (c.getD 0 (0 : Int)) fun n => cu f e a b c d g (c.getD 1 (0 : Int)) fun o => br (decide (c.getD 2 (0 : Int) < (0 : Int))) none (k (bits BinOp.xor IntKind.u64 (bits BinOp.xor IntKind.u64 n o) (g.fdiv ((2 : Int) ^ min (c.getD 2 (0 : Int)).toNat 64))))) (br (decide (h = (↑3 : Int))) (cu f e a b c d g (d.getD 0 (0 : Int)) fun p => cu f e a b c d g (d.getD 1 (0 : Int)) fun q => br (decide (d.getD 2 (0 : Int) < (0 : Int))) none (k (bits BinOp.xor IntKind.u64 (bits BinOp.xor IntKind.u64 p q) (g.fdiv ((2 : Int) ^ min (d.getD 2 (0 : Int)).toNat 64))))) none)))
def jq {ρ : Type} := shut (qm (ρ := ρ))
theorem xq {ρ : Type} (f : Int) (e : Int) (a : List Int) (b : List Int) (c : List Int) (d : List Int) (g : Int) (h : Int) (k : Int → Option ρ) : jq f e a b c d g h k = qm f e a b c d g h k := by unfold jq; rw [fq]

abbrev bmw (ρ : Type) := (List Int) → Int → Int → Int → Int → (List Int) → (List Int) → (List Int) → (List Int) → (List Int) → (List Int) → (List Int) → Option ρ
def vg {ρ : Type} (l : List Int) (b a c d : Int) (e f g h i j k : List Int) (nx m : bmw ρ) : Option ρ := br (decide (a < 16)) (br (decide (0 ≤ IntKind.i64.wrap (a * b))) (br (decide (IntKind.i64.wrap (a * b) ≤ IntKind.i64.wrap (IntKind.i64.wrap (a + 1) * b))) (br (decide (IntKind.i64.wrap (IntKind.i64.wrap (a + 1) * b) ≤ (↑l.length : Int))) (qh (List.drop (IntKind.i64.wrap (a * b)).toNat (List.take (IntKind.i64.wrap (IntKind.i64.wrap (a + 1) * b)).toNat l)) fun n => br (decide (0 ≤ a)) (br (decide (a < (↑16 : Int))) (nx l b (IntKind.i64.wrap (a + 1)) c d e f g h i j (k.set a.toNat n)) none) none) none) none) none) (m l b a c d e f g h i j k)
abbrev bjq := (List Int) × Int × Int × Int × Int × (List Int) × (List Int) × (List Int) × (List Int) × (List Int) × (List Int) × (List Int)
abbrev bnw := bjq
def bor {ρ : Type} (f : bjq → Option ρ) : bmw ρ := fun l m k a b c d e g h i j => f (l, m, k, a, b, c, d, e, g, h, i, j)
def bkj {ρ : Type} : ahg bjq bnw ρ := fun (k, l, j, a, b, c, d, e, f, g, h, i) next ex => vg k l j a b c d e f g h i (bor next) (bor ex)
def bl8 {ρ : Type} := shut (lp (bkj (ρ := ρ)))
theorem bp2 {ρ : Type} : bl8 (ρ := ρ) = lp bkj := fq _
def bkz {ρ : Type} (f : ag6 bjq bnw ρ) (l : List Int) (m k a b : Int) (c d e g h i j : List Int) (n : bmw ρ) : Option ρ := f (l, m, k, a, b, c, d, e, g, h, i, j) (fun (l, m, k, a, b, c, d, e, g, h, i, j) => n l m k a b c d e g h i j)
def abd {ρ : Type} := bkz (lp (bkj (ρ := ρ)))
def vo {ρ : Type} := bkz (bl8 (ρ := ρ))
theorem adv {ρ : Type} : vo (ρ := ρ) = abd := congrArg bkz bp2
abbrev bmb (ρ : Type) := Int → Int → (List Int) → (List Int) → (List Int) → Int → Int → (List Int) → (List Int) → (List Int) → (List Int) → (List Int) → Option ρ
def uw {ρ : Type} (j b : Int) (c k l : List Int) (d e : Int) (f g h i a : List Int) (nx o : bmb ρ) : Option ρ := br (decide (b < j)) (br (decide (0 ≤ b.tmod 16)) (br (decide (b.tmod 16 < (↑16 : Int))) (ji d e f g h i (a.getD 4 0) 3 fun m => l9 b fun n => ji d e f g h i (a.getD 0 0) 2 fun p => br (decide (0 ≤ (IntKind.i64.wrap (b + 1)).tmod 16)) (br (decide ((IntKind.i64.wrap (b + 1)).tmod 16 < (↑16 : Int))) (jq d e f g h i (c.getD ((IntKind.i64.wrap (b + 1)).tmod 16).toNat 0) 0 fun q => br (decide (0 ≤ (IntKind.i64.wrap (b + 9)).tmod 16)) (br (decide ((IntKind.i64.wrap (b + 9)).tmod 16 < (↑16 : Int))) (br (decide (0 ≤ (IntKind.i64.wrap (b + 14)).tmod 16)) (br (decide ((IntKind.i64.wrap (b + 14)).tmod 16 < (↑16 : Int))) (jq d e f g h i (c.getD ((IntKind.i64.wrap (b + 14)).tmod 16).toNat 0) 1 fun r => br (decide (0 ≤ b.tmod 16)) (br (decide (b.tmod 16 < (↑16 : Int))) (nx j (IntKind.i64.wrap (b + 1)) (c.set (b.tmod 16).toNat (IntKind.u64.wrap (IntKind.u64.wrap (IntKind.u64.wrap (c.getD (b.tmod 16).toNat 0 + q) + c.getD ((IntKind.i64.wrap (b + 9)).tmod 16).toNat 0) + r))) k l d e f g h i ((((List.take 1 a).append (List.take 7 (List.take 7 (List.drop 0 a)) ++ List.drop (1 + min 7 (List.take 7 (List.drop 0 a)).length) a)).set 4 (IntKind.u64.wrap (((List.take 1 a).append (List.take 7 (List.take 7 (List.drop 0 a)) ++ List.drop (1 + min 7 (List.take 7 (List.drop 0 a)).length) a)).getD 4 0 + IntKind.u64.wrap (IntKind.u64.wrap (IntKind.u64.wrap (IntKind.u64.wrap (a.getD 7 0 + m) + bits BinOp.xor IntKind.u64 (a.getD 6 0) (bits BinOp.and IntKind.u64 (a.getD 4 0) (bits BinOp.xor IntKind.u64 (a.getD 5 0) (a.getD 6 0)))) + n) + c.getD (b.tmod 16).toNat 0)))).set 0 (IntKind.u64.wrap (IntKind.u64.wrap (IntKind.u64.wrap (IntKind.u64.wrap (IntKind.u64.wrap (a.getD 7 0 + m) + bits BinOp.xor IntKind.u64 (a.getD 6 0) (bits BinOp.and IntKind.u64 (a.getD 4 0) (bits BinOp.xor IntKind.u64 (a.getD 5 0) (a.getD 6 0)))) + n) + c.getD (b.tmod 16).toNat 0) + IntKind.u64.wrap (p + bits BinOp.or IntKind.u64 (bits BinOp.and IntKind.u64 (a.getD 0 0) (a.getD 1 0)) (bits BinOp.and IntKind.u64 (a.getD 2 0) (bits BinOp.or IntKind.u64 (a.getD 0 0) (a.getD 1 0)))))))) none) none) none) none) none) none) none) none) none) none) (o j b c k l d e f g h i a)
abbrev bi7 := Int × Int × (List Int) × (List Int) × (List Int) × Int × Int × (List Int) × (List Int) × (List Int) × (List Int) × (List Int)
abbrev bma := bi7
def bn3 {ρ : Type} (f : bi7 → Option ρ) : bmb ρ := fun l m a b c d e g h i j k => f (l, m, a, b, c, d, e, g, h, i, j, k)
def bjg {ρ : Type} : ahg bi7 bma ρ := fun (k, l, a, b, c, d, e, f, g, h, i, j) next ex => uw k l a b c d e f g h i j (bn3 next) (bn3 ex)
def bm3 {ρ : Type} := shut (lp (bjg (ρ := ρ)))
theorem bqt {ρ : Type} : bm3 (ρ := ρ) = lp bjg := fq _
def blr {ρ : Type} (f : ag6 bi7 bma ρ) (l m : Int) (a b c : List Int) (d e : Int) (g h i j k : List Int) (n : bmb ρ) : Option ρ := f (l, m, a, b, c, d, e, g, h, i, j, k) (fun (l, m, a, b, c, d, e, g, h, i, j, k) => n l m a b c d e g h i j k)
def aa0 {ρ : Type} := blr (lp (bjg (ρ := ρ)))
def o9 {ρ : Type} := blr (bm3 (ρ := ρ))
theorem adk {ρ : Type} : o9 (ρ := ρ) = aa0 := congrArg blr bqt
abbrev bn0 (ρ : Type) := Int → (List Int) → (List Int) → (List Int) → Option ρ
def uf {ρ : Type} (a : Int) (b d c : List Int) (nx e : bn0 ρ) : Option ρ := br (decide (a < 8)) (br (decide (0 ≤ a)) (br (decide (a < (↑8 : Int))) (br (decide (0 ≤ a)) (br (decide (a < (↑8 : Int))) (br (decide (0 ≤ a)) (br (decide (a < (↑8 : Int))) (nx (IntKind.i64.wrap (a + 1)) b d (c.set a.toNat (IntKind.u64.wrap (c.getD a.toNat 0 + b.getD a.toNat 0)))) none) none) none) none) none) none) (e a b d c)
abbrev bi0 := Int × (List Int) × (List Int) × (List Int)
abbrev bmu := bi0
def bmf {ρ : Type} (f : bi0 → Option ρ) : bn0 ρ := fun a b c d => f (a, b, c, d)
def bjv {ρ : Type} : ahg bi0 bmu ρ := fun (a, b, c, d) next ex => uf a b c d (bmf next) (bmf ex)
def bok {ρ : Type} := shut (lp (bjv (ρ := ρ)))
theorem bqh {ρ : Type} : bok (ρ := ρ) = lp bjv := fq _
def blv {ρ : Type} (f : ag6 bi0 bmu ρ) (a : Int) (b c d : List Int) (e : bn0 ρ) : Option ρ := f (a, b, c, d) (fun (a, b, c, d) => e a b c d)
def aai {ρ : Type} := blv (lp (bjv (ρ := ρ)))
def ou {ρ : Type} := blv (bok (ρ := ρ))
theorem ade {ρ : Type} : ou (ρ := ρ) = aai := congrArg blv bqh
def uh {ρ : Type} (a f : Int) (b c d e p q : List Int) (k : (List Int) → Option ρ) : Option ρ := vo q (IntKind.i64.wrap (a.tdiv 8)) 0 a f b c d e p [0, 0, 0, 0, 0, 0, 0, 0] [0, 0, 0, 0, 0, 0, 0, 0, 0, 0, 0, 0, 0, 0, 0, 0] fun N O Q r g s t u v h i j => o9 g 0 j i h r g s t u v h fun w y z l m A B C F G H n => ou 0 m l n fun I J M o => k o
def j6 {ρ : Type} := shut (uh (ρ := ρ))
theorem aa9 {ρ : Type} (f : Int) (e : Int) (a : List Int) (b : List Int) (c : List Int) (d : List Int) (g : List Int) (h : List Int) (k : (List Int) → Option ρ) : j6 f e a b c d g h k = uh f e a b c d g h k := by unfold j6; rw [fq]

abbrev bno (ρ : Type) := (List Int) → (List Int) → Int → Int → Int → (List Int) → (List Int) → (List Int) → (List Int) → (List Int) → (List Int) → (List Int) → Option ρ
def aad {ρ : Type} (l b : List Int) (a c d : Int) (e f g h i j k : List Int) (nx m : bno ρ) : Option ρ := br (decide (a < 8)) (br (decide (0 ≤ a)) (br (decide (a < (↑8 : Int))) (br (decide (0 ≤ a)) (br (decide (a < (↑8 : Int))) (nx l b (IntKind.i64.wrap (a + 1)) c d e f g h i j (k.set a.toNat (b.getD a.toNat 0))) none) none) none) none) (m l b a c d e f g h i j k)
abbrev bi8 := (List Int) × (List Int) × Int × Int × Int × (List Int) × (List Int) × (List Int) × (List Int) × (List Int) × (List Int) × (List Int)
abbrev bo8 := bi8
def bmz {ρ : Type} (f : bi8 → Option ρ) : bno ρ := fun m k l a b c d e g h i j => f (m, k, l, a, b, c, d, e, g, h, i, j)
def bhz {ρ : Type} : ahg bi8 bo8 ρ := fun (l, j, k, a, b, c, d, e, f, g, h, i) next ex => aad l j k a b c d e f g h i (bmz next) (bmz ex)
def bov {ρ : Type} := shut (lp (bhz (ρ := ρ)))
theorem bqw {ρ : Type} : bov (ρ := ρ) = lp bhz := fq _
def blz {ρ : Type} (f : ag6 bi8 bo8 ρ) (m k : List Int) (l a b : Int) (c d e g h i j : List Int) (n : bno ρ) : Option ρ := f (m, k, l, a, b, c, d, e, g, h, i, j) (fun (m, k, l, a, b, c, d, e, g, h, i, j) => n m k l a b c d e g h i j)
def adi {ρ : Type} := blz (lp (bhz (ρ := ρ)))
def aaz {ρ : Type} := blz (bov (ρ := ρ))
theorem afo {ρ : Type} : aaz (ρ := ρ) = adi := congrArg blz bqw
abbrev bn8 (ρ : Type) := (List Int) → Int → (List Int) → (List Int) → (List Int) → Int → Int → (List Int) → (List Int) → (List Int) → (List Int) → Option ρ
def aar {ρ : Type} (b : List Int) (a : Int) (i j k : List Int) (c d : Int) (e f g h : List Int) (nx l : bn8 ρ) : Option ρ := br (decide ((↑b.length : Int) ≥ a)) (br (decide (0 ≤ a)) (br (decide (a ≤ (↑b.length : Int))) (j6 c d e f g h i (List.drop 0 (List.take a.toNat b)) fun m => br (decide (0 ≤ a)) (br (decide (a ≤ (↑b.length : Int))) (br (decide ((↑b.length : Int) ≤ (↑b.length : Int))) (nx (List.drop a.toNat (List.take (↑b.length : Int).toNat b)) a m j k c d e f g h) none) none) none) none) none) (l b a i j k c d e f g h)
abbrev bix := (List Int) × Int × (List Int) × (List Int) × (List Int) × Int × Int × (List Int) × (List Int) × (List Int) × (List Int)
abbrev bof := bix
def bmv {ρ : Type} (f : bix → Option ρ) : bn8 ρ := fun l k a b c d e g h i j => f (l, k, a, b, c, d, e, g, h, i, j)
def bh7 {ρ : Type} : ahg bix bof ρ := fun (k, j, a, b, c, d, e, f, g, h, i) next ex => aar k j a b c d e f g h i (bmv next) (bmv ex)
def bnv {ρ : Type} := shut (lp (bh7 (ρ := ρ)))
theorem bp4 {ρ : Type} : bnv (ρ := ρ) = lp bh7 := fq _
def bk6 {ρ : Type} (f : ag6 bix bof ρ) (l : List Int) (k : Int) (a b c : List Int) (d e : Int) (g h i j : List Int) (m : bn8 ρ) : Option ρ := f (l, k, a, b, c, d, e, g, h, i, j) (fun (l, k, a, b, c, d, e, g, h, i, j) => m l k a b c d e g h i j)
def ada {ρ : Type} := bk6 (lp (bh7 (ρ := ρ)))
def aaj {ρ : Type} := bk6 (bnv (ρ := ρ))
theorem afy {ρ : Type} : aaj (ρ := ρ) = ada := congrArg bk6 bp4
abbrev bng (ρ : Type) := (List Int) → (List Int) → Int → (List Int) → (List Int) → Option ρ
def zo {ρ : Type} (e b : List Int) (a : Int) (c d : List Int) (nx f : bng ρ) : Option ρ := br (decide (a < 8)) (br (decide (0 ≤ a)) (br (decide (a < (↑8 : Int))) (br (decide (0 ≤ a)) (br (decide (a < (↑8 : Int))) (nx e b (IntKind.i64.wrap (a + 1)) (c.set a.toNat (b.getD a.toNat 0)) d) none) none) none) none) (f e b a c d)
abbrev bj4 := (List Int) × (List Int) × Int × (List Int) × (List Int)
abbrev boe := bj4
def bnu {ρ : Type} (f : bj4 → Option ρ) : bng ρ := fun e c d a b => f (e, c, d, a, b)
def bic {ρ : Type} : ahg bj4 boe ρ := fun (e, c, d, a, b) next ex => zo e c d a b (bnu next) (bnu ex)
def bnz {ρ : Type} := shut (lp (bic (ρ := ρ)))
theorem bqg {ρ : Type} : bnz (ρ := ρ) = lp bic := fq _
def blm {ρ : Type} (f : ag6 bj4 boe ρ) (e c : List Int) (d : Int) (a b : List Int) (g : bng ρ) : Option ρ := f (e, c, d, a, b) (fun (e, c, d, a, b) => g e c d a b)
def ach {ρ : Type} := blm (lp (bic (ρ := ρ)))
def zq {ρ : Type} := blm (bnz (ρ := ρ))
theorem afg {ρ : Type} : zq (ρ := ρ) = ach := congrArg blm bqg
def zk {ρ : Type} (f e : Int) (a b c d g r : List Int) (k : (List Int) → (List Int) → Option ρ) : Option ρ := aaz r g 0 f e a b c d g [0, 0, 0, 0, 0, 0, 0, 0] [0, 0, 0, 0, 0, 0, 0, 0] fun s O Q h t u v w y z i j => aaj s (IntKind.i64.wrap (h * 2)) j i z h t u v w y fun l A m n o B C F G H I => zq l m 0 o n fun p J M q N => k q p
def mo {ρ : Type} := shut (zk (ρ := ρ))
theorem ac9 {ρ : Type} (f : Int) (e : Int) (a : List Int) (b : List Int) (c : List Int) (d : List Int) (g : List Int) (h : List Int) (k : (List Int) → (List Int) → Option ρ) : mo f e a b c d g h k = zk f e a b c d g h k := by unfold mo; rw [fq]

def aj8 {ρ : Type} (k : Int → Int → (List Int) → (List Int) → (List Int) → (List Int) → Option ρ) : Option ρ := k 64 80 [1, 8, 7] [19, 61, 6] [28, 34, 39] [14, 18, 41]
def aay {ρ : Type} := shut (aj8 (ρ := ρ))
theorem amj {ρ : Type}  (k : Int → Int → (List Int) → (List Int) → (List Int) → (List Int) → Option ρ) : aay  k = aj8  k := by unfold aay; rw [fq]

def ajg {ρ : Type} (a : Int) (b d : List Int) (c : Int) (e : List Int) (k : Int → (List Int) → (List Int) → Int → Option ρ) : Option ρ := jg [d, e] fun f => br (a == 1) (aam fun q r s t u v => mq q r s t u v b f fun w y => gy y fun z => k a w z (IntKind.u64.wrap (c + IntKind.u64.wrap (↑e.length : Int)))) (aay fun g h i j l m => mo g h i j l m b f fun n o => gy o fun p => k a n p (IntKind.u64.wrap (c + IntKind.u64.wrap (↑e.length : Int))))
def abj {ρ : Type} := shut (ajg (ρ := ρ))
theorem aqy {ρ : Type} (b : Int) (a : List Int) (c : List Int) (d : Int) (e : List Int) (k : Int → (List Int) → (List Int) → Int → Option ρ) : abj b a c d e k = ajg b a c d e k := by unfold abj; rw [fq]

def acs {ρ : Type} (a : Int) (k : Int → Option ρ) : Option ρ := br (a == 1) (k 64) (k 128)
def ow {ρ : Type} := shut (acs (ρ := ρ))
theorem agz {ρ : Type} (a : Int) (k : Int → Option ρ) : ow a k = acs a k := by unfold ow; rw [fq]

abbrev bn7 (ρ : Type) := Int → (List Int) → Int → (List Int) → Int → (List Int) → Int → (List Int) → Option ρ
def ajo {ρ : Type} (g : Int) (b : List Int) (a : Int) (c : List Int) (d : Int) (e : List Int) (f : Int) (h : List Int) (nx j : bn7 ρ) : Option ρ := br (decide (a < 8)) (br (decide (0 ≤ a)) (br (decide (a < (↑8 : Int))) (yx (b.getD a.toNat 0) (IntKind.i64.wrap (g.tdiv 16)) fun i => br (decide ((c.length + i.length) * 1 ≤ 140737488355328)) (nx g b (IntKind.i64.wrap (a + 1)) (c ++ i) d e f h) none) none) none) (j g b a c d e f h)
abbrev bjc := Int × (List Int) × Int × (List Int) × Int × (List Int) × Int × (List Int)
abbrev bml := bjc
def bm6 {ρ : Type} (f : bjc → Option ρ) : bn7 ρ := fun h d e g a b c i => f (h, d, e, g, a, b, c, i)
def bj3 {ρ : Type} : ahg bjc bml ρ := fun (g, d, e, f, a, b, c, h) next ex => ajo g d e f a b c h (bm6 next) (bm6 ex)
def boc {ρ : Type} := shut (lp (bj3 (ρ := ρ)))
theorem bqm {ρ : Type} : boc (ρ := ρ) = lp bj3 := fq _
def bk8 {ρ : Type} (f : ag6 bjc bml ρ) (h : Int) (d : List Int) (e : Int) (g : List Int) (a : Int) (b : List Int) (c : Int) (i : List Int) (j : bn7 ρ) : Option ρ := f (h, d, e, g, a, b, c, i) (fun (h, d, e, g, a, b, c, i) => j h d e g a b c i)
def apg {ρ : Type} := bk8 (lp (bj3 (ρ := ρ)))
def ai4 {ρ : Type} := bk8 (boc (ρ := ρ))
theorem apy {ρ : Type} : ai4 (ρ := ρ) = apg := congrArg bk8 bqm
def ai1 {ρ : Type} (c : Int) (e a : List Int) (d : Int) (k : (List Int) → Option ρ) : Option ρ := ow c fun b => br (decide (1 ≤ b)) (br (decide (b * (↑1 : Int) ≤ (↑140737488355328 : Int))) (br (decide (b = 0)) none (br (decide (0 ≤ IntKind.i64.wrap (IntKind.i64.wrap ((IntKind.i64.wrap (IntKind.i64.wrap (IntKind.i64.wrap (IntKind.i64.wrap (2 * b) - 1) - IntKind.i64.wrap (b.tdiv 8)) - (↑a.length : Int))).tmod b + IntKind.i64.wrap (b.tdiv 8)) - 8))) (br (decide ((1 + (IntKind.i64.wrap (IntKind.i64.wrap ((IntKind.i64.wrap (IntKind.i64.wrap (IntKind.i64.wrap (IntKind.i64.wrap (2 * b) - 1) - IntKind.i64.wrap (b.tdiv 8)) - (↑a.length : Int))).tmod b + IntKind.i64.wrap (b.tdiv 8)) - 8)).toNat) * 1 ≤ 140737488355328)) (yx (IntKind.u64.wrap (d * 2 ^ 3)) 8 fun g => br (decide ((((List.replicate (IntKind.i64.wrap (IntKind.i64.wrap ((IntKind.i64.wrap (IntKind.i64.wrap (IntKind.i64.wrap (IntKind.i64.wrap (2 * b) - 1) - IntKind.i64.wrap (b.tdiv 8)) - (↑a.length : Int))).tmod b + IntKind.i64.wrap (b.tdiv 8)) - 8)).toNat (0 : Int)).length.add 0).succ + g.length) * 1 ≤ 140737488355328)) (abj c e a d ((List.replicate 1 (0 : Int)).set 0 128 ++ List.replicate (IntKind.i64.wrap (IntKind.i64.wrap ((IntKind.i64.wrap (IntKind.i64.wrap (IntKind.i64.wrap (IntKind.i64.wrap (2 * b) - 1) - IntKind.i64.wrap (b.tdiv 8)) - (↑a.length : Int))).tmod b + IntKind.i64.wrap (b.tdiv 8)) - 8)).toNat (0 : Int) ++ g) fun j h l m => ai4 b h 0 [] j h m l fun q r s f i n o p => br (i == 2) (br (decide (48 ≤ (↑f.length : Int))) (k (List.take ((48 : Int) - (0 : Int)).toNat f)) none) (k f)) none) none) none)) none) none
def aek {ρ : Type} := shut (ai1 (ρ := ρ))
theorem ap5 {ρ : Type} (b : Int) (a : List Int) (c : List Int) (d : Int) (k : (List Int) → Option ρ) : aek b a c d k = ai1 b a c d k := by unfold aek; rw [fq]

def aja {ρ : Type} (b : Int) (c : List Int) (k : (List Int) → Int → Option ρ) : Option ρ := aeo b fun d e f g a => br (a != 0) (k [] a) (abj d e f g c fun h i j l => aek h i j l fun m => k m 0)
def abk {ρ : Type} := shut (aja (ρ := ρ))
theorem ap9 {ρ : Type} (a : Int) (b : List Int) (k : (List Int) → Int → Option ρ) : abk a b k = aja a b k := by unfold abk; rw [fq]

abbrev bmo (ρ : Type) := (List Int) → (List Int) → Int → Int → Int → Option ρ
def ahh {ρ : Type} (c d : List Int) (e b a : Int) (nx f : bmo ρ) : Option ρ := br (decide (a < b)) (br (decide (0 ≤ a)) (br (decide (a < (↑c.length : Int))) (br (decide (0 ≤ a)) (br (decide (a < (↑d.length : Int))) (nx c d (bits BinOp.or IntKind.u8 e (bits BinOp.xor IntKind.u8 (c.getD a.toNat 0) (d.getD a.toNat 0))) b (IntKind.i64.wrap (a + 1))) none) none) none) none) (f c d e b a)
abbrev bjm := (List Int) × (List Int) × Int × Int × Int
abbrev bm2 := bjm
def bpo {ρ : Type} (f : bjm → Option ρ) : bmo ρ := fun c d e a b => f (c, d, e, a, b)
def bje {ρ : Type} : ahg bjm bm2 ρ := fun (c, d, e, a, b) next ex => ahh c d e a b (bpo next) (bpo ex)
def bmm {ρ : Type} := shut (lp (bje (ρ := ρ)))
theorem bp5 {ρ : Type} : bmm (ρ := ρ) = lp bje := fq _
def bk7 {ρ : Type} (f : ag6 bjm bm2 ρ) (c d : List Int) (e a b : Int) (g : bmo ρ) : Option ρ := f (c, d, e, a, b) (fun (c, d, e, a, b) => g c d e a b)
def amf {ρ : Type} := bk7 (lp (bje (ρ := ρ)))
def amc {ρ : Type} := bk7 (bmm (ρ := ρ))
theorem apr {ρ : Type} : amc (ρ := ρ) = amf := congrArg bk7 bp5
def af2 {ρ : Type} (a b : List Int) (k : Bool → Option ρ) : Option ρ := br ((↑a.length : Int) != (↑b.length : Int)) (k false) (amc a b 0 (↑a.length : Int) 0 fun d e c f g => k (c == 0))
def aax {ρ : Type} := shut (af2 (ρ := ρ))
theorem amr {ρ : Type} (a : List Int) (b : List Int) (k : Bool → Option ρ) : aax a b k = af2 a b k := by unfold aax; rw [fq]

def aei {ρ : Type} (a : List Int) (k : Int → Int → Bool → Option ρ) : Option ρ := br ((↑a.length : Int) != 48) (k 0 0 false) (br (decide (16 ≤ (↑a.length : Int))) (abk 1 (List.drop 0 (List.take (Int.toNat 16) a)) fun b f => br (decide (16 ≤ (↑a.length : Int))) (br (decide ((↑a.length : Int) ≤ (↑a.length : Int))) (aax b (List.drop 16 (List.take (↑a.length : Int).toNat a)) fun c => br (!c) (k 0 0 false) (br (decide (8 ≤ (↑a.length : Int))) (qh (List.drop 0 (List.take (Int.toNat 8) a)) fun d => br (decide (16 ≤ (↑a.length : Int))) (qh (List.drop 8 (List.take (Int.toNat 16) a)) fun e => k d e true) none) none)) none) none) none)
def l8 {ρ : Type} := shut (aei (ρ := ρ))
theorem ait {ρ : Type} (a : List Int) (k : Int → Int → Bool → Option ρ) : l8 a k = aei a k := by unfold l8; rw [fq]

abbrev bmq (ρ : Type) := (List Int) → (List Int) → Int → Int → Int → Int → Int → Int → Int → Option ρ
def abg {ρ : Type} (a b : List Int) (e c d f h i g : Int) (nx n : bmq ρ) : Option ρ := br (decide (e < 2)) (br (decide (e = (↑0 : Int))) (l8 a fun j l o => br o (br (g != 0) (nx a b (IntKind.i64.wrap (e + 1)) c d j l e 0) (br (decide (j > f)) (nx a b (IntKind.i64.wrap (e + 1)) c d j l e 0) (nx a b (IntKind.i64.wrap (e + 1)) c d f h i g))) (nx a b (IntKind.i64.wrap (e + 1)) c d f h i g)) (br (decide (e = (↑1 : Int))) (l8 b fun k m p => br p (br (g != 0) (nx a b (IntKind.i64.wrap (e + 1)) c d k m e 0) (br (decide (k > f)) (nx a b (IntKind.i64.wrap (e + 1)) c d k m e 0) (nx a b (IntKind.i64.wrap (e + 1)) c d f h i g))) (nx a b (IntKind.i64.wrap (e + 1)) c d f h i g)) none)) (n a b e c d f h i g)
abbrev bie := (List Int) × (List Int) × Int × Int × Int × Int × Int × Int × Int
abbrev bo6 := bie
def bl2 {ρ : Type} (f : bie → Option ρ) : bmq ρ := fun a b j c d e g h i => f (a, b, j, c, d, e, g, h, i)
def bja {ρ : Type} : ahg bie bo6 ρ := fun (a, b, i, c, d, e, f, g, h) next ex => abg a b i c d e f g h (bl2 next) (bl2 ex)
def bmi {ρ : Type} := shut (lp (bja (ρ := ρ)))
theorem bp8 {ρ : Type} : bmi (ρ := ρ) = lp bja := fq _
def bk5 {ρ : Type} (f : ag6 bie bo6 ρ) (a b : List Int) (j c d e g h i : Int) (k : bmq ρ) : Option ρ := f (a, b, j, c, d, e, g, h, i) (fun (a, b, j, c, d, e, g, h, i) => k a b j c d e g h i)
def agx {ρ : Type} := bk5 (lp (bja (ρ := ρ)))
def agq {ρ : Type} := bk5 (bmi (ρ := ρ))
theorem ajj {ρ : Type} : agq (ρ := ρ) = agx := congrArg bk5 bp8
def aer {ρ : Type} (a b : List Int) (k : Int → Int → Int → Int → Option ρ) : Option ρ := agq a b 0 0 0 0 0 0 21 fun g h i j l c d e f => k c d e f
def dh {ρ : Type} := shut (aer (ρ := ρ))
theorem aio {ρ : Type} (a : List Int) (b : List Int) (k : Int → Int → Int → Int → Option ρ) : dh a b k = aer a b k := by unfold dh; rw [fq]

def afa {ρ : Type} (a b : List Int) (c d : Int) (k : (List Int) → (List Int) → Int → Int → Int → Int → Bool → Int → Option ρ) : Option ρ := br (decide (c > 1152921504606846976)) (k [] [] 0 0 0 0 false 8) (br (decide (d < 1)) (k [] [] 0 0 0 0 false 8) (br (decide (d > 4294967296)) (k [] [] 0 0 0 0 false 8) (dh a b fun g e j f => br (f != 0) (k [] [] 0 0 0 0 false f) (br (decide (e > c)) (k [] [] 0 0 0 0 false 8) (br (decide (g ≥ 1152921504606846976)) (k [] [] 0 0 0 0 false 8) (gy a fun h => gy b fun i => k h i c d e e true 0))))))
def ig {ρ : Type} := shut (afa (ρ := ρ))
theorem akz {ρ : Type} (a : List Int) (b : List Int) (c : Int) (d : Int) (k : (List Int) → (List Int) → Int → Int → Int → Int → Bool → Int → Option ρ) : ig a b c d k = afa a b c d k := by unfold ig; rw [fq]

def agm {ρ : Type} (a : List (List Int)) (k : (List Int) → Option ρ) : Option ρ := jg a fun b => k b
def aak {ρ : Type} := shut (agm (ρ := ρ))
theorem aml {ρ : Type} (a : List (List Int)) (k : (List Int) → Option ρ) : aak a k = agm a k := by unfold aak; rw [fq]

def adt {ρ : Type} (a b : Int) (k : (List Int) → Option ρ) : Option ρ := yx a 8 fun e => yx b 8 fun f => aak [e, f] fun c => abk 1 c fun d g => br (decide ((c.length + d.length) * 1 ≤ 140737488355328)) (k (c ++ d)) none
def lq {ρ : Type} := shut (adt (ρ := ρ))
theorem ag5 {ρ : Type} (a : Int) (b : Int) (k : (List Int) → Option ρ) : lq a b k = adt a b k := by unfold lq; rw [fq]

def afl {ρ : Type} (k : (List Int) → (List Int) → Option ρ) : Option ρ := lq 0 0 fun a => lq 0 0 fun b => k a b
def xk {ρ : Type} := shut (afl (ρ := ρ))
theorem akt {ρ : Type}  (k : (List Int) → (List Int) → Option ρ) : xk  k = afl  k := by unfold xk; rw [fq]

def af0 {ρ : Type} (a b : Int) (k : (List Int) → (List Int) → Int → Int → Int → Int → Bool → Int → Option ρ) : Option ρ := xk fun c d => ig c d a b fun e f g h i j l m => k e f g h i j l m
def uy {ρ : Type} := shut (af0 (ρ := ρ))
theorem amo {ρ : Type} (a : Int) (b : Int) (k : (List Int) → (List Int) → Int → Int → Int → Int → Bool → Int → Option ρ) : uy a b k = af0 a b k := by unfold uy; rw [fq]

def acz {ρ : Type} (a b : List Int) (k : (List Int) → (List Int) → Option ρ) : Option ρ := gy a fun c => gy b fun d => k c d
def l5 {ρ : Type} := shut (acz (ρ := ρ))
theorem agv {ρ : Type} (a : List Int) (b : List Int) (k : (List Int) → (List Int) → Option ρ) : l5 a b k = acz a b k := by unfold l5; rw [fq]

def aed {ρ : Type} (a b h : List Int) (k : (List Int) → (List Int) → Int → Int → Option ρ) : Option ρ := l5 a b fun d e => dh a b fun i j c f => br (f != 0) (k d e 0 f) (gy h fun g => br (decide (IntKind.i64.wrap (1 - c) = (↑0 : Int))) (k g e (IntKind.i64.wrap (1 - c)) 0) (br (decide (IntKind.i64.wrap (1 - c) = (↑1 : Int))) (k d g (IntKind.i64.wrap (1 - c)) 0) none))
def om {ρ : Type} := shut (aed (ρ := ρ))
theorem ain {ρ : Type} (a : List Int) (b : List Int) (c : List Int) (k : (List Int) → (List Int) → Int → Int → Option ρ) : om a b c k = aed a b c k := by unfold om; rw [fq]

def adq {ρ : Type} (c d : List Int) (a b : Int) (k : (List Int) → (List Int) → Int → Int → Option ρ) : Option ρ := lq a b fun e => om c d e fun f g h i => k f g h i
def dw {ρ : Type} := shut (adq (ρ := ρ))
theorem ahq {ρ : Type} (c : List Int) (d : List Int) (a : Int) (b : Int) (k : (List Int) → (List Int) → Int → Int → Option ρ) : dw c d a b k = adq c d a b k := by unfold dw; rw [fq]

def aeh {ρ : Type} (a b : List Int) (c d f : Int) (i : List Int) (k : (List Int) → (List Int) → Int → Option ρ) : Option ρ := l5 a b fun g h => br (f == 1) (dw a b c d fun j l t m => k j l m) (br (f == 2) (om a b i fun n o u p => k n o p) (dh a b fun q r s e => br (e == 0) (br (f != 0) (k g h 8) (k g h e)) (k g h e)))
def iy {ρ : Type} := shut (aeh (ρ := ρ))
theorem aip {ρ : Type} (c : List Int) (d : List Int) (a : Int) (b : Int) (e : Int) (f : List Int) (k : (List Int) → (List Int) → Int → Option ρ) : iy c d a b e f k = aeh c d a b e f k := by unfold iy; rw [fq]

def afk {ρ : Type} (e f : List Int) (a c d b : Int) (g : Bool) (k : (List Int) → (List Int) → Int → Int → Int → Int → Bool → Int → Int → Option ρ) : Option ρ := br (!g) (k e f a c d b g 0 21) (br (d == b) (br (!g) (k e f a c d b g 0 21) (br (b == a) (k e f a c d b g 0 13) (dh e f fun l r s j => br (j != 0) (br (j != 0) (br (j != 0) (k e f a c d b g 0 j) (k e f a c (IntKind.u64.wrap (d + 1)) b g (IntKind.u64.wrap (IntKind.u64.wrap (d + 1) - 1)) 0)) (dw e f 0 0 fun m n t i => br (i == 0) (br (i != 0) (k m n a c d 0 g 0 i) (k m n a c (IntKind.u64.wrap (d + 1)) 0 g (IntKind.u64.wrap (IntKind.u64.wrap (d + 1) - 1)) 0)) (br (i != 0) (k e f a c d b g 0 i) (k e f a c (IntKind.u64.wrap (d + 1)) b g (IntKind.u64.wrap (IntKind.u64.wrap (d + 1) - 1)) 0)))) (br (decide (l ≥ 1152921504606846976)) (k e f a c d b g 0 8) (dw e f (IntKind.u64.wrap (l + 1)) (IntKind.u64.wrap (b + bif decide (IntKind.u64.wrap (a - b) < c) then IntKind.u64.wrap (a - b) else c)) fun o p q h => br (h == 0) (br (h != 0) (k o p a c d (IntKind.u64.wrap (b + bif decide (IntKind.u64.wrap (a - b) < c) then IntKind.u64.wrap (a - b) else c)) g 0 h) (k o p a c (IntKind.u64.wrap (d + 1)) (IntKind.u64.wrap (b + bif decide (IntKind.u64.wrap (a - b) < c) then IntKind.u64.wrap (a - b) else c)) g (IntKind.u64.wrap (IntKind.u64.wrap (d + 1) - 1)) 0)) (br (h != 0) (k e f a c d b g 0 h) (k e f a c (IntKind.u64.wrap (d + 1)) b g (IntKind.u64.wrap (IntKind.u64.wrap (d + 1) - 1)) 0))))))) (k e f a c (IntKind.u64.wrap (d + 1)) b g (IntKind.u64.wrap (IntKind.u64.wrap (d + 1) - 1)) 0))
def oo {ρ : Type} := shut (afk (ρ := ρ))
theorem aj1 {ρ : Type} (a : List Int) (b : List Int) (c : Int) (d : Int) (f : Int) (e : Int) (g : Bool) (k : (List Int) → (List Int) → Int → Int → Int → Int → Bool → Int → Int → Option ρ) : oo a b c d f e g k = afk a b c d f e g k := by unfold oo; rw [fq]

def aho {ρ : Type} (d e : List Int) (a b f c : Int) (g : Bool) (h j : Int) (l : List Int) (k : (List Int) → (List Int) → Int → Int → Int → Int → Bool → (List Int) → Int → Option ρ) : Option ρ := br (h == 1) (br (!g) (k d e a b f c g [] 21) (br (f == c) (br (!g) (k d e a b f c g [] 21) (br (c == a) (k d e a b f c g [] 13) (dh d e fun C q1 q2 n => br (n != 0) (br (n != 0) (br (n != 0) (br (n != 0) (k d e a b f c g [] n) (k d e a b f c g [0] 0)) (k d e a b (IntKind.u64.wrap (f + 1)) c g [IntKind.u64.wrap (IntKind.u64.wrap (f + 1) - 1)] 0)) (dw d e 0 0 fun y z q6 m => br (m == 0) (br (m != 0) (br (m != 0) (k y z a b f 0 g [] m) (k y z a b f 0 g [0] 0)) (k y z a b (IntKind.u64.wrap (f + 1)) 0 g [IntKind.u64.wrap (IntKind.u64.wrap (f + 1) - 1)] 0)) (br (m != 0) (br (m != 0) (k d e a b f c g [] m) (k d e a b f c g [0] 0)) (k d e a b (IntKind.u64.wrap (f + 1)) c g [IntKind.u64.wrap (IntKind.u64.wrap (f + 1) - 1)] 0)))) (br (decide (C ≥ 1152921504606846976)) (k d e a b f c g [] 8) (dw d e (IntKind.u64.wrap (C + 1)) (IntKind.u64.wrap (c + bif decide (IntKind.u64.wrap (a - c) < b) then IntKind.u64.wrap (a - c) else b)) fun A B ad i => br (i == 0) (br (i != 0) (br (i != 0) (k A B a b f (IntKind.u64.wrap (c + bif decide (IntKind.u64.wrap (a - c) < b) then IntKind.u64.wrap (a - c) else b)) g [] i) (k A B a b f (IntKind.u64.wrap (c + bif decide (IntKind.u64.wrap (a - c) < b) then IntKind.u64.wrap (a - c) else b)) g [0] 0)) (k A B a b (IntKind.u64.wrap (f + 1)) (IntKind.u64.wrap (c + bif decide (IntKind.u64.wrap (a - c) < b) then IntKind.u64.wrap (a - c) else b)) g [IntKind.u64.wrap (IntKind.u64.wrap (f + 1) - 1)] 0)) (br (i != 0) (br (i != 0) (k d e a b f c g [] i) (k d e a b f c g [0] 0)) (k d e a b (IntKind.u64.wrap (f + 1)) c g [IntKind.u64.wrap (IntKind.u64.wrap (f + 1) - 1)] 0))))))) (k d e a b (IntKind.u64.wrap (f + 1)) c g [IntKind.u64.wrap (IntKind.u64.wrap (f + 1) - 1)] 0))) (br (h == 3) (br (!g) (k d e a b f c g [] 21) (br (c == a) (k d e a b f c g [] 13) (dh d e fun v ae af o => br (o != 0) (br (o != 0) (k d e a b f c g [] o) (iy d e 0 0 j l fun F G p => br (p == 0) (k F G a b 0 0 false [] p) (k d e a b f c g [] p))) (br (decide (v ≥ 1152921504606846976)) (k d e a b f c g [] 8) (iy d e (IntKind.u64.wrap (v + 1)) (IntKind.u64.wrap (c + bif decide (IntKind.u64.wrap (a - c) < b) then IntKind.u64.wrap (a - c) else b)) j l fun H I q => br (q == 0) (k H I a b 0 0 false [] q) (k d e a b f c g [] q)))))) (br (h == 4) (k d e a b 0 0 false [] 0) (br (h == 2) (br (!g) (k d e a b f c g [] 21) (br (c == a) (k d e a b f c g [] 13) (dh d e fun w ag ah r => br (r != 0) (br (r != 0) (k d e a b f c g [] r) (dw d e 0 0 fun J M ai s => br (s == 0) (k J M a b f 0 g [] s) (k d e a b f c g [] s))) (br (decide (w ≥ 1152921504606846976)) (k d e a b f c g [] 8) (dw d e (IntKind.u64.wrap (w + 1)) (IntKind.u64.wrap (c + bif decide (IntKind.u64.wrap (a - c) < b) then IntKind.u64.wrap (a - c) else b)) fun N O aj t => br (t == 0) (k N O a b f (IntKind.u64.wrap (c + bif decide (IntKind.u64.wrap (a - c) < b) then IntKind.u64.wrap (a - c) else b)) g [] t) (k d e a b f c g [] t)))))) (br (h == 5) (br g (k d e a b f c g [] 0) (ig d e a b fun Q U W Z aa ab ac u => br (u == 0) (k Q U W Z aa ab ac [] u) (k d e a b f c g [] u))) (k d e a b f c g [] 1)))))
def yj {ρ : Type} := shut (aho (ρ := ρ))
theorem aoy {ρ : Type} (a : List Int) (b : List Int) (c : Int) (d : Int) (f : Int) (e : Int) (j : Bool) (g : Int) (h : Int) (i : List Int) (k : (List Int) → (List Int) → Int → Int → Int → Int → Bool → (List Int) → Int → Option ρ) : yj a b c d f e j g h i k = aho a b c d f e j g h i k := by unfold yj; rw [fq]

abbrev bpj (ρ : Type) := Nat → (List Int) → (List Int) → (List (List Int)) → Int → Int → (List Int) → (List Int) → (List Int) → Int → Int → Int → Int → Bool → Int → Int → Int → Int → Bool → Option ρ
def agf {ρ : Type} (b : Nat) (c d : List Int) (e : List (List Int)) (f a : Int) (s g h : List Int) (i j k l : Int) (m : Bool) (n o p q : Int) (r : Bool) (nx u : bpj ρ) : Option ρ := br (decide (a < f)) (br (decide (0 ≤ a)) (br (decide (a < (↑b : Int))) (yj g h i j k l m (c.getD a.toNat 0) (d.getD a.toNat 0) (e.getD a.toNat []) fun v w y z A B C t F => br (decide ((s.length + t.length) * 8 ≤ 140737488355328)) (nx b c d e f (IntKind.i64.wrap (a + 1)) (s ++ t) v w y z A B C n o p q r) none) none) none) (u b c d e f a s g h i j k l m n o p q r)
abbrev bkr := Nat × (List Int) × (List Int) × (List (List Int)) × Int × Int × (List Int) × (List Int) × (List Int) × Int × Int × Int × Int × Bool × Int × Int × Int × Int × Bool
abbrev bpr := bkr
def boi {ρ : Type} (f : bkr → Option ρ) : bpj ρ := fun a b c d r s t e g h i j k l m n o p q => f (a, b, c, d, r, s, t, e, g, h, i, j, k, l, m, n, o, p, q)
def bjh {ρ : Type} : ahg bkr bpr ρ := fun (a, b, c, d, q, r, s, e, f, g, h, i, j, k, l, m, n, o, p) next ex => agf a b c d q r s e f g h i j k l m n o p (boi next) (boi ex)
def boh {ρ : Type} := shut (lp (bjh (ρ := ρ)))
theorem bqu {ρ : Type} : boh (ρ := ρ) = lp bjh := fq _
def blf {ρ : Type} (f : ag6 bkr bpr ρ) (a : Nat) (b c : List Int) (d : List (List Int)) (r s : Int) (t e g : List Int) (h i j k : Int) (l : Bool) (m n o p : Int) (q : Bool) (u : bpj ρ) : Option ρ := f (a, b, c, d, r, s, t, e, g, h, i, j, k, l, m, n, o, p, q) (fun (a, b, c, d, r, s, t, e, g, h, i, j, k, l, m, n, o, p, q) => u a b c d r s t e g h i j k l m n o p q)
def aju {ρ : Type} := blf (lp (bjh (ρ := ρ)))
def akv {ρ : Type} := blf (boh (ρ := ρ))
theorem amz {ρ : Type} : akv (ρ := ρ) = aju := congrArg blf bqu
def afh {ρ : Type} (a b : List Int) (c d f e : Int) (g : Bool) (h : Nat) (i j : List Int) (l : List (List Int)) (k : (List Int) → (List Int) → Int → Int → Int → Int → Bool → (List Int) → Option ρ) : Option ρ := akv h i j l (↑h : Int) 0 [] a b c d f e g 0 0 0 0 false fun A B C F G H q r s t m n o p u v w y z => k r s t m n o p q
def qg {ρ : Type} := shut (afh (ρ := ρ))
theorem ake {ρ : Type} (a : List Int) (b : List Int) (c : Int) (d : Int) (f : Int) (e : Int) (g : Bool) (h : Nat) (i : List Int) (j : List Int) (l : List (List Int)) (k : (List Int) → (List Int) → Int → Int → Int → Int → Bool → (List Int) → Option ρ) : qg a b c d f e g h i j l k = afh a b c d f e g h i j l k := by unfold qg; rw [fq]

def af6 {ρ : Type} (k : Bool → Option ρ) : Option ρ := uy (5 : Int) (2 : Int) fun h i j l m n o p => qg h i j l m n o 6 [(1 : Int), (1 : Int), (1 : Int), (4 : Int), (5 : Int), (1 : Int)] [(0 : Int), (0 : Int), (0 : Int), (0 : Int), (0 : Int), (0 : Int)] [[], [], [], [], [], []] fun q r b c d e f a => oo q r b c d e f fun s t u v w y z A g => br (p == (0 : Int)) (br ((↑a.length : Int) == (4 : Int)) (br (decide ((0 : Int) < (↑a.length : Int))) (br (a.getD 0 (0 : Int) == (0 : Int)) (br (decide ((1 : Int) < (↑a.length : Int))) (br (a.getD 1 (0 : Int) == (1 : Int)) (br (decide ((2 : Int) < (↑a.length : Int))) (br (a.getD 2 (0 : Int) == (2 : Int)) (br (decide ((3 : Int) < (↑a.length : Int))) (br (a.getD 3 (0 : Int) == (4 : Int)) (k (g == (13 : Int))) (k false)) none) (k false)) none) (k false)) none) (k false)) none) (k false)) (k false)
def pz {ρ : Type} := shut (af6 (ρ := ρ))
theorem amm {ρ : Type}  (k : Bool → Option ρ) : pz  k = af6  k := by unfold pz; rw [fq]

abbrev bny (ρ : Type) := (List Int) → (List Int) → Int → Option ρ
def aix {ρ : Type} (b c : List Int) (a : Int) (nx d : bny ρ) (e : Bool → Option ρ) : Option ρ := br (decide (a < (↑b.length : Int))) (br (decide (0 ≤ a)) (br (decide (a < (↑b.length : Int))) (br (decide (0 ≤ a)) (br (decide (a < (↑c.length : Int))) (br (b.getD a.toNat 0 != c.getD a.toNat 0) (e false) (nx b c (IntKind.i64.wrap (a + 1)))) none) none) none) none) (d b c a)
abbrev blh := (List Int) × (List Int) × Int
abbrev bm9 := ((List Int) × (List Int) × Int) ⊕ (Bool)
def bqq {ρ : Type} (f : blh → Option ρ) : bny ρ := fun a b c => f (a, b, c)
def bkm {ρ : Type} : ahg blh bm9 ρ := fun (a, b, c) next ex => aix a b c (bqq next) (fun a b c => ex (.inl (a, b, c))) (fun d => ex (.inr d))
def bni {ρ : Type} := shut (lp (bkm (ρ := ρ)))
theorem bqo {ρ : Type} : bni (ρ := ρ) = lp bkm := fq _
def bky {ρ : Type} (f : ag6 blh bm9 ρ) (a b : List Int) (c : Int) (d : bny ρ) (e : Bool → Option ρ) : Option ρ := f (a, b, c) (Sum.elim (fun (a, b, c) => d a b c) (fun x => e x))
def ao6 {ρ : Type} := bky (lp (bkm (ρ := ρ)))
def apd {ρ : Type} := bky (bni (ρ := ρ))
theorem apu {ρ : Type} : apd (ρ := ρ) = ao6 := congrArg bky bqo
def ahx {ρ : Type} (a b : List Int) (k : Bool → Option ρ) : Option ρ := br ((↑a.length : Int) != (↑b.length : Int)) (k false) (apd a b 0 (fun d e f => k true) fun c => k c)
def vv {ρ : Type} := shut (ahx (ρ := ρ))
theorem ani {ρ : Type} (a : List Int) (b : List Int) (k : Bool → Option ρ) : vv a b k = ahx a b k := by unfold vv; rw [fq]

def ahd {ρ : Type} (a b c d : List Int) (k : Bool → Option ρ) : Option ρ := vv a c fun e => br e (vv b d fun f => k f) (k false)
def ab3 {ρ : Type} := shut (ahd (ρ := ρ))
theorem anm {ρ : Type} (a : List Int) (b : List Int) (c : List Int) (d : List Int) (k : Bool → Option ρ) : ab3 a b c d k = ahd a b c d k := by unfold ab3; rw [fq]

def ah1 {ρ : Type} (a b : List Int) (e g l h : Int) (n : Bool) (c d : List Int) (f i m j : Int) (o : Bool) (k : Bool → Option ρ) : Option ρ := ab3 a b c d fun p => br p (br (e == f) (br (g == i) (br (l == m) (br (h == j) (k (n == o)) (k false)) (k false)) (k false)) (k false)) (k false)
def abv {ρ : Type} := shut (ah1 (ρ := ρ))
theorem aoe {ρ : Type} (a : List Int) (b : List Int) (e : Int) (g : Int) (l : Int) (h : Int) (n : Bool) (c : List Int) (d : List Int) (f : Int) (i : Int) (m : Int) (j : Int) (o : Bool) (k : Bool → Option ρ) : abv a b e g l h n c d f i m j o k = ah1 a b e g l h n c d f i m j o k := by unfold abv; rw [fq]

abbrev bmc (ρ : Type) := (List (List Int)) → Int → (List Int) → Option ρ
def ajb {ρ : Type} (b : List (List Int)) (a : Int) (c : List Int) (nx d : bmc ρ) : Option ρ := br (decide (a < (↑b.length : Int))) (br (decide (0 ≤ a)) (br (decide (a < (↑b.length : Int))) (br (decide ((c.length + (b.getD a.toNat []).length) * 1 ≤ 140737488355328)) (nx b (IntKind.i64.wrap (a + 1)) (c ++ b.getD a.toNat [])) none) none) none) (d b a c)
abbrev bku := (List (List Int)) × Int × (List Int)
abbrev bon := bku
def bl0 {ρ : Type} (f : bku → Option ρ) : bmc ρ := fun a b c => f (a, b, c)
def bji {ρ : Type} : ahg bku bon ρ := fun (a, b, c) next ex => ajb a b c (bl0 next) (bl0 ex)
def bm1 {ρ : Type} := shut (lp (bji (ρ := ρ)))
theorem bql {ρ : Type} : bm1 (ρ := ρ) = lp bji := fq _
def bld {ρ : Type} (f : ag6 bku bon ρ) (a : List (List Int)) (b : Int) (c : List Int) (d : bmc ρ) : Option ρ := f (a, b, c) (fun (a, b, c) => d a b c)
def an3 {ρ : Type} := bld (lp (bji (ρ := ρ)))
def aor {ρ : Type} := bld (bm1 (ρ := ρ))
theorem apz {ρ : Type} : aor (ρ := ρ) = an3 := congrArg bld bql
def ahf {ρ : Type} (a : List (List Int)) (k : (List Int) → Option ρ) : Option ρ := aor a 0 [] fun c d b => k b
def yt {ρ : Type} := shut (ahf (ρ := ρ))
theorem aon {ρ : Type} (a : List (List Int)) (k : (List Int) → Option ρ) : yt a k = ahf a k := by unfold yt; rw [fq]

abbrev bnk (ρ : Type) := Int → Int → (List Int) → Option ρ
def aot {ρ : Type} (b a : Int) (c : List Int) (nx d : bnk ρ) : Option ρ := br (decide (a ≥ 0)) (br (decide (0 ≤ a)) (br (decide (a < (↑c.length : Int))) (nx (b.fdiv (2 ^ 8)) (IntKind.i64.wrap (a - 1)) (c.set a.toNat (IntKind.u8.wrap (bits BinOp.and IntKind.u64 b 255)))) none) none) (d b a c)
abbrev bkl := Int × Int × (List Int)
abbrev bm4 := bkl
def bns {ρ : Type} (f : bkl → Option ρ) : bnk ρ := fun a b c => f (a, b, c)
def bh8 {ρ : Type} : ahg bkl bm4 ρ := fun (a, b, c) next ex => aot a b c (bns next) (bns ex)
def bo9 {ρ : Type} := shut (lp (bh8 (ρ := ρ)))
theorem bqk {ρ : Type} : bo9 (ρ := ρ) = lp bh8 := fq _
def bk4 {ρ : Type} (f : ag6 bkl bm4 ρ) (a b : Int) (c : List Int) (d : bnk ρ) : Option ρ := f (a, b, c) (fun (a, b, c) => d a b c)
def aur {ρ : Type} := bk4 (lp (bh8 (ρ := ρ)))
def avc {ρ : Type} := bk4 (bo9 (ρ := ρ))
theorem avi {ρ : Type} : avc (ρ := ρ) = aur := congrArg bk4 bqk
def alv {ρ : Type} (b a : Int) (k : (List Int) → Option ρ) : Option ρ := br (decide (a < 0)) (k []) (br (decide (a > 65536)) (k []) (br (decide (0 ≤ a)) (br (decide (a ≤ a)) (br (decide (a * (↑1 : Int) ≤ (↑140737488355328 : Int))) (avc b (IntKind.i64.wrap (a - 1)) (List.replicate a.toNat (0 : Int)) fun d e c => k c) none) none) none))
def aan {ρ : Type} := shut (alv (ρ := ρ))
theorem au3 {ρ : Type} (a : Int) (b : Int) (k : (List Int) → Option ρ) : aan a b k = alv a b k := by unfold aan; rw [fq]

def aiv {ρ : Type} (a : Int) (k : Int → (List Int) → (List Int) → Int → Int → Option ρ) : Option ρ := br (a == 1) (k a [1779033703, 3144134277, 1013904242, 2773480762, 1359893119, 2600822924, 528734635, 1541459225] [] 0 0) (br (a == 2) (k a [14680500436340154072, 7105036623409894663, 10473403895298186519, 1526699215303891257, 7436329637833083697, 10282925794625328401, 15784041429090275239, 5167115440072839076] [] 0 0) (br (a == 3) (k a [7640891576956012808, 13503953896175478587, 4354685564936845355, 11912009170470909681, 5840696475078001361, 11170449401992604703, 2270897969802886507, 6620516959819538809] [] 0 0) (k 0 [0, 0, 0, 0, 0, 0, 0, 0] [] 0 9)))
def ad9 {ρ : Type} := shut (aiv (ρ := ρ))
theorem aqm {ρ : Type} (a : Int) (k : Int → (List Int) → (List Int) → Int → Int → Option ρ) : ad9 a k = aiv a k := by unfold ad9; rw [fq]

def af5 {ρ : Type} (a : Int) (k : Int → Option ρ) : Option ρ := br (a == 1) (k 64) (k 128)
def um {ρ : Type} := shut (af5 (ρ := ρ))
theorem amn {ρ : Type} (a : Int) (k : Int → Option ρ) : um a k = af5 a k := by unfold um; rw [fq]

def ags {ρ : Type} (k : (List Int) → Option ρ) : Option ρ := k [1116352408, 1899447441, 3049323471, 3921009573, 961987163, 1508970993, 2453635748, 2870763221, 3624381080, 310598401, 607225278, 1426881987, 1925078388, 2162078206, 2614888103, 3248222580, 3835390401, 4022224774, 264347078, 604807628, 770255983, 1249150122, 1555081692, 1996064986, 2554220882, 2821834349, 2952996808, 3210313671, 3336571891, 3584528711, 113926993, 338241895, 666307205, 773529912, 1294757372, 1396182291, 1695183700, 1986661051, 2177026350, 2456956037, 2730485921, 2820302411, 3259730800, 3345764771, 3516065817, 3600352804, 4094571909, 275423344, 430227734, 506948616, 659060556, 883997877, 958139571, 1322822218, 1537002063, 1747873779, 1955562222, 2024104815, 2227730452, 2361852424, 2428436474, 2756734187, 3204031479, 3329325298]
def sw {ρ : Type} := shut (ags (ρ := ρ))
theorem aej {ρ : Type}  (k : (List Int) → Option ρ) : sw  k = ags  k := by unfold sw; rw [fq]

def agw {ρ : Type} (k : (List Int) → Option ρ) : Option ρ := k [4794697086780616226, 8158064640168781261, 13096744586834688815, 16840607885511220156, 4131703408338449720, 6480981068601479193, 10538285296894168987, 12329834152419229976, 15566598209576043074, 1334009975649890238, 2608012711638119052, 6128411473006802146, 8268148722764581231, 9286055187155687089, 11230858885718282805, 13951009754708518548, 16472876342353939154, 17275323862435702243, 1135362057144423861, 2597628984639134821, 3308224258029322869, 5365058923640841347, 6679025012923562964, 8573033837759648693, 10970295158949994411, 12119686244451234320, 12683024718118986047, 13788192230050041572, 14330467153632333762, 15395433587784984357, 489312712824947311, 1452737877330783856, 2861767655752347644, 3322285676063803686, 5560940570517711597, 5996557281743188959, 7280758554555802590, 8532644243296465576, 9350256976987008742, 10552545826968843579, 11727347734174303076, 12113106623233404929, 14000437183269869457, 14369950271660146224, 15101387698204529176, 15463397548674623760, 17586052441742319658, 1182934255886127544, 1847814050463011016, 2177327727835720531, 2830643537854262169, 3796741975233480872, 4115178125766777443, 5681478168544905931, 6601373596472566643, 7507060721942968483, 8399075790359081724, 8693463985226723168, 9568029438360202098, 10144078919501101548, 10430055236837252648, 11840083180663258601, 13761210420658862357, 14299343276471374635, 14566680578165727644, 15097957966210449927, 16922976911328602910, 17689382322260857208, 500013540394364858, 748580250866718886, 1242879168328830382, 1977374033974150939, 2944078676154940804, 3659926193048069267, 4368137639120453308, 4836135668995329356, 5532061633213252278, 6448918945643986474, 6902733635092675308, 7801388544844847127]
def su {ρ : Type} := shut (agw (ρ := ρ))
theorem aeg {ρ : Type}  (k : (List Int) → Option ρ) : su  k = agw  k := by unfold su; rw [fq]

abbrev bob (ρ : Type) := (List Int) → Int → Int → Option ρ
def alq {ρ : Type} (b : List Int) (c a : Int) (nx d : bob ρ) : Option ρ := br (decide (a < (↑b.length : Int))) (br (decide (0 ≤ a)) (br (decide (a < (↑b.length : Int))) (nx b (IntKind.u64.wrap (IntKind.u64.wrap (c * 256) + IntKind.u64.wrap (b.getD a.toNat 0))) (IntKind.i64.wrap (a + 1))) none) none) (d b c a)
abbrev bhy := (List Int) × Int × Int
abbrev bpp := bhy
def bo2 {ρ : Type} (f : bhy → Option ρ) : bob ρ := fun a b c => f (a, b, c)
def bio {ρ : Type} : ahg bhy bpp ρ := fun (a, b, c) next ex => alq a b c (bo2 next) (bo2 ex)
def bow {ρ : Type} := shut (lp (bio (ρ := ρ)))
theorem bp1 {ρ : Type} : bow (ρ := ρ) = lp bio := fq _
def blw {ρ : Type} (f : ag6 bhy bpp ρ) (a : List Int) (b c : Int) (d : bob ρ) : Option ρ := f (a, b, c) (fun (a, b, c) => d a b c)
def arb {ρ : Type} := blw (lp (bio (ρ := ρ)))
def aq3 {ρ : Type} := blw (bow (ρ := ρ))
theorem ar9 {ρ : Type} : aq3 (ρ := ρ) = arb := congrArg blw bp1
def ajd {ρ : Type} (a : List Int) (k : Int → Option ρ) : Option ρ := aq3 a 0 0 fun c b d => k b
def zm {ρ : Type} := shut (ajd (ρ := ρ))
theorem ap7 {ρ : Type} (a : List Int) (k : Int → Option ρ) : zm a k = ajd a k := by unfold zm; rw [fq]

def ab5 {ρ : Type} (b a : Int) (c : Bool) (k : Int → Option ρ) : Option ρ := br c (br (decide (a < 0)) none (br (decide (IntKind.i64.wrap (64 - a) < 0)) none (k (bits BinOp.or IntKind.u64 (b.fdiv (2 ^ min a.toNat 64)) (IntKind.u64.wrap (b * 2 ^ min (IntKind.i64.wrap (64 - a)).toNat 64)))))) (br (decide (a < 0)) none (br (decide (IntKind.i64.wrap (32 - a) < 0)) none (k (bits BinOp.or IntKind.u64 (b.fdiv (2 ^ min a.toNat 64)) (bits BinOp.and IntKind.u64 (IntKind.u64.wrap (b * 2 ^ min (IntKind.i64.wrap (32 - a)).toNat 64)) 4294967295)))))
def tq {ρ : Type} := shut (ab5 (ρ := ρ))
theorem ae4 {ρ : Type} (a : Int) (b : Int) (c : Bool) (k : Int → Option ρ) : tq a b c k = ab5 a b c k := by unfold tq; rw [fq]

def aat {ρ : Type} (a d e c : Int) (f b : Bool) (k : Int → Option ρ) : Option ρ := br (decide (c < 0)) none (br (!f) (tq a c b fun g => tq a d b fun h => tq a e b fun i => k (bits BinOp.xor IntKind.u64 (bits BinOp.xor IntKind.u64 h i) g)) (tq a d b fun j => tq a e b fun l => k (bits BinOp.xor IntKind.u64 (bits BinOp.xor IntKind.u64 j l) (a.fdiv (2 ^ min c.toNat 64)))))
def uq {ρ : Type} := shut (aat (ρ := ρ))
theorem acw {ρ : Type} (a : Int) (b : Int) (c : Int) (d : Int) (e : Bool) (f : Bool) (k : Int → Option ρ) : uq a b c d e f k = aat a b c d e f k := by unfold uq; rw [fq]

abbrev bpm (ρ : Type) := (List Int) → Bool → Int → Int → Int → Int → (List Int) → Option ρ
def ac7 {ρ : Type} (d : List Int) (f : Bool) (g e c a : Int) (b : List Int) (nx h : bpm ρ) : Option ρ := br (decide (a < g)) (br (decide (a < 16)) (br (decide (0 ≤ IntKind.i64.wrap (a * c))) (br (decide (IntKind.i64.wrap (a * c) ≤ IntKind.i64.wrap (IntKind.i64.wrap (a * c) + c))) (br (decide (IntKind.i64.wrap (IntKind.i64.wrap (a * c) + c) ≤ (↑d.length : Int))) (zm (List.drop (IntKind.i64.wrap (a * c)).toNat (List.take (IntKind.i64.wrap (IntKind.i64.wrap (a * c) + c)).toNat d)) fun i => br (decide ((b.length + 1) * 8 ≤ 140737488355328)) (nx d f g e c (IntKind.i64.wrap (a + 1)) (b ++ [i])) none) none) none) none) (br (decide (0 ≤ IntKind.i64.wrap (a - 15))) (br (decide (IntKind.i64.wrap (a - 15) < (↑b.length : Int))) (uq (b.getD (IntKind.i64.wrap (a - 15)).toNat 0) 7 18 3 true false fun j => br (decide (0 ≤ IntKind.i64.wrap (a - 2))) (br (decide (IntKind.i64.wrap (a - 2) < (↑b.length : Int))) (uq (b.getD (IntKind.i64.wrap (a - 2)).toNat 0) 17 19 10 true false fun k => br f (br (decide (0 ≤ IntKind.i64.wrap (a - 15))) (br (decide (IntKind.i64.wrap (a - 15) < (↑b.length : Int))) (uq (b.getD (IntKind.i64.wrap (a - 15)).toNat 0) 1 8 7 true true fun l => br (decide (0 ≤ IntKind.i64.wrap (a - 2))) (br (decide (IntKind.i64.wrap (a - 2) < (↑b.length : Int))) (uq (b.getD (IntKind.i64.wrap (a - 2)).toNat 0) 19 61 6 true true fun m => br (decide (0 ≤ IntKind.i64.wrap (a - 7))) (br (decide (IntKind.i64.wrap (a - 7) < (↑b.length : Int))) (br (decide (0 ≤ IntKind.i64.wrap (a - 16))) (br (decide (IntKind.i64.wrap (a - 16) < (↑b.length : Int))) (br (decide ((b.length + 1) * 8 ≤ 140737488355328)) (nx d f g e c (IntKind.i64.wrap (a + 1)) (b ++ [bits BinOp.and IntKind.u64 (IntKind.u64.wrap (IntKind.u64.wrap (IntKind.u64.wrap (m + b.getD (IntKind.i64.wrap (a - 7)).toNat 0) + l) + b.getD (IntKind.i64.wrap (a - 16)).toNat 0)) e])) none) none) none) none) none) none) none) none) none) (br (decide (0 ≤ IntKind.i64.wrap (a - 7))) (br (decide (IntKind.i64.wrap (a - 7) < (↑b.length : Int))) (br (decide (0 ≤ IntKind.i64.wrap (a - 16))) (br (decide (IntKind.i64.wrap (a - 16) < (↑b.length : Int))) (br (decide ((b.length + 1) * 8 ≤ 140737488355328)) (nx d f g e c (IntKind.i64.wrap (a + 1)) (b ++ [bits BinOp.and IntKind.u64 (IntKind.u64.wrap (IntKind.u64.wrap (IntKind.u64.wrap (k + b.getD (IntKind.i64.wrap (a - 7)).toNat 0) + j) + b.getD (IntKind.i64.wrap (a - 16)).toNat 0)) e])) none) none) none) none) none)) none) none) none) none)) (h d f g e c a b)
abbrev bkp := (List Int) × Bool × Int × Int × Int × Int × (List Int)
abbrev bna := bkp
def bk9 {ρ : Type} (f : bkp → Option ρ) : bpm ρ := fun b c d e g a h => f (b, c, d, e, g, a, h)
def bhw {ρ : Type} : ahg bkp bna ρ := fun (b, c, d, e, f, a, g) next ex => ac7 b c d e f a g (bk9 next) (bk9 ex)
def bmr {ρ : Type} := shut (lp (bhw (ρ := ρ)))
theorem bqj {ρ : Type} : bmr (ρ := ρ) = lp bhw := fq _
def bkx {ρ : Type} (f : ag6 bkp bna ρ) (b : List Int) (c : Bool) (d e g a : Int) (h : List Int) (i : bpm ρ) : Option ρ := f (b, c, d, e, g, a, h) (fun (b, c, d, e, g, a, h) => i b c d e g a h)
def ahl {ρ : Type} := bkx (lp (bhw (ρ := ρ)))
def ag9 {ρ : Type} := bkx (bmr (ρ := ρ))
theorem ahv {ρ : Type} : ag9 (ρ := ρ) = ahl := congrArg bkx bqj
def ad2 {ρ : Type} (b : List Int) (a : Bool) (c d : Int) (k : (List Int) → Option ρ) : Option ρ := br a (ag9 b a c d 8 0 [] fun j l m n o p f => k f) (ag9 b a c d 4 0 [] fun q r s g h i e => k e)
def aav {ρ : Type} := shut (ad2 (ρ := ρ))
theorem ahi {ρ : Type} (a : List Int) (b : Bool) (c : Int) (d : Int) (k : (List Int) → Option ρ) : aav a b c d k = ad2 a b c d k := by unfold aav; rw [fq]

abbrev bl5 (ρ : Type) := Bool → Int → Int → Int → (List Int) → (List Int) → (List Int) → (List Int) → (List Int) → (List Int) → Option ρ
def ab4 {ρ : Type} (i : Bool) (j c b : Int) (g h d e f a : List Int) (nx m : bl5 ρ) : Option ρ := br (decide (b < j)) (uq (a.getD 0 0) 2 13 22 false false fun n => uq (a.getD 4 0) 6 11 25 false false fun k => br i (uq (a.getD 0 0) 28 34 39 false true fun o => uq (a.getD 4 0) 14 18 41 false true fun l => br (decide (0 ≤ b)) (br (decide (b < (↑80 : Int))) (br (decide (0 ≤ b)) (br (decide (b < (↑f.length : Int))) (nx i j c (IntKind.i64.wrap (b + 1)) g h d e f [bits BinOp.and IntKind.u64 (IntKind.u64.wrap (IntKind.u64.wrap (IntKind.u64.wrap (IntKind.u64.wrap (IntKind.u64.wrap (a.getD 7 0 + l) + bits BinOp.xor IntKind.u64 (bits BinOp.and IntKind.u64 (a.getD 4 0) (a.getD 5 0)) (bits BinOp.and IntKind.u64 (bits BinOp.xor IntKind.u64 c (a.getD 4 0)) (a.getD 6 0))) + e.getD b.toNat 0) + f.getD b.toNat 0) + IntKind.u64.wrap (o + bits BinOp.xor IntKind.u64 (bits BinOp.xor IntKind.u64 (bits BinOp.and IntKind.u64 (a.getD 0 0) (a.getD 1 0)) (bits BinOp.and IntKind.u64 (a.getD 0 0) (a.getD 2 0))) (bits BinOp.and IntKind.u64 (a.getD 1 0) (a.getD 2 0))))) c, a.getD 0 0, a.getD 1 0, a.getD 2 0, bits BinOp.and IntKind.u64 (IntKind.u64.wrap (a.getD 3 0 + IntKind.u64.wrap (IntKind.u64.wrap (IntKind.u64.wrap (IntKind.u64.wrap (a.getD 7 0 + l) + bits BinOp.xor IntKind.u64 (bits BinOp.and IntKind.u64 (a.getD 4 0) (a.getD 5 0)) (bits BinOp.and IntKind.u64 (bits BinOp.xor IntKind.u64 c (a.getD 4 0)) (a.getD 6 0))) + e.getD b.toNat 0) + f.getD b.toNat 0))) c, a.getD 4 0, a.getD 5 0, a.getD 6 0]) none) none) none) none) (br (decide (0 ≤ b)) (br (decide (b < (↑64 : Int))) (br (decide (0 ≤ b)) (br (decide (b < (↑f.length : Int))) (nx i j c (IntKind.i64.wrap (b + 1)) g h d e f [bits BinOp.and IntKind.u64 (IntKind.u64.wrap (IntKind.u64.wrap (IntKind.u64.wrap (IntKind.u64.wrap (IntKind.u64.wrap (a.getD 7 0 + k) + bits BinOp.xor IntKind.u64 (bits BinOp.and IntKind.u64 (a.getD 4 0) (a.getD 5 0)) (bits BinOp.and IntKind.u64 (bits BinOp.xor IntKind.u64 c (a.getD 4 0)) (a.getD 6 0))) + d.getD b.toNat 0) + f.getD b.toNat 0) + IntKind.u64.wrap (n + bits BinOp.xor IntKind.u64 (bits BinOp.xor IntKind.u64 (bits BinOp.and IntKind.u64 (a.getD 0 0) (a.getD 1 0)) (bits BinOp.and IntKind.u64 (a.getD 0 0) (a.getD 2 0))) (bits BinOp.and IntKind.u64 (a.getD 1 0) (a.getD 2 0))))) c, a.getD 0 0, a.getD 1 0, a.getD 2 0, bits BinOp.and IntKind.u64 (IntKind.u64.wrap (a.getD 3 0 + IntKind.u64.wrap (IntKind.u64.wrap (IntKind.u64.wrap (IntKind.u64.wrap (a.getD 7 0 + k) + bits BinOp.xor IntKind.u64 (bits BinOp.and IntKind.u64 (a.getD 4 0) (a.getD 5 0)) (bits BinOp.and IntKind.u64 (bits BinOp.xor IntKind.u64 c (a.getD 4 0)) (a.getD 6 0))) + d.getD b.toNat 0) + f.getD b.toNat 0))) c, a.getD 4 0, a.getD 5 0, a.getD 6 0]) none) none) none) none)) (m i j c b g h d e f a)
abbrev bi5 := Bool × Int × Int × Int × (List Int) × (List Int) × (List Int) × (List Int) × (List Int) × (List Int)
abbrev bl7 := bi5
def bk0 {ρ : Type} (f : bi5 → Option ρ) : bl5 ρ := fun h i j g a b c d k e => f (h, i, j, g, a, b, c, d, k, e)
def bhq {ρ : Type} : ahg bi5 bl7 ρ := fun (g, h, i, f, a, b, c, d, j, e) next ex => ab4 g h i f a b c d j e (bk0 next) (bk0 ex)
def bme {ρ : Type} := shut (lp (bhq (ρ := ρ)))
theorem bqs {ρ : Type} : bme (ρ := ρ) = lp bhq := fq _
def bip {ρ : Type} (f : ag6 bi5 bl7 ρ) (h : Bool) (i j g : Int) (a b c d k e : List Int) (l : bl5 ρ) : Option ρ := f (h, i, j, g, a, b, c, d, k, e) (fun (h, i, j, g, a, b, c, d, k, e) => l h i j g a b c d k e)
def af8 {ρ : Type} := bip (lp (bhq (ρ := ρ)))
def ab6 {ρ : Type} := bip (bme (ρ := ρ))
theorem agt {ρ : Type} : ab6 (ρ := ρ) = af8 := congrArg bip bqs
abbrev bo4 (ρ : Type) := Int → Int → (List Int) → (List Int) → (List Int) → Option ρ
def ab1 {ρ : Type} (e a : Int) (b d c : List Int) (nx f : bo4 ρ) : Option ρ := br (decide (a < 8)) (br (decide (0 ≤ a)) (br (decide (a < (↑8 : Int))) (br (decide (0 ≤ a)) (br (decide (a < (↑8 : Int))) (br (decide (0 ≤ a)) (br (decide (a < (↑8 : Int))) (nx e (IntKind.i64.wrap (a + 1)) b d (c.set a.toNat (bits BinOp.and IntKind.u64 (IntKind.u64.wrap (c.getD a.toNat 0 + b.getD a.toNat 0)) e))) none) none) none) none) none) none) (f e a b d c)
abbrev bjw := Int × Int × (List Int) × (List Int) × (List Int)
abbrev bms := bjw
def bli {ρ : Type} (f : bjw → Option ρ) : bo4 ρ := fun e d a b c => f (e, d, a, b, c)
def bhr {ρ : Type} : ahg bjw bms ρ := fun (e, d, a, b, c) next ex => ab1 e d a b c (bli next) (bli ex)
def boa {ρ : Type} := shut (lp (bhr (ρ := ρ)))
theorem bpy {ρ : Type} : boa (ρ := ρ) = lp bhr := fq _
def bkv {ρ : Type} (f : ag6 bjw bms ρ) (e d : Int) (a b c : List Int) (g : bo4 ρ) : Option ρ := f (e, d, a, b, c) (fun (e, d, a, b, c) => g e d a b c)
def agc {ρ : Type} := bkv (lp (bhr (ρ := ρ)))
def ab7 {ρ : Type} := bkv (boa (ρ := ρ))
theorem agn {ρ : Type} : ab7 (ρ := ρ) = agc := congrArg bkv bpy
def ady {ρ : Type} (b c : List Int) (a : Bool) (k : (List Int) → Option ρ) : Option ρ := sw fun d => su fun e => br a (aav c a 80 18446744073709551615 fun o => ab6 a 80 18446744073709551615 0 b [0, 0, 0, 0, 0, 0, 0, 0] d e o b fun N O p Q q r U s t f => ab7 p 0 q r f fun u v w y g => k g) (aav c a 64 4294967295 fun h => ab6 a 64 4294967295 0 b [0, 0, 0, 0, 0, 0, 0, 0] d e h b fun z A i B j l C F G m => ab7 i 0 j l m fun H I J M n => k n)
def abf {ρ : Type} := shut (ady (ρ := ρ))
theorem ahw {ρ : Type} (a : List Int) (b : List Int) (c : Bool) (k : (List Int) → Option ρ) : abf a b c k = ady a b c k := by unfold abf; rw [fq]

abbrev bpu (ρ : Type) := Int → (List Int) → Int → (List Int) → (List Int) → Int → Int → (List Int) → Int → Option ρ
def afm {ρ : Type} (a : Int) (b : List Int) (c : Int) (d e : List Int) (f g : Int) (h : List Int) (i : Int) (nx j : bpu ρ) : Option ρ := br (decide ((↑b.length : Int) ≥ a)) (br (decide (0 ≤ a)) (br (decide (a ≤ (↑b.length : Int))) (abf d (List.drop 0 (List.take a.toNat b)) (a == 128) fun k => br (decide (0 ≤ a)) (br (decide (a ≤ (↑b.length : Int))) (br (decide ((↑b.length : Int) ≤ (↑b.length : Int))) (nx a (List.drop a.toNat (List.take (↑b.length : Int).toNat b)) c k e f g h i) none) none) none) none) none) (j a b c d e f g h i)
abbrev biy := Int × (List Int) × Int × (List Int) × (List Int) × Int × Int × (List Int) × Int
abbrev bpk := biy
def bll {ρ : Type} (f : biy → Option ρ) : bpu ρ := fun i j a b c d e g h => f (i, j, a, b, c, d, e, g, h)
def bhu {ρ : Type} : ahg biy bpk ρ := fun (h, i, a, b, c, d, e, f, g) next ex => afm h i a b c d e f g (bll next) (bll ex)
def bmn {ρ : Type} := shut (lp (bhu (ρ := ρ)))
theorem bqf {ρ : Type} : bmn (ρ := ρ) = lp bhu := fq _
def biv {ρ : Type} (f : ag6 biy bpk ρ) (i : Int) (j : List Int) (a : Int) (b c : List Int) (d e : Int) (g : List Int) (h : Int) (k : bpu ρ) : Option ρ := f (i, j, a, b, c, d, e, g, h) (fun (i, j, a, b, c, d, e, g, h) => k i j a b c d e g h)
def al2 {ρ : Type} := biv (lp (bhu (ρ := ρ)))
def ah4 {ρ : Type} := biv (bmn (ρ := ρ))
theorem ak0 {ρ : Type} : ah4 (ρ := ρ) = al2 := congrArg biv bqf
def ajf {ρ : Type} (a : Int) (c b : List Int) (d : Int) (e : List Int) (k : Int → (List Int) → (List Int) → Int → Option ρ) : Option ρ := um a fun f => yt [b, e] fun g => ah4 f g a c b (IntKind.u64.wrap (d + IntKind.u64.wrap (↑e.length : Int))) 0 [0, 0, 0, 0, 0, 0, 0, 0] 0 fun n h i j o l p q m => k i j h l
def aaq {ρ : Type} := shut (ajf (ρ := ρ))
theorem ari {ρ : Type} (b : Int) (a : List Int) (c : List Int) (d : Int) (e : List Int) (k : Int → (List Int) → (List Int) → Int → Option ρ) : aaq b a c d e k = ajf b a c d e k := by unfold aaq; rw [fq]

abbrev bgg (ρ : Type) := Int → Int → (List Int) → Int → (List Int) → (List Int) → Int → Option ρ
def ali {ρ : Type} (c g : Int) (b : List Int) (d : Int) (e a : List Int) (f : Int) (nx h : bgg ρ) : Option ρ := br (decide (c = 0)) none (br ((IntKind.i64.wrap ((↑a.length : Int) + (↑b.length : Int))).tmod c != IntKind.i64.wrap (c - 8)) (br (decide ((b.length + 1) * 1 ≤ 140737488355328)) (nx c g (b ++ [0]) d e a f) none) (h c g b d e a f))
abbrev bke := Int × Int × (List Int) × Int × (List Int) × (List Int) × Int
abbrev bpa := bke
def bo5 {ρ : Type} (f : bke → Option ρ) : bgg ρ := fun g h e a b c d => f (g, h, e, a, b, c, d)
def bi9 {ρ : Type} : ahg bke bpa ρ := fun (f, g, e, a, b, c, d) next ex => ali f g e a b c d (bo5 next) (bo5 ex)
def boj {ρ : Type} := shut (lp (bi9 (ρ := ρ)))
theorem bp9 {ρ : Type} : boj (ρ := ρ) = lp bi9 := fq _
def blg {ρ : Type} (f : ag6 bke bpa ρ) (g h : Int) (e : List Int) (a : Int) (b c : List Int) (d : Int) (i : bgg ρ) : Option ρ := f (g, h, e, a, b, c, d) (fun (g, h, e, a, b, c, d) => i g h e a b c d)
def arq {ρ : Type} := blg (lp (bi9 (ρ := ρ)))
def ak8 {ρ : Type} := blg (boj (ρ := ρ))
theorem ar4 {ρ : Type} : ak8 (ρ := ρ) = arq := congrArg blg bp9
abbrev zc32 (ρ : Type) := Int → Int → (List Int) → Int → (List Int) → (List Int) → Int → Option ρ
def alj {ρ : Type} (c g : Int) (b : List Int) (d : Int) (e a : List Int) (f : Int) (nx h : bgg ρ) : Option ρ := br (decide (c = 0)) none (br ((IntKind.i64.wrap ((↑a.length : Int) + (↑b.length : Int))).tmod c != IntKind.i64.wrap (c - 16)) (br (decide ((b.length + 1) * 1 ≤ 140737488355328)) (nx c g (b ++ [0]) d e a f) none) (h c g b d e a f))
abbrev bki := Int × Int × (List Int) × Int × (List Int) × (List Int) × Int
abbrev bmy := bki
def boz {ρ : Type} (f : bki → Option ρ) : zc32 ρ := fun g h e a b c d => f (g, h, e, a, b, c, d)
def bj0 {ρ : Type} : ahg bki bmy ρ := fun (f, g, e, a, b, c, d) next ex => alj f g e a b c d (boz next) (boz ex)
def bnp {ρ : Type} := shut (lp (bj0 (ρ := ρ)))
theorem bpv {ρ : Type} : bnp (ρ := ρ) = lp bj0 := fq _
def bln {ρ : Type} (f : ag6 bki bmy ρ) (g h : Int) (e : List Int) (a : Int) (b c : List Int) (d : Int) (i : bgg ρ) : Option ρ := f (g, h, e, a, b, c, d) (fun (g, h, e, a, b, c, d) => i g h e a b c d)
def arj {ρ : Type} := bln (lp (bj0 (ρ := ρ)))
def ala {ρ : Type} := bln (bnp (ρ := ρ))
theorem as7 {ρ : Type} : ala (ρ := ρ) = arj := congrArg bln bpv
abbrev zc33 (ρ : Type) := Int → Int → (List Int) → Int → (List Int) → (List Int) → Int → Option ρ
def ai7 {ρ : Type} (g c : Int) (a : List Int) (d : Int) (b e : List Int) (f : Int) (nx i : bgg ρ) : Option ρ := br (decide (c < 8)) (br (decide (0 ≤ c)) (br (decide (c < (↑8 : Int))) (aan (b.getD c.toNat 0) (IntKind.i64.wrap (g.tdiv 16)) fun h => br (decide ((a.length + h.length) * 1 ≤ 140737488355328)) (nx g (IntKind.i64.wrap (c + 1)) (a ++ h) d b e f) none) none) none) (i g c a d b e f)
abbrev bi1 := Int × Int × (List Int) × Int × (List Int) × (List Int) × Int
abbrev bpl := bi1
def bmg {ρ : Type} (f : bi1 → Option ρ) : zc33 ρ := fun g h a b c d e => f (g, h, a, b, c, d, e)
def bj8 {ρ : Type} : ahg bi1 bpl ρ := fun (f, g, a, b, c, d, e) next ex => ai7 f g a b c d e (bmg next) (bmg ex)
def bps {ρ : Type} := shut (lp (bj8 (ρ := ρ)))
theorem bp3 {ρ : Type} : bps (ρ := ρ) = lp bj8 := fq _
def bk3 {ρ : Type} (f : ag6 bi1 bpl ρ) (g h : Int) (a : List Int) (b : Int) (c d : List Int) (e : Int) (i : bgg ρ) : Option ρ := f (g, h, a, b, c, d, e) (fun (g, h, a, b, c, d, e) => i g h a b c d e)
def ao3 {ρ : Type} := bk3 (lp (bj8 (ρ := ρ)))
def af4 {ρ : Type} := bk3 (bps (ρ := ρ))
theorem apw {ρ : Type} : af4 (ρ := ρ) = ao3 := congrArg bk3 bp3
def aiw {ρ : Type} (a : Int) (c d : List Int) (b : Int) (k : (List Int) → Option ρ) : Option ρ := um a fun J => ak8 J (IntKind.u64.wrap (b * 8)) [128] a c d b fun m n o p q r s => br (m == 128) (ala m n [128] p q r s fun M N e t u v i => aan (i.fdiv (2 ^ 61)) 8 fun f => br (decide ((e.length + f.length) * 1 ≤ 140737488355328)) (aan N 8 fun j => br (decide (((e ++ f).length + j.length) * 1 ≤ 140737488355328)) (aaq t u v i (e ++ f ++ j) fun w y z A => af4 M 0 [] w y z A fun O Q g B U W Z => br (B == 2) (br (decide (48 ≤ (↑g.length : Int))) (k (List.take ((48 : Int) - (0 : Int)).toNat g)) none) (k g)) none) none) (aan n 8 fun l => br (decide ((o.length + l.length) * 1 ≤ 140737488355328)) (aaq p q r s (o ++ l) fun C F G H => af4 m 0 [] C F G H fun aa ab h I ac ad ae => br (I == 2) (br (decide (48 ≤ (↑h.length : Int))) (k (List.take ((48 : Int) - (0 : Int)).toNat h)) none) (k h)) none)
def aec {ρ : Type} := shut (aiw (ρ := ρ))
theorem aqk {ρ : Type} (b : Int) (a : List Int) (c : List Int) (d : Int) (k : (List Int) → Option ρ) : aec b a c d k = aiw b a c d k := by unfold aec; rw [fq]

def aiy {ρ : Type} (b : Int) (c : List Int) (k : (List Int) → Int → Option ρ) : Option ρ := ad9 b fun d e f g a => br (a != 0) (k [] a) (aaq d e f g c fun h i j l => aec h i j l fun m => k m 0)
def ad8 {ρ : Type} := shut (aiy (ρ := ρ))
theorem aro {ρ : Type} (a : Int) (b : List Int) (k : (List Int) → Int → Option ρ) : ad8 a b k = aiy a b k := by unfold ad8; rw [fq]

def agl {ρ : Type} (a b : Int) (k : (List Int) → Option ρ) : Option ρ := aan a 8 fun e => aan b 8 fun f => yt [e, f] fun c => ad8 1 c fun d g => br (decide ((c.length + d.length) * 1 ≤ 140737488355328)) (k (c ++ d)) none
def aal {ρ : Type} := shut (agl (ρ := ρ))
theorem al7 {ρ : Type} (a : Int) (b : Int) (k : (List Int) → Option ρ) : aal a b k = agl a b k := by unfold aal; rw [fq]

def ah0 {ρ : Type} (a : List Int) (k : Int → Int → Bool → Option ρ) : Option ρ := br ((↑a.length : Int) != 48) (k 0 0 false) (br (decide (8 ≤ (↑a.length : Int))) (zm (List.drop 0 (List.take (Int.toNat 8) a)) fun b => br (decide (16 ≤ (↑a.length : Int))) (zm (List.drop 8 (List.take (Int.toNat 16) a)) fun c => aal b c fun d => vv d a fun e => br (!e) (k 0 0 false) (k b c true)) none) none)
def qz {ρ : Type} := shut (ah0 (ρ := ρ))
theorem apk {ρ : Type} (a : List Int) (k : Int → Int → Bool → Option ρ) : qz a k = ah0 a k := by unfold qz; rw [fq]

abbrev bom (ρ : Type) := Nat → (List Int) → (List Int) → (List (List Int)) → Int → Int → Option ρ
def abu {ρ : Type} (c : Nat) (d e : List Int) (b : List (List Int)) (f a : Int) (nx g : bom ρ) (h : Bool → Int → Int → Int → Int → Int → Int → (List Int) → Int → Int → Option ρ) : Option ρ := br (decide (a < f)) (br (decide (0 ≤ a)) (br (decide (a < (↑c : Int))) (qz (b.getD a.toNat []) fun i j k => br k (h false i j 0 0 (d.getD a.toNat 0) (e.getD a.toNat 0) (b.getD a.toNat []) 0 0) (nx c d e b f (IntKind.i64.wrap (a + 1)))) none) none) (g c d e b f a)
abbrev blo := Nat × (List Int) × (List Int) × (List (List Int)) × Int × Int
abbrev bpc := (Nat × (List Int) × (List Int) × (List (List Int)) × Int × Int) ⊕ (Bool × Int × Int × Int × Int × Int × Int × (List Int) × Int × Int)
def bos {ρ : Type} (f : blo → Option ρ) : bom ρ := fun a b c d e g => f (a, b, c, d, e, g)
def bhp {ρ : Type} : ahg blo bpc ρ := fun (a, b, c, d, i, j) next ex => abu a b c d i j (bos next) (fun a b c d i j => ex (.inl (a, b, c, d, i, j))) (fun p k l e f m n o g h => ex (.inr (p, k, l, e, f, m, n, o, g, h)))
def bnq {ρ : Type} := shut (lp (bhp (ρ := ρ)))
theorem bpw {ρ : Type} : bnq (ρ := ρ) = lp bhp := fq _
def bid {ρ : Type} (f : ag6 blo bpc ρ) (a : Nat) (b c : List Int) (d : List (List Int)) (e g : Int) (h : bom ρ) (i : Bool → Int → Int → Int → Int → Int → Int → (List Int) → Int → Int → Option ρ) : Option ρ := f (a, b, c, d, e, g) (Sum.elim (fun (a, b, c, d, e, g) => h a b c d e g) (fun x => i x.1 x.2.1 x.2.2.1 x.2.2.2.1 x.2.2.2.2.1 x.2.2.2.2.2.1 x.2.2.2.2.2.2.1 x.2.2.2.2.2.2.2.1 x.2.2.2.2.2.2.2.2.1 x.2.2.2.2.2.2.2.2.2))
def agb {ρ : Type} := bid (lp (bhp (ρ := ρ)))
def akw {ρ : Type} := bid (bnq (ρ := ρ))
theorem agp {ρ : Type} : akw (ρ := ρ) = agb := congrArg bid bpw
def ac5 {ρ : Type} (a : Nat) (b c : List Int) (d : List (List Int)) (k : Bool → Option ρ) : Option ρ := akw a b c d (↑a : Int) 0 (fun m n o p q r => k true) fun e s t u f g h i j l => k e
def aa3 {ρ : Type} := shut (ac5 (ρ := ρ))
theorem agd {ρ : Type} (a : Nat) (b : List Int) (c : List Int) (d : List (List Int)) (k : Bool → Option ρ) : aa3 a b c d k = ac5 a b c d k := by unfold aa3; rw [fq]

def aht {ρ : Type} (a b : List Int) (k : Int → Int → Int → Int → Option ρ) : Option ρ := qz a fun c f h => qz b fun d g e => br h (br (!e) (k c f 0 0) (br (decide (c ≥ d)) (k c f 0 0) (br e (k d g 1 0) (k 0 0 0 21)))) (br e (k d g 1 0) (k 0 0 0 21))
def abt {ρ : Type} := shut (aht (ρ := ρ))
theorem anv {ρ : Type} (a : List Int) (b : List Int) (k : Int → Int → Int → Int → Option ρ) : abt a b k = aht a b k := by unfold abt; rw [fq]

abbrev bpi (ρ : Type) := Int → Int → Int → Int → (List Int) → (List Int) → (List Int) → (List Int) → Int → Int → Int → Int → Bool → Option ρ
def acv {ρ : Type} (l m a b : Int) (c d e f : List Int) (g h i j : Int) (k : Bool) (nx n : bpi ρ) : Option ρ := br (decide (b < a)) (oo e f g h i j k fun o p q r s t u v w => nx l m a (IntKind.u64.wrap (b + 1)) c d o p q r s t u) (n l m a b c d e f g h i j k)
abbrev bjb := Int × Int × Int × Int × (List Int) × (List Int) × (List Int) × (List Int) × Int × Int × Int × Int × Bool
abbrev bnr := bjb
def bo0 {ρ : Type} (f : bjb → Option ρ) : bpi ρ := fun m n k l a b c d e g h i j => f (m, n, k, l, a, b, c, d, e, g, h, i, j)
def bkd {ρ : Type} : ahg bjb bnr ρ := fun (l, m, j, k, a, b, c, d, e, f, g, h, i) next ex => acv l m j k a b c d e f g h i (bo0 next) (bo0 ex)
def bmp {ρ : Type} := shut (lp (bkd (ρ := ρ)))
theorem bqc {ρ : Type} : bmp (ρ := ρ) = lp bkd := fq _
def blb {ρ : Type} (f : ag6 bjb bnr ρ) (m n k l : Int) (a b c d : List Int) (e g h i : Int) (j : Bool) (o : bpi ρ) : Option ρ := f (m, n, k, l, a, b, c, d, e, g, h, i, j) (fun (m, n, k, l, a, b, c, d, e, g, h, i, j) => o m n k l a b c d e g h i j)
def afp {ρ : Type} := blb (lp (bkd (ρ := ρ)))
def aft {ρ : Type} := blb (bmp (ρ := ρ))
theorem aii {ρ : Type} : aft (ρ := ρ) = afp := congrArg blb bqc
def ab2 {ρ : Type} (r s : Int) (a : Nat) (b c : List Int) (d : List (List Int)) (e f : List Int) (k : Bool → Option ρ) : Option ρ := uy (IntKind.u64.wrap (r.tmod 30)) s fun q0 q1 q2 q3 q4 q5 q6 q7 => af3 e f a b c d fun q8 => br (!q8) (pz fun q9 => k q9) (br (q7 != 0) (pz fun t => k t) (aa3 a b c d fun u => br (!u) (pz fun v => k v) (qg q0 q1 q2 q3 q4 q5 q6 a b c d fun w y z A B C F al => yj w y z A B C F 5 0 [] fun G H I J M N O am an => aft s (IntKind.u64.wrap (r.tmod 30)) (IntKind.u64.wrap (r.tmod 30)) 0 e f G H I J M N O fun Q i ao ap j l m n o p g q h => oo m n o p g q h fun U W Z aa ab ac ad aq ae => br (!h) (k false) (br (ae != 13) (k false) (abv U W Z aa ab ac ad m n o p g q h fun af => br (!af) (k false) (br (g != i) (k false) (abt j l fun ar au av ag => br (ag != 0) (ig j l i Q fun aw ax ay az a2 a3 ah ai => br (ai == 21) (br (!ah) (pz fun aj => k aj) (k false)) (k false)) (pz fun ak => k ak))))))))
def ql {ρ : Type} := shut (ab2 (ρ := ρ))
theorem afu {ρ : Type} (g : Int) (h : Int) (c : Nat) (d : List Int) (e : List Int) (f : List (List Int)) (a : List Int) (b : List Int) (k : Bool → Option ρ) : ql g h c d e f a b k = ab2 g h c d e f a b k := by unfold ql; rw [fq]







































































def aa6 {ρ : Type} (d e : List Int) (a c f b : Int) (g : Bool) (k : (List Int) → (List Int) → Int → Int → Int → Int → Bool → Int → Option ρ) : Option ρ := br (!g) (k d e a c f b g 21) (br (b == a) (k d e a c f b g 13) (dh d e fun l r s i => br (i != 0) (br (i != 0) (k d e a c f b g i) (dw d e 0 0 fun m n t j => br (j == 0) (k m n a c f 0 g j) (k d e a c f b g j))) (br (decide (l ≥ 1152921504606846976)) (k d e a c f b g 8) (dw d e (IntKind.u64.wrap (l + 1)) (IntKind.u64.wrap (b + bif decide (IntKind.u64.wrap (a - b) < c) then IntKind.u64.wrap (a - b) else c)) fun o p q h => br (h == 0) (k o p a c f (IntKind.u64.wrap (b + bif decide (IntKind.u64.wrap (a - b) < c) then IntKind.u64.wrap (a - b) else c)) g h) (k d e a c f b g h)))))
def ab0 {ρ : Type} := shut (aa6 (ρ := ρ))
theorem agr {ρ : Type} (a : List Int) (b : List Int) (c : Int) (d : Int) (f : Int) (e : Int) (g : Bool) (k : (List Int) → (List Int) → Int → Int → Int → Int → Bool → Int → Option ρ) : ab0 a b c d f e g k = aa6 a b c d f e g k := by unfold ab0; rw [fq]



























end P
end
