/-
  LeaseNear, part 11: an interpreter of my own over abstract values, the pure functions, the walks and the plain law.
-/

import Derived.Test.YtkfjafaabbmapaaDoorLeaseNearH
import Derived.Test.YtkfjafaabbmapaaDoorLeaseNearJ
import Derived.Test.YtkfjafaabbmapaaDoorLeaseNearI

noncomputable section
open Go Go.Abs
set_option linter.unusedVariables false
namespace P

def ad9 {ρ : Type} (a : Int) (k : Int → Option ρ) : Option ρ := br (decide (0 ≤ a)) (br (decide (a < (↑64 : Int))) (k (roots256.getD a.toNat 0)) none) none
def l5 {ρ : Type} := shut (ad9 (ρ := ρ))
theorem ah9 {ρ : Type} (a : Int) (k : Int → Option ρ) : l5 a k = ad9 a k := by unfold l5; rw [dz]

def qm {ρ : Type} (a g : Int) (b c d e : List Int) (h f : Int) (k : Int → Option ρ) : Option ρ := br (decide (f < 0)) none (br (decide (IntKind.i64.wrap (a - f) < 0)) none (k (bits BinOp.or IntKind.u32 (h.fdiv (2 ^ min f.toNat 32)) (IntKind.u32.wrap (h * 2 ^ min (IntKind.i64.wrap (a - f)).toNat 32)))))
def bf {ρ : Type} := shut (qm (ρ := ρ))
theorem zo {ρ : Type} (f : Int) (e : Int) (a : List Int) (b : List Int) (c : List Int) (d : List Int) (g : Int) (h : Int) (k : Int → Option ρ) : bf f e a b c d g h k = qm f e a b c d g h k := by unfold bf; rw [dz]

def pq {ρ : Type} (f e : Int) (a b c d : List Int) (g h : Int) (k : Int → Option ρ) : Option ρ := br (decide (h = (↑0 : Int))) (bf f e a b c d g (a.getD 0 0) fun l => bf f e a b c d g (a.getD 1 0) fun m => bf f e a b c d g (a.getD 2 0) fun n => k (bits BinOp.xor IntKind.u32 (bits BinOp.xor IntKind.u32 l m) n)) (br (decide (h = (↑1 : Int))) (bf f e a b c d g (b.getD 0 0) fun o => bf f e a b c d g (b.getD 1 0) fun p => bf f e a b c d g (b.getD 2 0) fun q => k (bits BinOp.xor IntKind.u32 (bits BinOp.xor IntKind.u32 o p) q)) (br (decide (h = (↑2 : Int))) (bf f e a b c d g (c.getD 0 0) fun r => bf f e a b c d g (c.getD 1 0) fun s => bf f e a b c d g (c.getD 2 0) fun t => k (bits BinOp.xor IntKind.u32 (bits BinOp.xor IntKind.u32 r s) t)) (br (decide (h = (↑3 : Int))) (bf f e a b c d g (d.getD 0 0) fun u => bf f e a b c d g (d.getD 1 0) fun i => bf f e a b c d g (d.getD 2 0) fun j => k (bits BinOp.xor IntKind.u32 (bits BinOp.xor IntKind.u32 u i) j)) none)))
def jf {ρ : Type} := shut (pq (ρ := ρ))
theorem vg {ρ : Type} (f : Int) (e : Int) (a : List Int) (b : List Int) (c : List Int) (d : List Int) (g : Int) (h : Int) (k : Int → Option ρ) : jf f e a b c d g h k = pq f e a b c d g h k := by unfold jf; rw [dz]

def p8 {ρ : Type} (f e : Int) (a b c d : List Int) (g h : Int) (k : Int → Option ρ) : Option ρ := br (decide (h = (↑0 : Int))) (bf f e a b c d g (a.getD 0 (0 : Int)) fun i => bf f e a b c d g (a.getD 1 (0 : Int)) fun j => br (decide (a.getD 2 (0 : Int) < (0 : Int))) none (k (bits BinOp.xor IntKind.u32 (bits BinOp.xor IntKind.u32 i j) (g.fdiv ((2 : Int) ^ min (a.getD 2 (0 : Int)).toNat 32))))) (br (decide (h = (↑1 : Int))) (bf f e a b c d g (b.getD 0 (0 : Int)) fun l => bf f e a b c d g (b.getD 1 (0 : Int)) fun m => br (decide (b.getD 2 (0 : Int) < (0 : Int))) none (k (bits BinOp.xor IntKind.u32 (bits BinOp.xor IntKind.u32 l m) (g.fdiv ((2 : Int) ^ min (b.getD 2 (0 : Int)).toNat 32))))) (br (decide (h = (↑2 : Int))) (bf f e a b c d g (c.getD 0 (0 : Int)) fun n => bf f e a b c d g (c.getD 1 (0 : Int)) fun o => br (decide (c.getD 2 (0 : Int) < (0 : Int))) none (k (bits BinOp.xor IntKind.u32 (bits BinOp.xor IntKind.u32 n o) (g.fdiv ((2 : Int) ^ min (c.getD 2 (0 : Int)).toNat 32))))) (br (decide (h = (↑3 : Int))) (bf f e a b c d g (d.getD 0 (0 : Int)) fun p => bf f e a b c d g (d.getD 1 (0 : Int)) fun q => br (decide (d.getD 2 (0 : Int) < (0 : Int))) none (k (bits BinOp.xor IntKind.u32 (bits BinOp.xor IntKind.u32 p q) (g.fdiv ((2 : Int) ^ min (d.getD 2 (0 : Int)).toNat 32))))) none)))
def jl {ρ : Type} := shut (p8 (ρ := ρ))
theorem wu {ρ : Type} (f : Int) (e : Int) (a : List Int) (b : List Int) (c : List Int) (d : List Int) (g : Int) (h : Int) (k : Int → Option ρ) : jl f e a b c d g h k = p8 f e a b c d g h k := by unfold jl; rw [dz]

abbrev zc7 (ρ : Type) := (List Int) → Int → Int → Int → Int → (List Int) → (List Int) → (List Int) → (List Int) → (List Int) → (List Int) → (List Int) → Option ρ
def uw {ρ : Type} (l : List Int) (b a c d : Int) (e f g h i j k : List Int) (nx m : zc7 ρ) : Option ρ := br (decide (a < 16)) (br (decide (0 ≤ IntKind.i64.wrap (a * b))) (br (decide (IntKind.i64.wrap (a * b) ≤ IntKind.i64.wrap (IntKind.i64.wrap (a + 1) * b))) (br (decide (IntKind.i64.wrap (IntKind.i64.wrap (a + 1) * b) ≤ (↑l.length : Int))) (qd (List.drop (IntKind.i64.wrap (a * b)).toNat (List.take (IntKind.i64.wrap (IntKind.i64.wrap (a + 1) * b)).toNat l)) fun n => br (decide (0 ≤ a)) (br (decide (a < (↑16 : Int))) (nx l b (IntKind.i64.wrap (a + 1)) c d e f g h i j (k.set a.toNat (IntKind.u32.wrap n))) none) none) none) none) none) (m l b a c d e f g h i j k)
abbrev zt7 := (List Int) × Int × Int × Int × Int × (List Int) × (List Int) × (List Int) × (List Int) × (List Int) × (List Int) × (List Int)
abbrev zy7 := zt7
def zu7 {ρ : Type} (f : zt7 → Option ρ) : zc7 ρ := fun l m k a b c d e g h i j => f (l, m, k, a, b, c, d, e, g, h, i, j)
def zs7 {ρ : Type} : ag0 zt7 zy7 ρ := fun (k, l, j, a, b, c, d, e, f, g, h, i) next ex => uw k l j a b c d e f g h i (zu7 next) (zu7 ex)
def zm7 {ρ : Type} := shut (lp (zs7 (ρ := ρ)))
theorem ze7 {ρ : Type} : zm7 (ρ := ρ) = lp zs7 := dz _
def zk7 {ρ : Type} (f : ag1 zt7 zy7 ρ) (l : List Int) (m k a b : Int) (c d e g h i j : List Int) (n : zc7 ρ) : Option ρ := f (l, m, k, a, b, c, d, e, g, h, i, j) (fun (l, m, k, a, b, c, d, e, g, h, i, j) => n l m k a b c d e g h i j)
def aa7 {ρ : Type} := zk7 (lp (zs7 (ρ := ρ)))
def uy {ρ : Type} := zk7 (zm7 (ρ := ρ))
theorem adi {ρ : Type} : uy (ρ := ρ) = aa7 := congrArg zk7 ze7
abbrev zc8 (ρ : Type) := Int → Int → (List Int) → (List Int) → (List Int) → Int → Int → (List Int) → (List Int) → (List Int) → (List Int) → (List Int) → Option ρ
def tq {ρ : Type} (j b : Int) (c k l : List Int) (d e : Int) (f g h i a : List Int) (nx o : zc8 ρ) : Option ρ := br (decide (b < j)) (br (decide (0 ≤ b.tmod 16)) (br (decide (b.tmod 16 < (↑16 : Int))) (jf d e f g h i (a.getD 4 0) 3 fun m => l5 b fun n => jf d e f g h i (a.getD 0 0) 2 fun p => br (decide (0 ≤ (IntKind.i64.wrap (b + 1)).tmod 16)) (br (decide ((IntKind.i64.wrap (b + 1)).tmod 16 < (↑16 : Int))) (jl d e f g h i (c.getD ((IntKind.i64.wrap (b + 1)).tmod 16).toNat 0) 0 fun q => br (decide (0 ≤ (IntKind.i64.wrap (b + 9)).tmod 16)) (br (decide ((IntKind.i64.wrap (b + 9)).tmod 16 < (↑16 : Int))) (br (decide (0 ≤ (IntKind.i64.wrap (b + 14)).tmod 16)) (br (decide ((IntKind.i64.wrap (b + 14)).tmod 16 < (↑16 : Int))) (jl d e f g h i (c.getD ((IntKind.i64.wrap (b + 14)).tmod 16).toNat 0) 1 fun r => br (decide (0 ≤ b.tmod 16)) (br (decide (b.tmod 16 < (↑16 : Int))) (nx j (IntKind.i64.wrap (b + 1)) (c.set (b.tmod 16).toNat (IntKind.u32.wrap (IntKind.u32.wrap (IntKind.u32.wrap (c.getD (b.tmod 16).toNat 0 + q) + c.getD ((IntKind.i64.wrap (b + 9)).tmod 16).toNat 0) + r))) k l d e f g h i ((((List.take 1 a).append (List.take 7 (List.take 7 (List.drop 0 a)) ++ List.drop (1 + min 7 (List.take 7 (List.drop 0 a)).length) a)).set 4 (IntKind.u32.wrap (((List.take 1 a).append (List.take 7 (List.take 7 (List.drop 0 a)) ++ List.drop (1 + min 7 (List.take 7 (List.drop 0 a)).length) a)).getD 4 0 + IntKind.u32.wrap (IntKind.u32.wrap (IntKind.u32.wrap (IntKind.u32.wrap (a.getD 7 0 + m) + bits BinOp.xor IntKind.u32 (a.getD 6 0) (bits BinOp.and IntKind.u32 (a.getD 4 0) (bits BinOp.xor IntKind.u32 (a.getD 5 0) (a.getD 6 0)))) + n) + c.getD (b.tmod 16).toNat 0)))).set 0 (IntKind.u32.wrap (IntKind.u32.wrap (IntKind.u32.wrap (IntKind.u32.wrap (IntKind.u32.wrap (a.getD 7 0 + m) + bits BinOp.xor IntKind.u32 (a.getD 6 0) (bits BinOp.and IntKind.u32 (a.getD 4 0) (bits BinOp.xor IntKind.u32 (a.getD 5 0) (a.getD 6 0)))) + n) + c.getD (b.tmod 16).toNat 0) + IntKind.u32.wrap (p + bits BinOp.or IntKind.u32 (bits BinOp.and IntKind.u32 (a.getD 0 0) (a.getD 1 0)) (bits BinOp.and IntKind.u32 (a.getD 2 0) (bits BinOp.or IntKind.u32 (a.getD 0 0) (a.getD 1 0)))))))) none) none) none) none) none) none) none) none) none) none) (o j b c k l d e f g h i a)
abbrev zt8 := Int × Int × (List Int) × (List Int) × (List Int) × Int × Int × (List Int) × (List Int) × (List Int) × (List Int) × (List Int)
abbrev zy8 := zt8
def zu8 {ρ : Type} (f : zt8 → Option ρ) : zc8 ρ := fun l m a b c d e g h i j k => f (l, m, a, b, c, d, e, g, h, i, j, k)
def zs8 {ρ : Type} : ag0 zt8 zy8 ρ := fun (k, l, a, b, c, d, e, f, g, h, i, j) next ex => tq k l a b c d e f g h i j (zu8 next) (zu8 ex)
def zm8 {ρ : Type} := shut (lp (zs8 (ρ := ρ)))
theorem ze8 {ρ : Type} : zm8 (ρ := ρ) = lp zs8 := dz _
def zk8 {ρ : Type} (f : ag1 zt8 zy8 ρ) (l m : Int) (a b c : List Int) (d e : Int) (g h i j k : List Int) (n : zc8 ρ) : Option ρ := f (l, m, a, b, c, d, e, g, h, i, j, k) (fun (l, m, a, b, c, d, e, g, h, i, j, k) => n l m a b c d e g h i j k)
def aas {ρ : Type} := zk8 (lp (zs8 (ρ := ρ)))
def ou {ρ : Type} := zk8 (zm8 (ρ := ρ))
theorem ac9 {ρ : Type} : ou (ρ := ρ) = aas := congrArg zk8 ze8
abbrev zc9 (ρ : Type) := Int → (List Int) → (List Int) → (List Int) → Option ρ
def uj {ρ : Type} (a : Int) (b d c : List Int) (nx e : zc9 ρ) : Option ρ := br (decide (a < 8)) (br (decide (0 ≤ a)) (br (decide (a < (↑8 : Int))) (br (decide (0 ≤ a)) (br (decide (a < (↑8 : Int))) (br (decide (0 ≤ a)) (br (decide (a < (↑8 : Int))) (nx (IntKind.i64.wrap (a + 1)) b d (c.set a.toNat (IntKind.u32.wrap (c.getD a.toNat 0 + b.getD a.toNat 0)))) none) none) none) none) none) none) (e a b d c)
abbrev zt9 := Int × (List Int) × (List Int) × (List Int)
abbrev zy9 := zt9
def zu9 {ρ : Type} (f : zt9 → Option ρ) : zc9 ρ := fun a b c d => f (a, b, c, d)
def zs9 {ρ : Type} : ag0 zt9 zy9 ρ := fun (a, b, c, d) next ex => uj a b c d (zu9 next) (zu9 ex)
def zm9 {ρ : Type} := shut (lp (zs9 (ρ := ρ)))
theorem ze9 {ρ : Type} : zm9 (ρ := ρ) = lp zs9 := dz _
def zk9 {ρ : Type} (f : ag1 zt9 zy9 ρ) (a : Int) (b c d : List Int) (e : zc9 ρ) : Option ρ := f (a, b, c, d) (fun (a, b, c, d) => e a b c d)
def aak {ρ : Type} := zk9 (lp (zs9 (ρ := ρ)))
def oh {ρ : Type} := zk9 (zm9 (ρ := ρ))
theorem ac2 {ρ : Type} : oh (ρ := ρ) = aak := congrArg zk9 ze9
def uh {ρ : Type} (a f : Int) (b c d e p q : List Int) (k : (List Int) → Option ρ) : Option ρ := uy q (IntKind.i64.wrap (a.tdiv 8)) 0 a f b c d e p [0, 0, 0, 0, 0, 0, 0, 0] [0, 0, 0, 0, 0, 0, 0, 0, 0, 0, 0, 0, 0, 0, 0, 0] fun N O Q r g s t u v h i j => ou g 0 j i h r g s t u v h fun w y z l m A B C F G H n => oh 0 m l n fun I J M o => k o
def jv {ρ : Type} := shut (uh (ρ := ρ))
theorem aa6 {ρ : Type} (f : Int) (e : Int) (a : List Int) (b : List Int) (c : List Int) (d : List Int) (g : List Int) (h : List Int) (k : (List Int) → Option ρ) : jv f e a b c d g h k = uh f e a b c d g h k := by unfold jv; rw [dz]

abbrev bnl (ρ : Type) := (List Int) → (List Int) → Int → Int → Int → (List Int) → (List Int) → (List Int) → (List Int) → (List Int) → (List Int) → (List Int) → Option ρ
def aao {ρ : Type} (l b : List Int) (a c d : Int) (e f g h i j k : List Int) (nx m : bnl ρ) : Option ρ := br (decide (a < 8)) (br (decide (0 ≤ a)) (br (decide (a < (↑8 : Int))) (br (decide (0 ≤ a)) (br (decide (a < (↑8 : Int))) (nx l b (IntKind.i64.wrap (a + 1)) c d e f g h i j (k.set a.toNat (IntKind.u32.wrap (b.getD a.toNat 0)))) none) none) none) none) (m l b a c d e f g h i j k)
abbrev biu := (List Int) × (List Int) × Int × Int × Int × (List Int) × (List Int) × (List Int) × (List Int) × (List Int) × (List Int) × (List Int)
abbrev bo1 := biu
def bl1 {ρ : Type} (f : biu → Option ρ) : bnl ρ := fun m k l a b c d e g h i j => f (m, k, l, a, b, c, d, e, g, h, i, j)
def bjt {ρ : Type} : ag0 biu bo1 ρ := fun (l, j, k, a, b, c, d, e, f, g, h, i) next ex => aao l j k a b c d e f g h i (bl1 next) (bl1 ex)
def bn6 {ρ : Type} := shut (lp (bjt (ρ := ρ)))
theorem bql {ρ : Type} : bn6 (ρ := ρ) = lp bjt := dz _
def blm {ρ : Type} (f : ag1 biu bo1 ρ) (m k : List Int) (l a b : Int) (c d e g h i j : List Int) (n : bnl ρ) : Option ρ := f (m, k, l, a, b, c, d, e, g, h, i, j) (fun (m, k, l, a, b, c, d, e, g, h, i, j) => n m k l a b c d e g h i j)
def ac8 {ρ : Type} := blm (lp (bjt (ρ := ρ)))
def zw {ρ : Type} := blm (bn6 (ρ := ρ))
theorem afi {ρ : Type} : zw (ρ := ρ) = ac8 := congrArg blm bql
abbrev bna (ρ : Type) := (List Int) → Int → (List Int) → (List Int) → (List Int) → Int → Int → (List Int) → (List Int) → (List Int) → (List Int) → Option ρ
def aai {ρ : Type} (b : List Int) (a : Int) (i j k : List Int) (c d : Int) (e f g h : List Int) (nx l : bna ρ) : Option ρ := br (decide ((↑b.length : Int) ≥ a)) (br (decide (0 ≤ a)) (br (decide (a ≤ (↑b.length : Int))) (jv c d e f g h i (List.drop 0 (List.take a.toNat b)) fun m => br (decide (0 ≤ a)) (br (decide (a ≤ (↑b.length : Int))) (br (decide ((↑b.length : Int) ≤ (↑b.length : Int))) (nx (List.drop a.toNat (List.take (↑b.length : Int).toNat b)) a m j k c d e f g h) none) none) none) none) none) (l b a i j k c d e f g h)
abbrev bh4 := (List Int) × Int × (List Int) × (List Int) × (List Int) × Int × Int × (List Int) × (List Int) × (List Int) × (List Int)
abbrev bmu := bh4
def bpk {ρ : Type} (f : bh4 → Option ρ) : bna ρ := fun l k a b c d e g h i j => f (l, k, a, b, c, d, e, g, h, i, j)
def bjw {ρ : Type} : ag0 bh4 bmu ρ := fun (k, j, a, b, c, d, e, f, g, h, i) next ex => aai k j a b c d e f g h i (bpk next) (bpk ex)
def bm6 {ρ : Type} := shut (lp (bjw (ρ := ρ)))
theorem bpz {ρ : Type} : bm6 (ρ := ρ) = lp bjw := dz _
def bll {ρ : Type} (f : ag1 bh4 bmu ρ) (l : List Int) (k : Int) (a b c : List Int) (d e : Int) (g h i j : List Int) (m : bna ρ) : Option ρ := f (l, k, a, b, c, d, e, g, h, i, j) (fun (l, k, a, b, c, d, e, g, h, i, j) => m l k a b c d e g h i j)
def ac6 {ρ : Type} := bll (lp (bjw (ρ := ρ)))
def zu {ρ : Type} := bll (bm6 (ρ := ρ))
theorem afk {ρ : Type} : zu (ρ := ρ) = ac6 := congrArg bll bpz
abbrev bn8 (ρ : Type) := (List Int) → (List Int) → Int → (List Int) → (List Int) → Option ρ
def zl {ρ : Type} (e b : List Int) (a : Int) (c d : List Int) (nx f : bn8 ρ) : Option ρ := br (decide (a < 8)) (br (decide (0 ≤ a)) (br (decide (a < (↑8 : Int))) (br (decide (0 ≤ a)) (br (decide (a < (↑8 : Int))) (nx e b (IntKind.i64.wrap (a + 1)) (c.set a.toNat (IntKind.u64.wrap (b.getD a.toNat 0))) d) none) none) none) none) (f e b a c d)
abbrev bj2 := (List Int) × (List Int) × Int × (List Int) × (List Int)
abbrev bmb := bj2
def bpl {ρ : Type} (f : bj2 → Option ρ) : bn8 ρ := fun e c d a b => f (e, c, d, a, b)
def zs12 {ρ : Type} : ag0 bj2 bmb ρ := fun (e, c, d, a, b) next ex => zl e c d a b (bpl next) (bpl ex)
def bm1 {ρ : Type} := shut (lp (zs12 (ρ := ρ)))
theorem bqd {ρ : Type} : bm1 (ρ := ρ) = lp zs12 := dz _
def bku {ρ : Type} (f : ag1 bj2 bmb ρ) (e c : List Int) (d : Int) (a b : List Int) (g : bn8 ρ) : Option ρ := f (e, c, d, a, b) (fun (e, c, d, a, b) => g e c d a b)
def ab4 {ρ : Type} := bku (lp (zs12 (ρ := ρ)))
def zk {ρ : Type} := bku (bm1 (ρ := ρ))
theorem afg {ρ : Type} : zk (ρ := ρ) = ab4 := congrArg bku bqd
def y9 {ρ : Type} (f e : Int) (a b c d g r : List Int) (k : (List Int) → (List Int) → Option ρ) : Option ρ := zw r g 0 f e a b c d g [0, 0, 0, 0, 0, 0, 0, 0] [0, 0, 0, 0, 0, 0, 0, 0] fun s O Q h t u v w y z i j => zu s (IntKind.i64.wrap (h * 2)) j i z h t u v w y fun l A m n o B C F G H I => zk l m 0 o n fun p J M q N => k q p
def l8 {ρ : Type} := shut (y9 (ρ := ρ))
theorem ada {ρ : Type} (f : Int) (e : Int) (a : List Int) (b : List Int) (c : List Int) (d : List Int) (g : List Int) (h : List Int) (k : (List Int) → (List Int) → Option ρ) : l8 f e a b c d g h k = y9 f e a b c d g h k := by unfold l8; rw [dz]

def akq {ρ : Type} (k : Int → Int → (List Int) → (List Int) → (List Int) → (List Int) → Option ρ) : Option ρ := k 32 64 [7, 18, 3] [17, 19, 10] [2, 13, 22] [6, 11, 25]
def aaf {ρ : Type} := shut (akq (ρ := ρ))
theorem amb {ρ : Type}  (k : Int → Int → (List Int) → (List Int) → (List Int) → (List Int) → Option ρ) : aaf  k = akq  k := by unfold aaf; rw [dz]

def aeb {ρ : Type} (a : Int) (k : Int → Option ρ) : Option ρ := br (decide (0 ≤ a)) (br (decide (a < (↑80 : Int))) (k (roots512.getD a.toNat 0)) none) none
def lg {ρ : Type} := shut (aeb (ρ := ρ))
theorem aij {ρ : Type} (a : Int) (k : Int → Option ρ) : lg a k = aeb a k := by unfold lg; rw [dz]

def qo {ρ : Type} (a g : Int) (b c d e : List Int) (h f : Int) (k : Int → Option ρ) : Option ρ := br (decide (f < 0)) none (br (decide (IntKind.i64.wrap (a - f) < 0)) none (k (bits BinOp.or IntKind.u64 (h.fdiv (2 ^ min f.toNat 64)) (IntKind.u64.wrap (h * 2 ^ min (IntKind.i64.wrap (a - f)).toNat 64)))))
def ay {ρ : Type} := shut (qo (ρ := ρ))
theorem zn {ρ : Type} (f : Int) (e : Int) (a : List Int) (b : List Int) (c : List Int) (d : List Int) (g : Int) (h : Int) (k : Int → Option ρ) : ay f e a b c d g h k = qo f e a b c d g h k := by unfold ay; rw [dz]

def pz {ρ : Type} (f e : Int) (a b c d : List Int) (g h : Int) (k : Int → Option ρ) : Option ρ := br (decide (h = (↑0 : Int))) (ay f e a b c d g (a.getD 0 0) fun l => ay f e a b c d g (a.getD 1 0) fun m => ay f e a b c d g (a.getD 2 0) fun n => k (bits BinOp.xor IntKind.u64 (bits BinOp.xor IntKind.u64 l m) n)) (br (decide (h = (↑1 : Int))) (ay f e a b c d g (b.getD 0 0) fun o => ay f e a b c d g (b.getD 1 0) fun p => ay f e a b c d g (b.getD 2 0) fun q => k (bits BinOp.xor IntKind.u64 (bits BinOp.xor IntKind.u64 o p) q)) (br (decide (h = (↑2 : Int))) (ay f e a b c d g (c.getD 0 0) fun r => ay f e a b c d g (c.getD 1 0) fun s => ay f e a b c d g (c.getD 2 0) fun t => k (bits BinOp.xor IntKind.u64 (bits BinOp.xor IntKind.u64 r s) t)) (br (decide (h = (↑3 : Int))) (ay f e a b c d g (d.getD 0 0) fun u => ay f e a b c d g (d.getD 1 0) fun i => ay f e a b c d g (d.getD 2 0) fun j => k (bits BinOp.xor IntKind.u64 (bits BinOp.xor IntKind.u64 u i) j)) none)))
def jg {ρ : Type} := shut (pz (ρ := ρ))
theorem u7 {ρ : Type} (f : Int) (e : Int) (a : List Int) (b : List Int) (c : List Int) (d : List Int) (g : Int) (h : Int) (k : Int → Option ρ) : jg f e a b c d g h k = pz f e a b c d g h k := by unfold jg; rw [dz]

def p9 {ρ : Type} (f e : Int) (a b c d : List Int) (g h : Int) (k : Int → Option ρ) : Option ρ := br (decide (h = (↑0 : Int))) (ay f e a b c d g (a.getD 0 (0 : Int)) fun i => ay f e a b c d g (a.getD 1 (0 : Int)) fun j => br (decide (a.getD 2 (0 : Int) < (0 : Int))) none (k (bits BinOp.xor IntKind.u64 (bits BinOp.xor IntKind.u64 i j) (g.fdiv ((2 : Int) ^ min (a.getD 2 (0 : Int)).toNat 64))))) (br (decide (h = (↑1 : Int))) (ay f e a b c d g (b.getD 0 (0 : Int)) fun l => ay f e a b c d g (b.getD 1 (0 : Int)) fun m => br (decide (b.getD 2 (0 : Int) < (0 : Int))) none (k (bits BinOp.xor IntKind.u64 (bits BinOp.xor IntKind.u64 l m) (g.fdiv ((2 : Int) ^ min (b.getD 2 (0 : Int)).toNat 64))))) (br (decide (h = (↑2 : Int))) (ay f e a b c d g (c.getD 0 (0 : Int)) fun n => ay f e a b c d g (c.getD 1 (0 : Int)) fun o => br (decide (c.getD 2 (0 : Int) < (0 : Int))) none (k (bits BinOp.xor IntKind.u64 (bits BinOp.xor IntKind.u64 n o) (g.fdiv ((2 : Int) ^ min (c.getD 2 (0 : Int)).toNat 64))))) (br (decide (h = (↑3 : Int))) (ay f e a b c d g (d.getD 0 (0 : Int)) fun p => ay f e a b c d g (d.getD 1 (0 : Int)) fun q => br (decide (d.getD 2 (0 : Int) < (0 : Int))) none (k (bits BinOp.xor IntKind.u64 (bits BinOp.xor IntKind.u64 p q) (g.fdiv ((2 : Int) ^ min (d.getD 2 (0 : Int)).toNat 64))))) none)))
def jm {ρ : Type} := shut (p9 (ρ := ρ))
theorem wo {ρ : Type} (f : Int) (e : Int) (a : List Int) (b : List Int) (c : List Int) (d : List Int) (g : Int) (h : Int) (k : Int → Option ρ) : jm f e a b c d g h k = p9 f e a b c d g h k := by unfold jm; rw [dz]

abbrev bpe (ρ : Type) := (List Int) → Int → Int → Int → Int → (List Int) → (List Int) → (List Int) → (List Int) → (List Int) → (List Int) → (List Int) → Option ρ
def uo {ρ : Type} (l : List Int) (b a c d : Int) (e f g h i j k : List Int) (nx m : bpe ρ) : Option ρ := br (decide (a < 16)) (br (decide (0 ≤ IntKind.i64.wrap (a * b))) (br (decide (IntKind.i64.wrap (a * b) ≤ IntKind.i64.wrap (IntKind.i64.wrap (a + 1) * b))) (br (decide (IntKind.i64.wrap (IntKind.i64.wrap (a + 1) * b) ≤ (↑l.length : Int))) (qd (List.drop (IntKind.i64.wrap (a * b)).toNat (List.take (IntKind.i64.wrap (IntKind.i64.wrap (a + 1) * b)).toNat l)) fun n => br (decide (0 ≤ a)) (br (decide (a < (↑16 : Int))) (nx l b (IntKind.i64.wrap (a + 1)) c d e f g h i j (k.set a.toNat n)) none) none) none) none) none) (m l b a c d e f g h i j k)
abbrev biv := (List Int) × Int × Int × Int × Int × (List Int) × (List Int) × (List Int) × (List Int) × (List Int) × (List Int) × (List Int)
abbrev bpq := biv
def bog {ρ : Type} (f : biv → Option ρ) : bpe ρ := fun l m k a b c d e g h i j => f (l, m, k, a, b, c, d, e, g, h, i, j)
def bjv {ρ : Type} : ag0 biv bpq ρ := fun (k, l, j, a, b, c, d, e, f, g, h, i) next ex => uo k l j a b c d e f g h i (bog next) (bog ex)
def bpd {ρ : Type} := shut (lp (bjv (ρ := ρ)))
theorem bqr {ρ : Type} : bpd (ρ := ρ) = lp bjv := dz _
def blh {ρ : Type} (f : ag1 biv bpq ρ) (l : List Int) (m k a b : Int) (c d e g h i j : List Int) (n : bpe ρ) : Option ρ := f (l, m, k, a, b, c, d, e, g, h, i, j) (fun (l, m, k, a, b, c, d, e, g, h, i, j) => n l m k a b c d e g h i j)
def aa5 {ρ : Type} := blh (lp (bjv (ρ := ρ)))
def uq {ρ : Type} := blh (bpd (ρ := ρ))
theorem adl {ρ : Type} : uq (ρ := ρ) = aa5 := congrArg blh bqr
abbrev bo3 (ρ : Type) := Int → Int → (List Int) → (List Int) → (List Int) → Int → Int → (List Int) → (List Int) → (List Int) → (List Int) → (List Int) → Option ρ
def ru {ρ : Type} (j b : Int) (c k l : List Int) (d e : Int) (f g h i a : List Int) (nx o : bo3 ρ) : Option ρ := br (decide (b < j)) (br (decide (0 ≤ b.tmod 16)) (br (decide (b.tmod 16 < (↑16 : Int))) (jg d e f g h i (a.getD 4 0) 3 fun m => lg b fun n => jg d e f g h i (a.getD 0 0) 2 fun p => br (decide (0 ≤ (IntKind.i64.wrap (b + 1)).tmod 16)) (br (decide ((IntKind.i64.wrap (b + 1)).tmod 16 < (↑16 : Int))) (jm d e f g h i (c.getD ((IntKind.i64.wrap (b + 1)).tmod 16).toNat 0) 0 fun q => br (decide (0 ≤ (IntKind.i64.wrap (b + 9)).tmod 16)) (br (decide ((IntKind.i64.wrap (b + 9)).tmod 16 < (↑16 : Int))) (br (decide (0 ≤ (IntKind.i64.wrap (b + 14)).tmod 16)) (br (decide ((IntKind.i64.wrap (b + 14)).tmod 16 < (↑16 : Int))) (jm d e f g h i (c.getD ((IntKind.i64.wrap (b + 14)).tmod 16).toNat 0) 1 fun r => br (decide (0 ≤ b.tmod 16)) (br (decide (b.tmod 16 < (↑16 : Int))) (nx j (IntKind.i64.wrap (b + 1)) (c.set (b.tmod 16).toNat (IntKind.u64.wrap (IntKind.u64.wrap (IntKind.u64.wrap (c.getD (b.tmod 16).toNat 0 + q) + c.getD ((IntKind.i64.wrap (b + 9)).tmod 16).toNat 0) + r))) k l d e f g h i ((((List.take 1 a).append (List.take 7 (List.take 7 (List.drop 0 a)) ++ List.drop (1 + min 7 (List.take 7 (List.drop 0 a)).length) a)).set 4 (IntKind.u64.wrap (((List.take 1 a).append (List.take 7 (List.take 7 (List.drop 0 a)) ++ List.drop (1 + min 7 (List.take 7 (List.drop 0 a)).length) a)).getD 4 0 + IntKind.u64.wrap (IntKind.u64.wrap (IntKind.u64.wrap (IntKind.u64.wrap (a.getD 7 0 + m) + bits BinOp.xor IntKind.u64 (a.getD 6 0) (bits BinOp.and IntKind.u64 (a.getD 4 0) (bits BinOp.xor IntKind.u64 (a.getD 5 0) (a.getD 6 0)))) + n) + c.getD (b.tmod 16).toNat 0)))).set 0 (IntKind.u64.wrap (IntKind.u64.wrap (IntKind.u64.wrap (IntKind.u64.wrap (IntKind.u64.wrap (a.getD 7 0 + m) + bits BinOp.xor IntKind.u64 (a.getD 6 0) (bits BinOp.and IntKind.u64 (a.getD 4 0) (bits BinOp.xor IntKind.u64 (a.getD 5 0) (a.getD 6 0)))) + n) + c.getD (b.tmod 16).toNat 0) + IntKind.u64.wrap (p + bits BinOp.or IntKind.u64 (bits BinOp.and IntKind.u64 (a.getD 0 0) (a.getD 1 0)) (bits BinOp.and IntKind.u64 (a.getD 2 0) (bits BinOp.or IntKind.u64 (a.getD 0 0) (a.getD 1 0)))))))) none) none) none) none) none) none) none) none) none) none) (o j b c k l d e f g h i a)
abbrev bju := Int × Int × (List Int) × (List Int) × (List Int) × Int × Int × (List Int) × (List Int) × (List Int) × (List Int) × (List Int)
abbrev bm7 := bju
def bny {ρ : Type} (f : bju → Option ρ) : bo3 ρ := fun l m a b c d e g h i j k => f (l, m, a, b, c, d, e, g, h, i, j, k)
def bkf {ρ : Type} : ag0 bju bm7 ρ := fun (k, l, a, b, c, d, e, f, g, h, i, j) next ex => ru k l a b c d e f g h i j (bny next) (bny ex)
def bl0 {ρ : Type} := shut (lp (bkf (ρ := ρ)))
theorem bqg {ρ : Type} : bl0 (ρ := ρ) = lp bkf := dz _
def bkz {ρ : Type} (f : ag1 bju bm7 ρ) (l m : Int) (a b c : List Int) (d e : Int) (g h i j k : List Int) (n : bo3 ρ) : Option ρ := f (l, m, a, b, c, d, e, g, h, i, j, k) (fun (l, m, a, b, c, d, e, g, h, i, j, k) => n l m a b c d e g h i j k)
def aaj {ρ : Type} := bkz (lp (bkf (ρ := ρ)))
def oz {ρ : Type} := bkz (bl0 (ρ := ρ))
theorem adf {ρ : Type} : oz (ρ := ρ) = aaj := congrArg bkz bqg
abbrev blv (ρ : Type) := Int → (List Int) → (List Int) → (List Int) → Option ρ
def sw {ρ : Type} (a : Int) (b d c : List Int) (nx e : blv ρ) : Option ρ := br (decide (a < 8)) (br (decide (0 ≤ a)) (br (decide (a < (↑8 : Int))) (br (decide (0 ≤ a)) (br (decide (a < (↑8 : Int))) (br (decide (0 ≤ a)) (br (decide (a < (↑8 : Int))) (nx (IntKind.i64.wrap (a + 1)) b d (c.set a.toNat (IntKind.u64.wrap (c.getD a.toNat 0 + b.getD a.toNat 0)))) none) none) none) none) none) none) (e a b d c)
abbrev bjy := Int × (List Int) × (List Int) × (List Int)
abbrev bmq := bjy
def bno {ρ : Type} (f : bjy → Option ρ) : blv ρ := fun a b c d => f (a, b, c, d)
def bhy {ρ : Type} : ag0 bjy bmq ρ := fun (a, b, c, d) next ex => sw a b c d (bno next) (bno ex)
def bpc {ρ : Type} := shut (lp (bhy (ρ := ρ)))
theorem bp8 {ρ : Type} : bpc (ρ := ρ) = lp bhy := dz _
def blr {ρ : Type} (f : ag1 bjy bmq ρ) (a : Int) (b c d : List Int) (e : blv ρ) : Option ρ := f (a, b, c, d) (fun (a, b, c, d) => e a b c d)
def aau {ρ : Type} := blr (lp (bhy (ρ := ρ)))
def o7 {ρ : Type} := blr (bpc (ρ := ρ))
theorem ac5 {ρ : Type} : o7 (ρ := ρ) = aau := congrArg blr bp8
def sj {ρ : Type} (a f : Int) (b c d e p q : List Int) (k : (List Int) → Option ρ) : Option ρ := uq q (IntKind.i64.wrap (a.tdiv 8)) 0 a f b c d e p [0, 0, 0, 0, 0, 0, 0, 0] [0, 0, 0, 0, 0, 0, 0, 0, 0, 0, 0, 0, 0, 0, 0, 0] fun N O Q r g s t u v h i j => oz g 0 j i h r g s t u v h fun w y z l m A B C F G H n => o7 0 m l n fun I J M o => k o
def jr {ρ : Type} := shut (sj (ρ := ρ))
theorem aa8 {ρ : Type} (f : Int) (e : Int) (a : List Int) (b : List Int) (c : List Int) (d : List Int) (g : List Int) (h : List Int) (k : (List Int) → Option ρ) : jr f e a b c d g h k = sj f e a b c d g h k := by unfold jr; rw [dz]

abbrev bo0 (ρ : Type) := (List Int) → (List Int) → Int → Int → Int → (List Int) → (List Int) → (List Int) → (List Int) → (List Int) → (List Int) → (List Int) → Option ρ
def aah {ρ : Type} (l b : List Int) (a c d : Int) (e f g h i j k : List Int) (nx m : bo0 ρ) : Option ρ := br (decide (a < 8)) (br (decide (0 ≤ a)) (br (decide (a < (↑8 : Int))) (br (decide (0 ≤ a)) (br (decide (a < (↑8 : Int))) (nx l b (IntKind.i64.wrap (a + 1)) c d e f g h i j (k.set a.toNat (b.getD a.toNat 0))) none) none) none) none) (m l b a c d e f g h i j k)
abbrev bjb := (List Int) × (List Int) × Int × Int × Int × (List Int) × (List Int) × (List Int) × (List Int) × (List Int) × (List Int) × (List Int)
abbrev bmz := bjb
def bm0 {ρ : Type} (f : bjb → Option ρ) : bo0 ρ := fun m k l a b c d e g h i j => f (m, k, l, a, b, c, d, e, g, h, i, j)
def bi9 {ρ : Type} : ag0 bjb bmz ρ := fun (l, j, k, a, b, c, d, e, f, g, h, i) next ex => aah l j k a b c d e f g h i (bm0 next) (bm0 ex)
def bnr {ρ : Type} := shut (lp (bi9 (ρ := ρ)))
theorem bqh {ρ : Type} : bnr (ρ := ρ) = lp bi9 := dz _
def bkv {ρ : Type} (f : ag1 bjb bmz ρ) (m k : List Int) (l a b : Int) (c d e g h i j : List Int) (n : bo0 ρ) : Option ρ := f (m, k, l, a, b, c, d, e, g, h, i, j) (fun (m, k, l, a, b, c, d, e, g, h, i, j) => n m k l a b c d e g h i j)
def ade {ρ : Type} := bkv (lp (bi9 (ρ := ρ)))
def aaq {ρ : Type} := bkv (bnr (ρ := ρ))
theorem afp {ρ : Type} : aaq (ρ := ρ) = ade := congrArg bkv bqh
abbrev bm8 (ρ : Type) := (List Int) → Int → (List Int) → (List Int) → (List Int) → Int → Int → (List Int) → (List Int) → (List Int) → (List Int) → Option ρ
def aav {ρ : Type} (b : List Int) (a : Int) (i j k : List Int) (c d : Int) (e f g h : List Int) (nx l : bm8 ρ) : Option ρ := br (decide ((↑b.length : Int) ≥ a)) (br (decide (0 ≤ a)) (br (decide (a ≤ (↑b.length : Int))) (jr c d e f g h i (List.drop 0 (List.take a.toNat b)) fun m => br (decide (0 ≤ a)) (br (decide (a ≤ (↑b.length : Int))) (br (decide ((↑b.length : Int) ≤ (↑b.length : Int))) (nx (List.drop a.toNat (List.take (↑b.length : Int).toNat b)) a m j k c d e f g h) none) none) none) none) none) (l b a i j k c d e f g h)
abbrev bj8 := (List Int) × Int × (List Int) × (List Int) × (List Int) × Int × Int × (List Int) × (List Int) × (List Int) × (List Int)
abbrev bmj := bj8
def bmp {ρ : Type} (f : bj8 → Option ρ) : bm8 ρ := fun l k a b c d e g h i j => f (l, k, a, b, c, d, e, g, h, i, j)
def bkn {ρ : Type} : ag0 bj8 bmj ρ := fun (k, j, a, b, c, d, e, f, g, h, i) next ex => aav k j a b c d e f g h i (bmp next) (bmp ex)
def bmf {ρ : Type} := shut (lp (bkn (ρ := ρ)))
theorem bpy {ρ : Type} : bmf (ρ := ρ) = lp bkn := dz _
def blf {ρ : Type} (f : ag1 bj8 bmj ρ) (l : List Int) (k : Int) (a b c : List Int) (d e : Int) (g h i j : List Int) (m : bm8 ρ) : Option ρ := f (l, k, a, b, c, d, e, g, h, i, j) (fun (l, k, a, b, c, d, e, g, h, i, j) => m l k a b c d e g h i j)
def ac3 {ρ : Type} := blf (lp (bkn (ρ := ρ)))
def aan {ρ : Type} := blf (bmf (ρ := ρ))
theorem afj {ρ : Type} : aan (ρ := ρ) = ac3 := congrArg blf bpy
abbrev bl6 (ρ : Type) := (List Int) → (List Int) → Int → (List Int) → (List Int) → Option ρ
def zm {ρ : Type} (e b : List Int) (a : Int) (c d : List Int) (nx f : bl6 ρ) : Option ρ := br (decide (a < 8)) (br (decide (0 ≤ a)) (br (decide (a < (↑8 : Int))) (br (decide (0 ≤ a)) (br (decide (a < (↑8 : Int))) (nx e b (IntKind.i64.wrap (a + 1)) (c.set a.toNat (b.getD a.toNat 0)) d) none) none) none) none) (f e b a c d)
abbrev bkm := (List Int) × (List Int) × Int × (List Int) × (List Int)
abbrev bn4 := bkm
def bns {ρ : Type} (f : bkm → Option ρ) : bl6 ρ := fun e c d a b => f (e, c, d, a, b)
def bie {ρ : Type} : ag0 bkm bn4 ρ := fun (e, c, d, a, b) next ex => zm e c d a b (bns next) (bns ex)
def bl8 {ρ : Type} := shut (lp (bie (ρ := ρ)))
theorem bpx {ρ : Type} : bl8 (ρ := ρ) = lp bie := dz _
def blg {ρ : Type} (f : ag1 bkm bn4 ρ) (e c : List Int) (d : Int) (a b : List Int) (g : bl6 ρ) : Option ρ := f (e, c, d, a, b) (fun (e, c, d, a, b) => g e c d a b)
def ab3 {ρ : Type} := blg (lp (bie (ρ := ρ)))
def za {ρ : Type} := blg (bl8 (ρ := ρ))
theorem ae9 {ρ : Type} : za (ρ := ρ) = ab3 := congrArg blg bpx
def zi {ρ : Type} (f e : Int) (a b c d g r : List Int) (k : (List Int) → (List Int) → Option ρ) : Option ρ := aaq r g 0 f e a b c d g [0, 0, 0, 0, 0, 0, 0, 0] [0, 0, 0, 0, 0, 0, 0, 0] fun s O Q h t u v w y z i j => aan s (IntKind.i64.wrap (h * 2)) j i z h t u v w y fun l A m n o B C F G H I => za l m 0 o n fun p J M q N => k q p
def mg {ρ : Type} := shut (zi (ρ := ρ))
theorem adg {ρ : Type} (f : Int) (e : Int) (a : List Int) (b : List Int) (c : List Int) (d : List Int) (g : List Int) (h : List Int) (k : (List Int) → (List Int) → Option ρ) : mg f e a b c d g h k = zi f e a b c d g h k := by unfold mg; rw [dz]

def akp {ρ : Type} (k : Int → Int → (List Int) → (List Int) → (List Int) → (List Int) → Option ρ) : Option ρ := k 64 80 [1, 8, 7] [19, 61, 6] [28, 34, 39] [14, 18, 41]
def zy {ρ : Type} := shut (akp (ρ := ρ))
theorem aml {ρ : Type}  (k : Int → Int → (List Int) → (List Int) → (List Int) → (List Int) → Option ρ) : zy  k = akp  k := by unfold zy; rw [dz]

def ain {ρ : Type} (a : Int) (b d : List Int) (c : Int) (e : List Int) (k : Int → (List Int) → (List Int) → Int → Option ρ) : Option ρ := jd [d, e] fun f => br (a == 1) (aaf fun q r s t u v => l8 q r s t u v b f fun w y => fu y fun z => k a w z (IntKind.u64.wrap (c + IntKind.u64.wrap (↑e.length : Int)))) (zy fun g h i j l m => mg g h i j l m b f fun n o => fu o fun p => k a n p (IntKind.u64.wrap (c + IntKind.u64.wrap (↑e.length : Int))))
def abe {ρ : Type} := shut (ain (ρ := ρ))
theorem aq8 {ρ : Type} (b : Int) (a : List Int) (c : List Int) (d : Int) (e : List Int) (k : Int → (List Int) → (List Int) → Int → Option ρ) : abe b a c d e k = ain b a c d e k := by unfold abe; rw [dz]

def ab9 {ρ : Type} (a : Int) (k : Int → Option ρ) : Option ρ := br (a == 1) (k 64) (k 128)
def om {ρ : Type} := shut (ab9 (ρ := ρ))
theorem agn {ρ : Type} (a : Int) (k : Int → Option ρ) : om a k = ab9 a k := by unfold om; rw [dz]

abbrev bnk (ρ : Type) := Int → (List Int) → Int → (List Int) → Int → (List Int) → Int → (List Int) → Option ρ
def ai0 {ρ : Type} (g : Int) (b : List Int) (a : Int) (c : List Int) (d : Int) (e : List Int) (f : Int) (h : List Int) (nx j : bnk ρ) : Option ρ := br (decide (a < 8)) (br (decide (0 ≤ a)) (br (decide (a < (↑8 : Int))) (yc (b.getD a.toNat 0) (IntKind.i64.wrap (g.tdiv 16)) fun i => br (decide ((c.length + i.length) * 1 ≤ 140737488355328)) (nx g b (IntKind.i64.wrap (a + 1)) (c ++ i) d e f h) none) none) none) (j g b a c d e f h)
abbrev bjg := Int × (List Int) × Int × (List Int) × Int × (List Int) × Int × (List Int)
abbrev bm5 := bjg
def boc {ρ : Type} (f : bjg → Option ρ) : bnk ρ := fun h d e g a b c i => f (h, d, e, g, a, b, c, i)
def bh7 {ρ : Type} : ag0 bjg bm5 ρ := fun (g, d, e, f, a, b, c, h) next ex => ai0 g d e f a b c h (boc next) (boc ex)
def bn7 {ρ : Type} := shut (lp (bh7 (ρ := ρ)))
theorem bqo {ρ : Type} : bn7 (ρ := ρ) = lp bh7 := dz _
def bkw {ρ : Type} (f : ag1 bjg bm5 ρ) (h : Int) (d : List Int) (e : Int) (g : List Int) (a : Int) (b : List Int) (c : Int) (i : List Int) (j : bnk ρ) : Option ρ := f (h, d, e, g, a, b, c, i) (fun (h, d, e, g, a, b, c, i) => j h d e g a b c i)
def anv {ρ : Type} := bkw (lp (bh7 (ρ := ρ)))
def ai4 {ρ : Type} := bkw (bn7 (ρ := ρ))
theorem aps {ρ : Type} : ai4 (ρ := ρ) = anv := congrArg bkw bqo
def ai1 {ρ : Type} (c : Int) (e a : List Int) (d : Int) (k : (List Int) → Option ρ) : Option ρ := om c fun b => br (decide (1 ≤ b)) (br (decide (b * (↑1 : Int) ≤ (↑140737488355328 : Int))) (br (decide (b = 0)) none (br (decide (0 ≤ IntKind.i64.wrap (IntKind.i64.wrap ((IntKind.i64.wrap (IntKind.i64.wrap (IntKind.i64.wrap (IntKind.i64.wrap (2 * b) - 1) - IntKind.i64.wrap (b.tdiv 8)) - (↑a.length : Int))).tmod b + IntKind.i64.wrap (b.tdiv 8)) - 8))) (br (decide ((1 + (IntKind.i64.wrap (IntKind.i64.wrap ((IntKind.i64.wrap (IntKind.i64.wrap (IntKind.i64.wrap (IntKind.i64.wrap (2 * b) - 1) - IntKind.i64.wrap (b.tdiv 8)) - (↑a.length : Int))).tmod b + IntKind.i64.wrap (b.tdiv 8)) - 8)).toNat) * 1 ≤ 140737488355328)) (yc (IntKind.u64.wrap (d * 2 ^ 3)) 8 fun g => br (decide ((((List.replicate (IntKind.i64.wrap (IntKind.i64.wrap ((IntKind.i64.wrap (IntKind.i64.wrap (IntKind.i64.wrap (IntKind.i64.wrap (2 * b) - 1) - IntKind.i64.wrap (b.tdiv 8)) - (↑a.length : Int))).tmod b + IntKind.i64.wrap (b.tdiv 8)) - 8)).toNat (0 : Int)).length.add 0).succ + g.length) * 1 ≤ 140737488355328)) (abe c e a d ((List.replicate 1 (0 : Int)).set 0 128 ++ List.replicate (IntKind.i64.wrap (IntKind.i64.wrap ((IntKind.i64.wrap (IntKind.i64.wrap (IntKind.i64.wrap (IntKind.i64.wrap (2 * b) - 1) - IntKind.i64.wrap (b.tdiv 8)) - (↑a.length : Int))).tmod b + IntKind.i64.wrap (b.tdiv 8)) - 8)).toNat (0 : Int) ++ g) fun j h l m => ai4 b h 0 [] j h m l fun q r s f i n o p => br (i == 2) (br (decide (48 ≤ (↑f.length : Int))) (k (List.take ((48 : Int) - (0 : Int)).toNat f)) none) (k f)) none) none) none)) none) none
def aeg {ρ : Type} := shut (ai1 (ρ := ρ))
theorem aq3 {ρ : Type} (b : Int) (a : List Int) (c : List Int) (d : Int) (k : (List Int) → Option ρ) : aeg b a c d k = ai1 b a c d k := by unfold aeg; rw [dz]

def ajh {ρ : Type} (b : Int) (c : List Int) (k : (List Int) → Int → Option ρ) : Option ρ := aei b fun d e f g a => br (a != 0) (k [] a) (abe d e f g c fun h i j l => aeg h i j l fun m => k m 0)
def abf {ρ : Type} := shut (ajh (ρ := ρ))
theorem ap5 {ρ : Type} (a : Int) (b : List Int) (k : (List Int) → Int → Option ρ) : abf a b k = ajh a b k := by unfold abf; rw [dz]

abbrev bn1 (ρ : Type) := (List Int) → (List Int) → Int → Int → Int → Option ρ
def ahl {ρ : Type} (c d : List Int) (e b a : Int) (nx f : bn1 ρ) : Option ρ := br (decide (a < b)) (br (decide (0 ≤ a)) (br (decide (a < (↑c.length : Int))) (br (decide (0 ≤ a)) (br (decide (a < (↑d.length : Int))) (nx c d (bits BinOp.or IntKind.u8 e (bits BinOp.xor IntKind.u8 (c.getD a.toNat 0) (d.getD a.toNat 0))) b (IntKind.i64.wrap (a + 1))) none) none) none) none) (f c d e b a)
abbrev bhu := (List Int) × (List Int) × Int × Int × Int
abbrev bly := bhu
def blz {ρ : Type} (f : bhu → Option ρ) : bn1 ρ := fun c d e a b => f (c, d, e, a, b)
def bjq {ρ : Type} : ag0 bhu bly ρ := fun (c, d, e, a, b) next ex => ahl c d e a b (blz next) (blz ex)
def bmv {ρ : Type} := shut (lp (bjq (ρ := ρ)))
theorem bqi {ρ : Type} : bmv (ρ := ρ) = lp bjq := dz _
def blj {ρ : Type} (f : ag1 bhu bly ρ) (c d : List Int) (e a b : Int) (g : bn1 ρ) : Option ρ := f (c, d, e, a, b) (fun (c, d, e, a, b) => g c d e a b)
def amd {ρ : Type} := blj (lp (bjq (ρ := ρ)))
def al7 {ρ : Type} := blj (bmv (ρ := ρ))
theorem anf {ρ : Type} : al7 (ρ := ρ) = amd := congrArg blj bqi
def af5 {ρ : Type} (a b : List Int) (k : Bool → Option ρ) : Option ρ := br ((↑a.length : Int) != (↑b.length : Int)) (k false) (al7 a b 0 (↑a.length : Int) 0 fun d e c f g => k (c == 0))
def z8 {ρ : Type} := shut (af5 (ρ := ρ))
theorem amc {ρ : Type} (a : List Int) (b : List Int) (k : Bool → Option ρ) : z8 a b k = af5 a b k := by unfold z8; rw [dz]

def ad5 {ρ : Type} (a : List Int) (k : Int → Int → Bool → Option ρ) : Option ρ := br ((↑a.length : Int) != 48) (k 0 0 false) (br (decide (16 ≤ (↑a.length : Int))) (abf 1 (List.drop 0 (List.take (Int.toNat 16) a)) fun b f => br (decide (16 ≤ (↑a.length : Int))) (br (decide ((↑a.length : Int) ≤ (↑a.length : Int))) (z8 b (List.drop 16 (List.take (↑a.length : Int).toNat a)) fun c => br (!c) (k 0 0 false) (br (decide (8 ≤ (↑a.length : Int))) (qd (List.drop 0 (List.take (Int.toNat 8) a)) fun d => br (decide (16 ≤ (↑a.length : Int))) (qd (List.drop 8 (List.take (Int.toNat 16) a)) fun e => k d e true) none) none)) none) none) none)
def lq {ρ : Type} := shut (ad5 (ρ := ρ))
theorem aif {ρ : Type} (a : List Int) (k : Int → Int → Bool → Option ρ) : lq a k = ad5 a k := by unfold lq; rw [dz]

abbrev bn3 (ρ : Type) := (List Int) → (List Int) → Int → Int → Int → Int → Int → Int → Int → Option ρ
def abd {ρ : Type} (a b : List Int) (e c d f h i g : Int) (nx n : bn3 ρ) : Option ρ := br (decide (e < 2)) (br (decide (e = (↑0 : Int))) (lq a fun j l o => br o (br (g != 0) (nx a b (IntKind.i64.wrap (e + 1)) c d j l e 0) (br (decide (j > f)) (nx a b (IntKind.i64.wrap (e + 1)) c d j l e 0) (nx a b (IntKind.i64.wrap (e + 1)) c d f h i g))) (nx a b (IntKind.i64.wrap (e + 1)) c d f h i g)) (br (decide (e = (↑1 : Int))) (lq b fun k m p => br p (br (g != 0) (nx a b (IntKind.i64.wrap (e + 1)) c d k m e 0) (br (decide (k > f)) (nx a b (IntKind.i64.wrap (e + 1)) c d k m e 0) (nx a b (IntKind.i64.wrap (e + 1)) c d f h i g))) (nx a b (IntKind.i64.wrap (e + 1)) c d f h i g)) none)) (n a b e c d f h i g)
abbrev bip := (List Int) × (List Int) × Int × Int × Int × Int × Int × Int × Int
abbrev bor := bip
def bpm {ρ : Type} (f : bip → Option ρ) : bn3 ρ := fun a b j c d e g h i => f (a, b, j, c, d, e, g, h, i)
def bh2 {ρ : Type} : ag0 bip bor ρ := fun (a, b, i, c, d, e, f, g, h) next ex => abd a b i c d e f g h (bpm next) (bpm ex)
def bnq {ρ : Type} := shut (lp (bh2 (ρ := ρ)))
theorem bqq {ρ : Type} : bnq (ρ := ρ) = lp bh2 := dz _
def bk4 {ρ : Type} (f : ag1 bip bor ρ) (a b : List Int) (j c d e g h i : Int) (k : bn3 ρ) : Option ρ := f (a, b, j, c, d, e, g, h, i) (fun (a, b, j, c, d, e, g, h, i) => k a b j c d e g h i)
def agu {ρ : Type} := bk4 (lp (bh2 (ρ := ρ)))
def agk {ρ : Type} := bk4 (bnq (ρ := ρ))
theorem ai2 {ρ : Type} : agk (ρ := ρ) = agu := congrArg bk4 bqq
def aeh {ρ : Type} (a b : List Int) (k : Int → Int → Int → Int → Option ρ) : Option ρ := agk a b 0 0 0 0 0 0 21 fun g h i j l c d e f => k c d e f
def bg {ρ : Type} := shut (aeh (ρ := ρ))
theorem aic {ρ : Type} (a : List Int) (b : List Int) (k : Int → Int → Int → Int → Option ρ) : bg a b k = aeh a b k := by unfold bg; rw [dz]

def afc {ρ : Type} (a b : List Int) (c d : Int) (k : (List Int) → (List Int) → Int → Int → Int → Int → Bool → Int → Option ρ) : Option ρ := br (decide (c > 1152921504606846976)) (k [] [] 0 0 0 0 false 8) (br (decide (d < 1)) (k [] [] 0 0 0 0 false 8) (br (decide (d > 4294967296)) (k [] [] 0 0 0 0 false 8) (bg a b fun g e j f => br (f != 0) (k [] [] 0 0 0 0 false f) (br (decide (e > c)) (k [] [] 0 0 0 0 false 8) (br (decide (g ≥ 1152921504606846976)) (k [] [] 0 0 0 0 false 8) (fu a fun h => fu b fun i => k h i c d e e true 0))))))
def iq {ρ : Type} := shut (afc (ρ := ρ))
theorem akb {ρ : Type} (a : List Int) (b : List Int) (c : Int) (d : Int) (k : (List Int) → (List Int) → Int → Int → Int → Int → Bool → Int → Option ρ) : iq a b c d k = afc a b c d k := by unfold iq; rw [dz]

def af2 {ρ : Type} (a : List (List Int)) (k : (List Int) → Option ρ) : Option ρ := jd a fun b => k b
def aad {ρ : Type} := shut (af2 (ρ := ρ))
theorem al2 {ρ : Type} (a : List (List Int)) (k : (List Int) → Option ρ) : aad a k = af2 a k := by unfold aad; rw [dz]

def adk {ρ : Type} (a b : Int) (k : (List Int) → Option ρ) : Option ρ := yc a 8 fun e => yc b 8 fun f => aad [e, f] fun c => abf 1 c fun d g => br (decide ((c.length + d.length) * 1 ≤ 140737488355328)) (k (c ++ d)) none
def ku {ρ : Type} := shut (adk (ρ := ρ))
theorem aha {ρ : Type} (a : Int) (b : Int) (k : (List Int) → Option ρ) : ku a b k = adk a b k := by unfold ku; rw [dz]

def aff {ρ : Type} (k : (List Int) → (List Int) → Option ρ) : Option ρ := ku 0 0 fun a => ku 0 0 fun b => k a b
def vv {ρ : Type} := shut (aff (ρ := ρ))
theorem akt {ρ : Type}  (k : (List Int) → (List Int) → Option ρ) : vv  k = aff  k := by unfold vv; rw [dz]

def afx {ρ : Type} (a b : Int) (k : (List Int) → (List Int) → Int → Int → Int → Int → Bool → Int → Option ρ) : Option ρ := vv fun c d => iq c d a b fun e f g h i j l m => k e f g h i j l m
def su {ρ : Type} := shut (afx (ρ := ρ))
theorem ami {ρ : Type} (a : Int) (b : Int) (k : (List Int) → (List Int) → Int → Int → Int → Int → Bool → Int → Option ρ) : su a b k = afx a b k := by unfold su; rw [dz]

def acf {ρ : Type} (a b : List Int) (k : (List Int) → (List Int) → Option ρ) : Option ρ := fu a fun c => fu b fun d => k c d
def lu {ρ : Type} := shut (acf (ρ := ρ))
theorem agr {ρ : Type} (a : List Int) (b : List Int) (k : (List Int) → (List Int) → Option ρ) : lu a b k = acf a b k := by unfold lu; rw [dz]

def aen {ρ : Type} (a b h : List Int) (k : (List Int) → (List Int) → Int → Int → Option ρ) : Option ρ := lu a b fun d e => bg a b fun i j c f => br (f != 0) (k d e 0 f) (fu h fun g => br (decide (IntKind.i64.wrap (1 - c) = (↑0 : Int))) (k g e (IntKind.i64.wrap (1 - c)) 0) (br (decide (IntKind.i64.wrap (1 - c) = (↑1 : Int))) (k d g (IntKind.i64.wrap (1 - c)) 0) none))
def ny {ρ : Type} := shut (aen (ρ := ρ))
theorem aia {ρ : Type} (a : List Int) (b : List Int) (c : List Int) (k : (List Int) → (List Int) → Int → Int → Option ρ) : ny a b c k = aen a b c k := by unfold ny; rw [dz]

def adq {ρ : Type} (c d : List Int) (a b : Int) (k : (List Int) → (List Int) → Int → Int → Option ρ) : Option ρ := ku a b fun e => ny c d e fun f g h i => k f g h i
def cu {ρ : Type} := shut (adq (ρ := ρ))
theorem ag6 {ρ : Type} (c : List Int) (d : List Int) (a : Int) (b : Int) (k : (List Int) → (List Int) → Int → Int → Option ρ) : cu c d a b k = adq c d a b k := by unfold cu; rw [dz]

def aea {ρ : Type} (a b : List Int) (c d f : Int) (i : List Int) (k : (List Int) → (List Int) → Int → Option ρ) : Option ρ := lu a b fun g h => br (f == 1) (cu a b c d fun j l t m => k j l m) (br (f == 2) (ny a b i fun n o u p => k n o p) (bg a b fun q r s e => br (e == 0) (br (f != 0) (k g h 8) (k g h e)) (k g h e)))
def gy {ρ : Type} := shut (aea (ρ := ρ))
theorem aie {ρ : Type} (c : List Int) (d : List Int) (a : Int) (b : Int) (e : Int) (f : List Int) (k : (List Int) → (List Int) → Int → Option ρ) : gy c d a b e f k = aea c d a b e f k := by unfold gy; rw [dz]

def afd {ρ : Type} (e f : List Int) (a c d b : Int) (g : Bool) (k : (List Int) → (List Int) → Int → Int → Int → Int → Bool → Int → Int → Option ρ) : Option ρ := br (!g) (k e f a c d b g 0 21) (br (d == b) (br (!g) (k e f a c d b g 0 21) (br (b == a) (k e f a c d b g 0 13) (bg e f fun l r s j => br (j != 0) (br (j != 0) (br (j != 0) (k e f a c d b g 0 j) (k e f a c (IntKind.u64.wrap (d + 1)) b g (IntKind.u64.wrap (IntKind.u64.wrap (d + 1) - 1)) 0)) (cu e f 0 0 fun m n t i => br (i == 0) (br (i != 0) (k m n a c d 0 g 0 i) (k m n a c (IntKind.u64.wrap (d + 1)) 0 g (IntKind.u64.wrap (IntKind.u64.wrap (d + 1) - 1)) 0)) (br (i != 0) (k e f a c d b g 0 i) (k e f a c (IntKind.u64.wrap (d + 1)) b g (IntKind.u64.wrap (IntKind.u64.wrap (d + 1) - 1)) 0)))) (br (decide (l ≥ 1152921504606846976)) (k e f a c d b g 0 8) (cu e f (IntKind.u64.wrap (l + 1)) (IntKind.u64.wrap (b + bif decide (IntKind.u64.wrap (a - b) < c) then IntKind.u64.wrap (a - b) else c)) fun o p q h => br (h == 0) (br (h != 0) (k o p a c d (IntKind.u64.wrap (b + bif decide (IntKind.u64.wrap (a - b) < c) then IntKind.u64.wrap (a - b) else c)) g 0 h) (k o p a c (IntKind.u64.wrap (d + 1)) (IntKind.u64.wrap (b + bif decide (IntKind.u64.wrap (a - b) < c) then IntKind.u64.wrap (a - b) else c)) g (IntKind.u64.wrap (IntKind.u64.wrap (d + 1) - 1)) 0)) (br (h != 0) (k e f a c d b g 0 h) (k e f a c (IntKind.u64.wrap (d + 1)) b g (IntKind.u64.wrap (IntKind.u64.wrap (d + 1) - 1)) 0))))))) (k e f a c (IntKind.u64.wrap (d + 1)) b g (IntKind.u64.wrap (IntKind.u64.wrap (d + 1) - 1)) 0))
def w9 {ρ : Type} := shut (afd (ρ := ρ))
theorem ajs {ρ : Type} (a : List Int) (b : List Int) (c : Int) (d : Int) (f : Int) (e : Int) (g : Bool) (k : (List Int) → (List Int) → Int → Int → Int → Int → Bool → Int → Int → Option ρ) : w9 a b c d f e g k = afd a b c d f e g k := by unfold w9; rw [dz]

def ahn {ρ : Type} (d e : List Int) (a b f c : Int) (g : Bool) (h j : Int) (l : List Int) (k : (List Int) → (List Int) → Int → Int → Int → Int → Bool → (List Int) → Int → Option ρ) : Option ρ := br (h == 1) (br (!g) (k d e a b f c g [] 21) (br (f == c) (br (!g) (k d e a b f c g [] 21) (br (c == a) (k d e a b f c g [] 13) (bg d e fun C q1 q2 n => br (n != 0) (br (n != 0) (br (n != 0) (br (n != 0) (k d e a b f c g [] n) (k d e a b f c g [0] 0)) (k d e a b (IntKind.u64.wrap (f + 1)) c g [IntKind.u64.wrap (IntKind.u64.wrap (f + 1) - 1)] 0)) (cu d e 0 0 fun y z q6 m => br (m == 0) (br (m != 0) (br (m != 0) (k y z a b f 0 g [] m) (k y z a b f 0 g [0] 0)) (k y z a b (IntKind.u64.wrap (f + 1)) 0 g [IntKind.u64.wrap (IntKind.u64.wrap (f + 1) - 1)] 0)) (br (m != 0) (br (m != 0) (k d e a b f c g [] m) (k d e a b f c g [0] 0)) (k d e a b (IntKind.u64.wrap (f + 1)) c g [IntKind.u64.wrap (IntKind.u64.wrap (f + 1) - 1)] 0)))) (br (decide (C ≥ 1152921504606846976)) (k d e a b f c g [] 8) (cu d e (IntKind.u64.wrap (C + 1)) (IntKind.u64.wrap (c + bif decide (IntKind.u64.wrap (a - c) < b) then IntKind.u64.wrap (a - c) else b)) fun A B ad i => br (i == 0) (br (i != 0) (br (i != 0) (k A B a b f (IntKind.u64.wrap (c + bif decide (IntKind.u64.wrap (a - c) < b) then IntKind.u64.wrap (a - c) else b)) g [] i) (k A B a b f (IntKind.u64.wrap (c + bif decide (IntKind.u64.wrap (a - c) < b) then IntKind.u64.wrap (a - c) else b)) g [0] 0)) (k A B a b (IntKind.u64.wrap (f + 1)) (IntKind.u64.wrap (c + bif decide (IntKind.u64.wrap (a - c) < b) then IntKind.u64.wrap (a - c) else b)) g [IntKind.u64.wrap (IntKind.u64.wrap (f + 1) - 1)] 0)) (br (i != 0) (br (i != 0) (k d e a b f c g [] i) (k d e a b f c g [0] 0)) (k d e a b (IntKind.u64.wrap (f + 1)) c g [IntKind.u64.wrap (IntKind.u64.wrap (f + 1) - 1)] 0))))))) (k d e a b (IntKind.u64.wrap (f + 1)) c g [IntKind.u64.wrap (IntKind.u64.wrap (f + 1) - 1)] 0))) (br (h == 3) (br (!g) (k d e a b f c g [] 21) (br (c == a) (k d e a b f c g [] 13) (bg d e fun v ae af o => br (o != 0) (br (o != 0) (k d e a b f c g [] o) (gy d e 0 0 j l fun F G p => br (p == 0) (k F G a b 0 0 false [] p) (k d e a b f c g [] p))) (br (decide (v ≥ 1152921504606846976)) (k d e a b f c g [] 8) (gy d e (IntKind.u64.wrap (v + 1)) (IntKind.u64.wrap (c + bif decide (IntKind.u64.wrap (a - c) < b) then IntKind.u64.wrap (a - c) else b)) j l fun H I q => br (q == 0) (k H I a b 0 0 false [] q) (k d e a b f c g [] q)))))) (br (h == 4) (k d e a b 0 0 false [] 0) (br (h == 2) (br (!g) (k d e a b f c g [] 21) (br (c == a) (k d e a b f c g [] 13) (bg d e fun w ag ah r => br (r != 0) (br (r != 0) (k d e a b f c g [] r) (cu d e 0 0 fun J M ai s => br (s == 0) (k J M a b f 0 g [] s) (k d e a b f c g [] s))) (br (decide (w ≥ 1152921504606846976)) (k d e a b f c g [] 8) (cu d e (IntKind.u64.wrap (w + 1)) (IntKind.u64.wrap (c + bif decide (IntKind.u64.wrap (a - c) < b) then IntKind.u64.wrap (a - c) else b)) fun N O aj t => br (t == 0) (k N O a b f (IntKind.u64.wrap (c + bif decide (IntKind.u64.wrap (a - c) < b) then IntKind.u64.wrap (a - c) else b)) g [] t) (k d e a b f c g [] t)))))) (br (h == 5) (br g (k d e a b f c g [] 0) (iq d e a b fun Q U W Z aa ab ac u => br (u == 0) (k Q U W Z aa ab ac [] u) (k d e a b f c g [] u))) (k d e a b f c g [] 1)))))
def yh {ρ : Type} := shut (ahn (ρ := ρ))
theorem anu {ρ : Type} (a : List Int) (b : List Int) (c : Int) (d : Int) (f : Int) (e : Int) (j : Bool) (g : Int) (h : Int) (i : List Int) (k : (List Int) → (List Int) → Int → Int → Int → Int → Bool → (List Int) → Int → Option ρ) : yh a b c d f e j g h i k = ahn a b c d f e j g h i k := by unfold yh; rw [dz]

abbrev boi (ρ : Type) := Nat → (List Int) → (List Int) → (List (List Int)) → Int → Int → (List Int) → (List Int) → (List Int) → Int → Int → Int → Int → Bool → Int → Int → Int → Int → Bool → Option ρ
def af6 {ρ : Type} (b : Nat) (c d : List Int) (e : List (List Int)) (f a : Int) (s g h : List Int) (i j k l : Int) (m : Bool) (n o p q : Int) (r : Bool) (nx u : boi ρ) : Option ρ := br (decide (a < f)) (br (decide (0 ≤ a)) (br (decide (a < (↑b : Int))) (yh g h i j k l m (c.getD a.toNat 0) (d.getD a.toNat 0) (e.getD a.toNat []) fun v w y z A B C t F => br (decide ((s.length + t.length) * 8 ≤ 140737488355328)) (nx b c d e f (IntKind.i64.wrap (a + 1)) (s ++ t) v w y z A B C n o p q r) none) none) none) (u b c d e f a s g h i j k l m n o p q r)
abbrev bi4 := Nat × (List Int) × (List Int) × (List (List Int)) × Int × Int × (List Int) × (List Int) × (List Int) × Int × Int × Int × Int × Bool × Int × Int × Int × Int × Bool
abbrev bl5 := bi4
def bpf {ρ : Type} (f : bi4 → Option ρ) : boi ρ := fun a b c d r s t e g h i j k l m n o p q => f (a, b, c, d, r, s, t, e, g, h, i, j, k, l, m, n, o, p, q)
def bjh {ρ : Type} : ag0 bi4 bl5 ρ := fun (a, b, c, d, q, r, s, e, f, g, h, i, j, k, l, m, n, o, p) next ex => af6 a b c d q r s e f g h i j k l m n o p (bpf next) (bpf ex)
def bob {ρ : Type} := shut (lp (bjh (ρ := ρ)))
theorem bpu {ρ : Type} : bob (ρ := ρ) = lp bjh := dz _
def blp {ρ : Type} (f : ag1 bi4 bl5 ρ) (a : Nat) (b c : List Int) (d : List (List Int)) (r s : Int) (t e g : List Int) (h i j k : Int) (l : Bool) (m n o p : Int) (q : Bool) (u : boi ρ) : Option ρ := f (a, b, c, d, r, s, t, e, g, h, i, j, k, l, m, n, o, p, q) (fun (a, b, c, d, r, s, t, e, g, h, i, j, k, l, m, n, o, p, q) => u a b c d r s t e g h i j k l m n o p q)
def aj6 {ρ : Type} := blp (lp (bjh (ρ := ρ)))
def akd {ρ : Type} := blp (bob (ρ := ρ))
theorem amu {ρ : Type} : akd (ρ := ρ) = aj6 := congrArg blp bpu
def ae7 {ρ : Type} (a b : List Int) (c d f e : Int) (g : Bool) (h : Nat) (i j : List Int) (l : List (List Int)) (k : (List Int) → (List Int) → Int → Int → Int → Int → Bool → (List Int) → Option ρ) : Option ρ := akd h i j l (↑h : Int) 0 [] a b c d f e g 0 0 0 0 false fun A B C F G H q r s t m n o p u v w y z => k r s t m n o p q
def vw {ρ : Type} := shut (ae7 (ρ := ρ))
theorem aki {ρ : Type} (a : List Int) (b : List Int) (c : Int) (d : Int) (f : Int) (e : Int) (g : Bool) (h : Nat) (i : List Int) (j : List Int) (l : List (List Int)) (k : (List Int) → (List Int) → Int → Int → Int → Int → Bool → (List Int) → Option ρ) : vw a b c d f e g h i j l k = ae7 a b c d f e g h i j l k := by unfold vw; rw [dz]

def afw {ρ : Type} (k : Bool → Option ρ) : Option ρ := su (5 : Int) (2 : Int) fun h i j l m n o p => vw h i j l m n o 6 [(1 : Int), (1 : Int), (1 : Int), (4 : Int), (5 : Int), (1 : Int)] [(0 : Int), (0 : Int), (0 : Int), (0 : Int), (0 : Int), (0 : Int)] [[], [], [], [], [], []] fun q r b c d e f a => w9 q r b c d e f fun s t u v w y z A g => br (p == (0 : Int)) (br ((↑a.length : Int) == (4 : Int)) (br (decide ((0 : Int) < (↑a.length : Int))) (br (a.getD 0 (0 : Int) == (0 : Int)) (br (decide ((1 : Int) < (↑a.length : Int))) (br (a.getD 1 (0 : Int) == (1 : Int)) (br (decide ((2 : Int) < (↑a.length : Int))) (br (a.getD 2 (0 : Int) == (2 : Int)) (br (decide ((3 : Int) < (↑a.length : Int))) (br (a.getD 3 (0 : Int) == (4 : Int)) (k (g == (13 : Int))) (k false)) none) (k false)) none) (k false)) none) (k false)) none) (k false)) (k false)
def qj {ρ : Type} := shut (afw (ρ := ρ))
theorem al4 {ρ : Type}  (k : Bool → Option ρ) : qj  k = afw  k := by unfold qj; rw [dz]

abbrev bpg (ρ : Type) := (List (List Int)) → Int → (List Int) → Option ρ
def ajd {ρ : Type} (b : List (List Int)) (a : Int) (c : List Int) (nx d : bpg ρ) : Option ρ := br (decide (a < (↑b.length : Int))) (br (decide (0 ≤ a)) (br (decide (a < (↑b.length : Int))) (br (decide ((c.length + (b.getD a.toNat []).length) * 1 ≤ 140737488355328)) (nx b (IntKind.i64.wrap (a + 1)) (c ++ b.getD a.toNat [])) none) none) none) (d b a c)
abbrev bhr := (List (List Int)) × Int × (List Int)
abbrev bmk := bhr
def bok {ρ : Type} (f : bhr → Option ρ) : bpg ρ := fun a b c => f (a, b, c)
def bi6 {ρ : Type} : ag0 bhr bmk ρ := fun (a, b, c) next ex => ajd a b c (bok next) (bok ex)
def bms {ρ : Type} := shut (lp (bi6 (ρ := ρ)))
theorem bp7 {ρ : Type} : bms (ρ := ρ) = lp bi6 := dz _
def bk0 {ρ : Type} (f : ag1 bhr bmk ρ) (a : List (List Int)) (b : Int) (c : List Int) (d : bpg ρ) : Option ρ := f (a, b, c) (fun (a, b, c) => d a b c)
def aog {ρ : Type} := bk0 (lp (bi6 (ρ := ρ)))
def aoe {ρ : Type} := bk0 (bms (ρ := ρ))
theorem apu {ρ : Type} : aoe (ρ := ρ) = aog := congrArg bk0 bp7
def ahs {ρ : Type} (a : List (List Int)) (k : (List Int) → Option ρ) : Option ρ := aoe a 0 [] fun c d b => k b
def yt {ρ : Type} := shut (ahs (ρ := ρ))
theorem ana {ρ : Type} (a : List (List Int)) (k : (List Int) → Option ρ) : yt a k = ahs a k := by unfold yt; rw [dz]

abbrev blx (ρ : Type) := Int → Int → (List Int) → Option ρ
def anp {ρ : Type} (b a : Int) (c : List Int) (nx d : blx ρ) : Option ρ := br (decide (a ≥ 0)) (br (decide (0 ≤ a)) (br (decide (a < (↑c.length : Int))) (nx (b.fdiv (2 ^ 8)) (IntKind.i64.wrap (a - 1)) (c.set a.toNat (IntKind.u8.wrap (bits BinOp.and IntKind.u64 b 255)))) none) none) (d b a c)
abbrev bjj := Int × Int × (List Int)
abbrev bnv := bjj
def bpn {ρ : Type} (f : bjj → Option ρ) : blx ρ := fun a b c => f (a, b, c)
def bj6 {ρ : Type} : ag0 bjj bnv ρ := fun (a, b, c) next ex => anp a b c (bpn next) (bpn ex)
def bom {ρ : Type} := shut (lp (bj6 (ρ := ρ)))
theorem bqj {ρ : Type} : bom (ρ := ρ) = lp bj6 := dz _
def bld {ρ : Type} (f : ag1 bjj bnv ρ) (a b : Int) (c : List Int) (d : blx ρ) : Option ρ := f (a, b, c) (fun (a, b, c) => d a b c)
def avc {ρ : Type} := bld (lp (bj6 (ρ := ρ)))
def atf {ρ : Type} := bld (bom (ρ := ρ))
theorem aut {ρ : Type} : atf (ρ := ρ) = avc := congrArg bld bqj
def alu {ρ : Type} (b a : Int) (k : (List Int) → Option ρ) : Option ρ := br (decide (a < 0)) (k []) (br (decide (a > 65536)) (k []) (br (decide (0 ≤ a)) (br (decide (a ≤ a)) (br (decide (a * (↑1 : Int) ≤ (↑140737488355328 : Int))) (atf b (IntKind.i64.wrap (a - 1)) (List.replicate a.toNat (0 : Int)) fun d e c => k c) none) none) none))
def aaw {ρ : Type} := shut (alu (ρ := ρ))
theorem au5 {ρ : Type} (a : Int) (b : Int) (k : (List Int) → Option ρ) : aaw a b k = alu a b k := by unfold aaw; rw [dz]

def ais {ρ : Type} (a : Int) (k : Int → (List Int) → (List Int) → Int → Int → Option ρ) : Option ρ := br (a == 1) (k a [1779033703, 3144134277, 1013904242, 2773480762, 1359893119, 2600822924, 528734635, 1541459225] [] 0 0) (br (a == 2) (k a [14680500436340154072, 7105036623409894663, 10473403895298186519, 1526699215303891257, 7436329637833083697, 10282925794625328401, 15784041429090275239, 5167115440072839076] [] 0 0) (br (a == 3) (k a [7640891576956012808, 13503953896175478587, 4354685564936845355, 11912009170470909681, 5840696475078001361, 11170449401992604703, 2270897969802886507, 6620516959819538809] [] 0 0) (k 0 [0, 0, 0, 0, 0, 0, 0, 0] [] 0 9)))
def aee {ρ : Type} := shut (ais (ρ := ρ))
theorem aqu {ρ : Type} (a : Int) (k : Int → (List Int) → (List Int) → Int → Int → Option ρ) : aee a k = ais a k := by unfold aee; rw [dz]

def agd {ρ : Type} (a : Int) (k : Int → Option ρ) : Option ρ := br (a == 1) (k 64) (k 128)
def qz {ρ : Type} := shut (agd (ρ := ρ))
theorem al6 {ρ : Type} (a : Int) (k : Int → Option ρ) : qz a k = agd a k := by unfold qz; rw [dz]

def agi {ρ : Type} (k : (List Int) → Option ρ) : Option ρ := k [1116352408, 1899447441, 3049323471, 3921009573, 961987163, 1508970993, 2453635748, 2870763221, 3624381080, 310598401, 607225278, 1426881987, 1925078388, 2162078206, 2614888103, 3248222580, 3835390401, 4022224774, 264347078, 604807628, 770255983, 1249150122, 1555081692, 1996064986, 2554220882, 2821834349, 2952996808, 3210313671, 3336571891, 3584528711, 113926993, 338241895, 666307205, 773529912, 1294757372, 1396182291, 1695183700, 1986661051, 2177026350, 2456956037, 2730485921, 2820302411, 3259730800, 3345764771, 3516065817, 3600352804, 4094571909, 275423344, 430227734, 506948616, 659060556, 883997877, 958139571, 1322822218, 1537002063, 1747873779, 1955562222, 2024104815, 2227730452, 2361852424, 2428436474, 2756734187, 3204031479, 3329325298]
def qx {ρ : Type} := shut (agi (ρ := ρ))
theorem ad3 {ρ : Type}  (k : (List Int) → Option ρ) : qx  k = agi  k := by unfold qx; rw [dz]

def agm {ρ : Type} (k : (List Int) → Option ρ) : Option ρ := k [4794697086780616226, 8158064640168781261, 13096744586834688815, 16840607885511220156, 4131703408338449720, 6480981068601479193, 10538285296894168987, 12329834152419229976, 15566598209576043074, 1334009975649890238, 2608012711638119052, 6128411473006802146, 8268148722764581231, 9286055187155687089, 11230858885718282805, 13951009754708518548, 16472876342353939154, 17275323862435702243, 1135362057144423861, 2597628984639134821, 3308224258029322869, 5365058923640841347, 6679025012923562964, 8573033837759648693, 10970295158949994411, 12119686244451234320, 12683024718118986047, 13788192230050041572, 14330467153632333762, 15395433587784984357, 489312712824947311, 1452737877330783856, 2861767655752347644, 3322285676063803686, 5560940570517711597, 5996557281743188959, 7280758554555802590, 8532644243296465576, 9350256976987008742, 10552545826968843579, 11727347734174303076, 12113106623233404929, 14000437183269869457, 14369950271660146224, 15101387698204529176, 15463397548674623760, 17586052441742319658, 1182934255886127544, 1847814050463011016, 2177327727835720531, 2830643537854262169, 3796741975233480872, 4115178125766777443, 5681478168544905931, 6601373596472566643, 7507060721942968483, 8399075790359081724, 8693463985226723168, 9568029438360202098, 10144078919501101548, 10430055236837252648, 11840083180663258601, 13761210420658862357, 14299343276471374635, 14566680578165727644, 15097957966210449927, 16922976911328602910, 17689382322260857208, 500013540394364858, 748580250866718886, 1242879168328830382, 1977374033974150939, 2944078676154940804, 3659926193048069267, 4368137639120453308, 4836135668995329356, 5532061633213252278, 6448918945643986474, 6902733635092675308, 7801388544844847127]
def qy {ρ : Type} := shut (agm (ρ := ρ))
theorem ad6 {ρ : Type}  (k : (List Int) → Option ρ) : qy  k = agm  k := by unfold qy; rw [dz]

abbrev bn2 (ρ : Type) := (List Int) → Int → Int → Option ρ
def alo {ρ : Type} (b : List Int) (c a : Int) (nx d : bn2 ρ) : Option ρ := br (decide (a < (↑b.length : Int))) (br (decide (0 ≤ a)) (br (decide (a < (↑b.length : Int))) (nx b (IntKind.u64.wrap (IntKind.u64.wrap (c * 256) + IntKind.u64.wrap (b.getD a.toNat 0))) (IntKind.i64.wrap (a + 1))) none) none) (d b c a)
abbrev bj5 := (List Int) × Int × Int
abbrev bpb := bj5
def bl3 {ρ : Type} (f : bj5 → Option ρ) : bn2 ρ := fun a b c => f (a, b, c)
def bi1 {ρ : Type} : ag0 bj5 bpb ρ := fun (a, b, c) next ex => alo a b c (bl3 next) (bl3 ex)
def bo7 {ρ : Type} := shut (lp (bi1 (ρ := ρ)))
theorem bqn {ρ : Type} : bo7 (ρ := ρ) = lp bi1 := dz _
def bk6 {ρ : Type} (f : ag1 bj5 bpb ρ) (a : List Int) (b c : Int) (d : bn2 ρ) : Option ρ := f (a, b, c) (fun (a, b, c) => d a b c)
def aqc {ρ : Type} := bk6 (lp (bi1 (ρ := ρ)))
def ap0 {ρ : Type} := bk6 (bo7 (ρ := ρ))
theorem asf {ρ : Type} : ap0 (ρ := ρ) = aqc := congrArg bk6 bqn
def ail {ρ : Type} (a : List Int) (k : Int → Option ρ) : Option ρ := ap0 a 0 0 fun c b d => k b
def ze {ρ : Type} := shut (ail (ρ := ρ))
theorem aqj {ρ : Type} (a : List Int) (k : Int → Option ρ) : ze a k = ail a k := by unfold ze; rw [dz]

def abz {ρ : Type} (b a : Int) (c : Bool) (k : Int → Option ρ) : Option ρ := br c (br (decide (a < 0)) none (br (decide (IntKind.i64.wrap (64 - a) < 0)) none (k (bits BinOp.or IntKind.u64 (b.fdiv (2 ^ min a.toNat 64)) (IntKind.u64.wrap (b * 2 ^ min (IntKind.i64.wrap (64 - a)).toNat 64)))))) (br (decide (a < 0)) none (br (decide (IntKind.i64.wrap (32 - a) < 0)) none (k (bits BinOp.or IntKind.u64 (b.fdiv (2 ^ min a.toNat 64)) (bits BinOp.and IntKind.u64 (IntKind.u64.wrap (b * 2 ^ min (IntKind.i64.wrap (32 - a)).toNat 64)) 4294967295)))))
def um {ρ : Type} := shut (abz (ρ := ρ))
theorem ae1 {ρ : Type} (a : Int) (b : Int) (c : Bool) (k : Int → Option ρ) : um a b c k = abz a b c k := by unfold um; rw [dz]

def aap {ρ : Type} (a d e c : Int) (f b : Bool) (k : Int → Option ρ) : Option ρ := br (decide (c < 0)) none (br (!f) (um a c b fun g => um a d b fun h => um a e b fun i => k (bits BinOp.xor IntKind.u64 (bits BinOp.xor IntKind.u64 h i) g)) (um a d b fun j => um a e b fun l => k (bits BinOp.xor IntKind.u64 (bits BinOp.xor IntKind.u64 j l) (a.fdiv (2 ^ min c.toNat 64)))))
def ug {ρ : Type} := shut (aap (ρ := ρ))
theorem aci {ρ : Type} (a : Int) (b : Int) (c : Int) (d : Int) (e : Bool) (f : Bool) (k : Int → Option ρ) : ug a b c d e f k = aap a b c d e f k := by unfold ug; rw [dz]

abbrev bph (ρ : Type) := (List Int) → Bool → Int → Int → Int → Int → (List Int) → Option ρ
def adb {ρ : Type} (d : List Int) (f : Bool) (g e c a : Int) (b : List Int) (nx h : bph ρ) : Option ρ := br (decide (a < g)) (br (decide (a < 16)) (br (decide (0 ≤ IntKind.i64.wrap (a * c))) (br (decide (IntKind.i64.wrap (a * c) ≤ IntKind.i64.wrap (IntKind.i64.wrap (a * c) + c))) (br (decide (IntKind.i64.wrap (IntKind.i64.wrap (a * c) + c) ≤ (↑d.length : Int))) (ze (List.drop (IntKind.i64.wrap (a * c)).toNat (List.take (IntKind.i64.wrap (IntKind.i64.wrap (a * c) + c)).toNat d)) fun i => br (decide ((b.length + 1) * 8 ≤ 140737488355328)) (nx d f g e c (IntKind.i64.wrap (a + 1)) (b ++ [i])) none) none) none) none) (br (decide (0 ≤ IntKind.i64.wrap (a - 15))) (br (decide (IntKind.i64.wrap (a - 15) < (↑b.length : Int))) (ug (b.getD (IntKind.i64.wrap (a - 15)).toNat 0) 7 18 3 true false fun j => br (decide (0 ≤ IntKind.i64.wrap (a - 2))) (br (decide (IntKind.i64.wrap (a - 2) < (↑b.length : Int))) (ug (b.getD (IntKind.i64.wrap (a - 2)).toNat 0) 17 19 10 true false fun k => br f (br (decide (0 ≤ IntKind.i64.wrap (a - 15))) (br (decide (IntKind.i64.wrap (a - 15) < (↑b.length : Int))) (ug (b.getD (IntKind.i64.wrap (a - 15)).toNat 0) 1 8 7 true true fun l => br (decide (0 ≤ IntKind.i64.wrap (a - 2))) (br (decide (IntKind.i64.wrap (a - 2) < (↑b.length : Int))) (ug (b.getD (IntKind.i64.wrap (a - 2)).toNat 0) 19 61 6 true true fun m => br (decide (0 ≤ IntKind.i64.wrap (a - 7))) (br (decide (IntKind.i64.wrap (a - 7) < (↑b.length : Int))) (br (decide (0 ≤ IntKind.i64.wrap (a - 16))) (br (decide (IntKind.i64.wrap (a - 16) < (↑b.length : Int))) (br (decide ((b.length + 1) * 8 ≤ 140737488355328)) (nx d f g e c (IntKind.i64.wrap (a + 1)) (b ++ [bits BinOp.and IntKind.u64 (IntKind.u64.wrap (IntKind.u64.wrap (IntKind.u64.wrap (m + b.getD (IntKind.i64.wrap (a - 7)).toNat 0) + l) + b.getD (IntKind.i64.wrap (a - 16)).toNat 0)) e])) none) none) none) none) none) none) none) none) none) (br (decide (0 ≤ IntKind.i64.wrap (a - 7))) (br (decide (IntKind.i64.wrap (a - 7) < (↑b.length : Int))) (br (decide (0 ≤ IntKind.i64.wrap (a - 16))) (br (decide (IntKind.i64.wrap (a - 16) < (↑b.length : Int))) (br (decide ((b.length + 1) * 8 ≤ 140737488355328)) (nx d f g e c (IntKind.i64.wrap (a + 1)) (b ++ [bits BinOp.and IntKind.u64 (IntKind.u64.wrap (IntKind.u64.wrap (IntKind.u64.wrap (k + b.getD (IntKind.i64.wrap (a - 7)).toNat 0) + j) + b.getD (IntKind.i64.wrap (a - 16)).toNat 0)) e])) none) none) none) none) none)) none) none) none) none)) (h d f g e c a b)
abbrev bhx := (List Int) × Bool × Int × Int × Int × Int × (List Int)
abbrev bmw := bhx
def bln {ρ : Type} (f : bhx → Option ρ) : bph ρ := fun b c d e g a h => f (b, c, d, e, g, a, h)
def bhk {ρ : Type} : ag0 bhx bmw ρ := fun (b, c, d, e, f, a, g) next ex => adb b c d e f a g (bln next) (bln ex)
def bl4 {ρ : Type} := shut (lp (bhk (ρ := ρ)))
theorem bp2 {ρ : Type} : bl4 (ρ := ρ) = lp bhk := dz _
def bjf {ρ : Type} (f : ag1 bhx bmw ρ) (b : List Int) (c : Bool) (d e g a : Int) (h : List Int) (i : bph ρ) : Option ρ := f (b, c, d, e, g, a, h) (fun (b, c, d, e, g, a, h) => i b c d e g a h)
def ahb {ρ : Type} := bjf (lp (bhk (ρ := ρ)))
def ahr {ρ : Type} := bjf (bl4 (ρ := ρ))
theorem aho {ρ : Type} : ahr (ρ := ρ) = ahb := congrArg bjf bp2
def adu {ρ : Type} (b : List Int) (a : Bool) (c d : Int) (k : (List Int) → Option ρ) : Option ρ := br a (ahr b a c d 8 0 [] fun j l m n o p f => k f) (ahr b a c d 4 0 [] fun q r s g h i e => k e)
def aac {ρ : Type} := shut (adu (ρ := ρ))
theorem aht {ρ : Type} (a : List Int) (b : Bool) (c : Int) (d : Int) (k : (List Int) → Option ρ) : aac a b c d k = adu a b c d k := by unfold aac; rw [dz]

abbrev bmo (ρ : Type) := Bool → Int → Int → Int → (List Int) → (List Int) → (List Int) → (List Int) → (List Int) → (List Int) → Option ρ
def aby {ρ : Type} (i : Bool) (j c b : Int) (g h d e f a : List Int) (nx m : bmo ρ) : Option ρ := br (decide (b < j)) (ug (a.getD 0 0) 2 13 22 false false fun n => ug (a.getD 4 0) 6 11 25 false false fun k => br i (ug (a.getD 0 0) 28 34 39 false true fun o => ug (a.getD 4 0) 14 18 41 false true fun l => br (decide (0 ≤ b)) (br (decide (b < (↑80 : Int))) (br (decide (0 ≤ b)) (br (decide (b < (↑f.length : Int))) (nx i j c (IntKind.i64.wrap (b + 1)) g h d e f [bits BinOp.and IntKind.u64 (IntKind.u64.wrap (IntKind.u64.wrap (IntKind.u64.wrap (IntKind.u64.wrap (IntKind.u64.wrap (a.getD 7 0 + l) + bits BinOp.xor IntKind.u64 (bits BinOp.and IntKind.u64 (a.getD 4 0) (a.getD 5 0)) (bits BinOp.and IntKind.u64 (bits BinOp.xor IntKind.u64 c (a.getD 4 0)) (a.getD 6 0))) + e.getD b.toNat 0) + f.getD b.toNat 0) + IntKind.u64.wrap (o + bits BinOp.xor IntKind.u64 (bits BinOp.xor IntKind.u64 (bits BinOp.and IntKind.u64 (a.getD 0 0) (a.getD 1 0)) (bits BinOp.and IntKind.u64 (a.getD 0 0) (a.getD 2 0))) (bits BinOp.and IntKind.u64 (a.getD 1 0) (a.getD 2 0))))) c, a.getD 0 0, a.getD 1 0, a.getD 2 0, bits BinOp.and IntKind.u64 (IntKind.u64.wrap (a.getD 3 0 + IntKind.u64.wrap (IntKind.u64.wrap (IntKind.u64.wrap (IntKind.u64.wrap (a.getD 7 0 + l) + bits BinOp.xor IntKind.u64 (bits BinOp.and IntKind.u64 (a.getD 4 0) (a.getD 5 0)) (bits BinOp.and IntKind.u64 (bits BinOp.xor IntKind.u64 c (a.getD 4 0)) (a.getD 6 0))) + e.getD b.toNat 0) + f.getD b.toNat 0))) c, a.getD 4 0, a.getD 5 0, a.getD 6 0]) none) none) none) none) (br (decide (0 ≤ b)) (br (decide (b < (↑64 : Int))) (br (decide (0 ≤ b)) (br (decide (b < (↑f.length : Int))) (nx i j c (IntKind.i64.wrap (b + 1)) g h d e f [bits BinOp.and IntKind.u64 (IntKind.u64.wrap (IntKind.u64.wrap (IntKind.u64.wrap (IntKind.u64.wrap (IntKind.u64.wrap (a.getD 7 0 + k) + bits BinOp.xor IntKind.u64 (bits BinOp.and IntKind.u64 (a.getD 4 0) (a.getD 5 0)) (bits BinOp.and IntKind.u64 (bits BinOp.xor IntKind.u64 c (a.getD 4 0)) (a.getD 6 0))) + d.getD b.toNat 0) + f.getD b.toNat 0) + IntKind.u64.wrap (n + bits BinOp.xor IntKind.u64 (bits BinOp.xor IntKind.u64 (bits BinOp.and IntKind.u64 (a.getD 0 0) (a.getD 1 0)) (bits BinOp.and IntKind.u64 (a.getD 0 0) (a.getD 2 0))) (bits BinOp.and IntKind.u64 (a.getD 1 0) (a.getD 2 0))))) c, a.getD 0 0, a.getD 1 0, a.getD 2 0, bits BinOp.and IntKind.u64 (IntKind.u64.wrap (a.getD 3 0 + IntKind.u64.wrap (IntKind.u64.wrap (IntKind.u64.wrap (IntKind.u64.wrap (a.getD 7 0 + k) + bits BinOp.xor IntKind.u64 (bits BinOp.and IntKind.u64 (a.getD 4 0) (a.getD 5 0)) (bits BinOp.and IntKind.u64 (bits BinOp.xor IntKind.u64 c (a.getD 4 0)) (a.getD 6 0))) + d.getD b.toNat 0) + f.getD b.toNat 0))) c, a.getD 4 0, a.getD 5 0, a.getD 6 0]) none) none) none) none)) (m i j c b g h d e f a)
abbrev bko := Bool × Int × Int × Int × (List Int) × (List Int) × (List Int) × (List Int) × (List Int) × (List Int)
abbrev bo2 := bko
def bks {ρ : Type} (f : bko → Option ρ) : bmo ρ := fun h i j g a b c d k e => f (h, i, j, g, a, b, c, d, k, e)
def bhp {ρ : Type} : ag0 bko bo2 ρ := fun (g, h, i, f, a, b, c, d, j, e) next ex => aby g h i f a b c d j e (bks next) (bks ex)
def bnm {ρ : Type} := shut (lp (bhp (ρ := ρ)))
theorem bp3 {ρ : Type} : bnm (ρ := ρ) = lp bhp := dz _
def biy {ρ : Type} (f : ag1 bko bo2 ρ) (h : Bool) (i j g : Int) (a b c d k e : List Int) (l : bmo ρ) : Option ρ := f (h, i, j, g, a, b, c, d, k, e) (fun (h, i, j, g, a, b, c, d, k, e) => l h i j g a b c d k e)
def af9 {ρ : Type} := biy (lp (bhp (ρ := ρ)))
def abq {ρ : Type} := biy (bnm (ρ := ρ))
theorem ags {ρ : Type} : abq (ρ := ρ) = af9 := congrArg biy bp3
abbrev bpr (ρ : Type) := Int → Int → (List Int) → (List Int) → (List Int) → Option ρ
def abu {ρ : Type} (e a : Int) (b d c : List Int) (nx f : bpr ρ) : Option ρ := br (decide (a < 8)) (br (decide (0 ≤ a)) (br (decide (a < (↑8 : Int))) (br (decide (0 ≤ a)) (br (decide (a < (↑8 : Int))) (br (decide (0 ≤ a)) (br (decide (a < (↑8 : Int))) (nx e (IntKind.i64.wrap (a + 1)) b d (c.set a.toNat (bits BinOp.and IntKind.u64 (IntKind.u64.wrap (c.getD a.toNat 0 + b.getD a.toNat 0)) e))) none) none) none) none) none) none) (f e a b d c)
abbrev bjl := Int × Int × (List Int) × (List Int) × (List Int)
abbrev bpo := bjl
def blq {ρ : Type} (f : bjl → Option ρ) : bpr ρ := fun e d a b c => f (e, d, a, b, c)
def bhi {ρ : Type} : ag0 bjl bpo ρ := fun (e, d, a, b, c) next ex => abu e d a b c (blq next) (blq ex)
def bos {ρ : Type} := shut (lp (bhi (ρ := ρ)))
theorem bqs {ρ : Type} : bos (ρ := ρ) = lp bhi := dz _
def bjk {ρ : Type} (f : ag1 bjl bpo ρ) (e d : Int) (a b c : List Int) (g : bpr ρ) : Option ρ := f (e, d, a, b, c) (fun (e, d, a, b, c) => g e d a b c)
def agc {ρ : Type} := bjk (lp (bhi (ρ := ρ)))
def ab0 {ρ : Type} := bjk (bos (ρ := ρ))
theorem agv {ρ : Type} : ab0 (ρ := ρ) = agc := congrArg bjk bqs
def adv {ρ : Type} (b c : List Int) (a : Bool) (k : (List Int) → Option ρ) : Option ρ := qx fun d => qy fun e => br a (aac c a 80 18446744073709551615 fun o => abq a 80 18446744073709551615 0 b [0, 0, 0, 0, 0, 0, 0, 0] d e o b fun N O p Q q r U s t f => ab0 p 0 q r f fun u v w y g => k g) (aac c a 64 4294967295 fun h => abq a 64 4294967295 0 b [0, 0, 0, 0, 0, 0, 0, 0] d e h b fun z A i B j l C F G m => ab0 i 0 j l m fun H I J M n => k n)
def abb {ρ : Type} := shut (adv (ρ := ρ))
theorem ahh {ρ : Type} (a : List Int) (b : List Int) (c : Bool) (k : (List Int) → Option ρ) : abb a b c k = adv a b c k := by unfold abb; rw [dz]

abbrev bmr (ρ : Type) := Int → (List Int) → Int → (List Int) → (List Int) → Int → Int → (List Int) → Int → Option ρ
def afs {ρ : Type} (a : Int) (b : List Int) (c : Int) (d e : List Int) (f g : Int) (h : List Int) (i : Int) (nx j : bmr ρ) : Option ρ := br (decide ((↑b.length : Int) ≥ a)) (br (decide (0 ≤ a)) (br (decide (a ≤ (↑b.length : Int))) (abb d (List.drop 0 (List.take a.toNat b)) (a == 128) fun k => br (decide (0 ≤ a)) (br (decide (a ≤ (↑b.length : Int))) (br (decide ((↑b.length : Int) ≤ (↑b.length : Int))) (nx a (List.drop a.toNat (List.take (↑b.length : Int).toNat b)) c k e f g h i) none) none) none) none) none) (j a b c d e f g h i)
abbrev bhs := Int × (List Int) × Int × (List Int) × (List Int) × Int × Int × (List Int) × Int
abbrev bml := bhs
def bkr {ρ : Type} (f : bhs → Option ρ) : bmr ρ := fun i j a b c d e g h => f (i, j, a, b, c, d, e, g, h)
def bhj {ρ : Type} : ag0 bhs bml ρ := fun (h, i, a, b, c, d, e, f, g) next ex => afs h i a b c d e f g (bkr next) (bkr ex)
def bnz {ρ : Type} := shut (lp (bhj (ρ := ρ)))
theorem bqe {ρ : Type} : bnz (ρ := ρ) = lp bhj := dz _
def bi2 {ρ : Type} (f : ag1 bhs bml ρ) (i : Int) (j : List Int) (a : Int) (b c : List Int) (d e : Int) (g : List Int) (h : Int) (k : bmr ρ) : Option ρ := f (i, j, a, b, c, d, e, g, h) (fun (i, j, a, b, c, d, e, g, h) => k i j a b c d e g h)
def aln {ρ : Type} := bi2 (lp (bhj (ρ := ρ)))
def ah4 {ρ : Type} := bi2 (bnz (ρ := ρ))
theorem aj0 {ρ : Type} : ah4 (ρ := ρ) = aln := congrArg bi2 bqe
def ai7 {ρ : Type} (a : Int) (c b : List Int) (d : Int) (e : List Int) (k : Int → (List Int) → (List Int) → Int → Option ρ) : Option ρ := qz a fun f => yt [b, e] fun g => ah4 f g a c b (IntKind.u64.wrap (d + IntKind.u64.wrap (↑e.length : Int))) 0 [0, 0, 0, 0, 0, 0, 0, 0] 0 fun n h i j o l p q m => k i j h l
def aal {ρ : Type} := shut (ai7 (ρ := ρ))
theorem aqn {ρ : Type} (b : Int) (a : List Int) (c : List Int) (d : Int) (e : List Int) (k : Int → (List Int) → (List Int) → Int → Option ρ) : aal b a c d e k = ai7 b a c d e k := by unfold aal; rw [dz]

abbrev bgb (ρ : Type) := Int → Int → (List Int) → Int → (List Int) → (List Int) → Int → Option ρ
def ak2 {ρ : Type} (c g : Int) (b : List Int) (d : Int) (e a : List Int) (f : Int) (nx h : bgb ρ) : Option ρ := br (decide (c = 0)) none (br ((IntKind.i64.wrap ((↑a.length : Int) + (↑b.length : Int))).tmod c != IntKind.i64.wrap (c - 8)) (br (decide ((b.length + 1) * 1 ≤ 140737488355328)) (nx c g (b ++ [0]) d e a f) none) (h c g b d e a f))
abbrev bkc := Int × Int × (List Int) × Int × (List Int) × (List Int) × Int
abbrev bnx := bkc
def bmd {ρ : Type} (f : bkc → Option ρ) : bgb ρ := fun g h e a b c d => f (g, h, e, a, b, c, d)
def bi0 {ρ : Type} : ag0 bkc bnx ρ := fun (f, g, e, a, b, c, d) next ex => ak2 f g e a b c d (bmd next) (bmd ex)
def bnc {ρ : Type} := shut (lp (bi0 (ρ := ρ)))
theorem bpv {ρ : Type} : bnc (ρ := ρ) = lp bi0 := dz _
def bkq {ρ : Type} (f : ag1 bkc bnx ρ) (g h : Int) (e : List Int) (a : Int) (b c : List Int) (d : Int) (i : bgb ρ) : Option ρ := f (g, h, e, a, b, c, d) (fun (g, h, e, a, b, c, d) => i g h e a b c d)
def aqz {ρ : Type} := bkq (lp (bi0 (ρ := ρ)))
def ak7 {ρ : Type} := bkq (bnc (ρ := ρ))
theorem arn {ρ : Type} : ak7 (ρ := ρ) = aqz := congrArg bkq bpv
abbrev zc31 (ρ : Type) := Int → Int → (List Int) → Int → (List Int) → (List Int) → Int → Option ρ
def als {ρ : Type} (c g : Int) (b : List Int) (d : Int) (e a : List Int) (f : Int) (nx h : bgb ρ) : Option ρ := br (decide (c = 0)) none (br ((IntKind.i64.wrap ((↑a.length : Int) + (↑b.length : Int))).tmod c != IntKind.i64.wrap (c - 16)) (br (decide ((b.length + 1) * 1 ≤ 140737488355328)) (nx c g (b ++ [0]) d e a f) none) (h c g b d e a f))
abbrev bhq := Int × Int × (List Int) × Int × (List Int) × (List Int) × Int
abbrev bl9 := bhq
def bnu {ρ : Type} (f : bhq → Option ρ) : zc31 ρ := fun g h e a b c d => f (g, h, e, a, b, c, d)
def bkj {ρ : Type} : ag0 bhq bl9 ρ := fun (f, g, e, a, b, c, d) next ex => als f g e a b c d (bnu next) (bnu ex)
def bnh {ρ : Type} := shut (lp (bkj (ρ := ρ)))
theorem bqt {ρ : Type} : bnh (ρ := ρ) = lp bkj := dz _
def bk9 {ρ : Type} (f : ag1 bhq bl9 ρ) (g h : Int) (e : List Int) (a : Int) (b c : List Int) (d : Int) (i : bgb ρ) : Option ρ := f (g, h, e, a, b, c, d) (fun (g, h, e, a, b, c, d) => i g h e a b c d)
def aqx {ρ : Type} := bk9 (lp (bkj (ρ := ρ)))
def ala {ρ : Type} := bk9 (bnh (ρ := ρ))
theorem asj {ρ : Type} : ala (ρ := ρ) = aqx := congrArg bk9 bqt
abbrev zc32 (ρ : Type) := Int → Int → (List Int) → Int → (List Int) → (List Int) → Int → Option ρ
def ajf {ρ : Type} (g c : Int) (a : List Int) (d : Int) (b e : List Int) (f : Int) (nx i : bgb ρ) : Option ρ := br (decide (c < 8)) (br (decide (0 ≤ c)) (br (decide (c < (↑8 : Int))) (aaw (b.getD c.toNat 0) (IntKind.i64.wrap (g.tdiv 16)) fun h => br (decide ((a.length + h.length) * 1 ≤ 140737488355328)) (nx g (IntKind.i64.wrap (c + 1)) (a ++ h) d b e f) none) none) none) (i g c a d b e f)
abbrev bi8 := Int × Int × (List Int) × Int × (List Int) × (List Int) × Int
abbrev bmt := bi8
def bni {ρ : Type} (f : bi8 → Option ρ) : zc32 ρ := fun g h a b c d e => f (g, h, a, b, c, d, e)
def bkg {ρ : Type} : ag0 bi8 bmt ρ := fun (f, g, a, b, c, d, e) next ex => ajf f g a b c d e (bni next) (bni ex)
def bn5 {ρ : Type} := shut (lp (bkg (ρ := ρ)))
theorem bpw {ρ : Type} : bn5 (ρ := ρ) = lp bkg := dz _
def bli {ρ : Type} (f : ag1 bi8 bmt ρ) (g h : Int) (a : List Int) (b : Int) (c d : List Int) (e : Int) (i : bgb ρ) : Option ρ := f (g, h, a, b, c, d, e) (fun (g, h, a, b, c, d, e) => i g h a b c d e)
def anm {ρ : Type} := bli (lp (bkg (ρ := ρ)))
def afv {ρ : Type} := bli (bn5 (ρ := ρ))
theorem apo {ρ : Type} : afv (ρ := ρ) = anm := congrArg bli bpw
def aiy {ρ : Type} (a : Int) (c d : List Int) (b : Int) (k : (List Int) → Option ρ) : Option ρ := qz a fun J => ak7 J (IntKind.u64.wrap (b * 8)) [128] a c d b fun m n o p q r s => br (m == 128) (ala m n [128] p q r s fun M N e t u v i => aaw (i.fdiv (2 ^ 61)) 8 fun f => br (decide ((e.length + f.length) * 1 ≤ 140737488355328)) (aaw N 8 fun j => br (decide (((e ++ f).length + j.length) * 1 ≤ 140737488355328)) (aal t u v i (e ++ f ++ j) fun w y z A => afv M 0 [] w y z A fun O Q g B U W Z => br (B == 2) (br (decide (48 ≤ (↑g.length : Int))) (k (List.take ((48 : Int) - (0 : Int)).toNat g)) none) (k g)) none) none) (aaw n 8 fun l => br (decide ((o.length + l.length) * 1 ≤ 140737488355328)) (aal p q r s (o ++ l) fun C F G H => afv m 0 [] C F G H fun aa ab h I ac ad ae => br (I == 2) (br (decide (48 ≤ (↑h.length : Int))) (k (List.take ((48 : Int) - (0 : Int)).toNat h)) none) (k h)) none)
def aed {ρ : Type} := shut (aiy (ρ := ρ))
theorem aq5 {ρ : Type} (b : Int) (a : List Int) (c : List Int) (d : Int) (k : (List Int) → Option ρ) : aed b a c d k = aiy b a c d k := by unfold aed; rw [dz]

def aja {ρ : Type} (b : Int) (c : List Int) (k : (List Int) → Int → Option ρ) : Option ρ := aee b fun d e f g a => br (a != 0) (k [] a) (aal d e f g c fun h i j l => aed h i j l fun m => k m 0)
def ael {ρ : Type} := shut (aja (ρ := ρ))
theorem aqd {ρ : Type} (a : Int) (b : List Int) (k : (List Int) → Int → Option ρ) : ael a b k = aja a b k := by unfold ael; rw [dz]

def af8 {ρ : Type} (a b : Int) (k : (List Int) → Option ρ) : Option ρ := aaw a 8 fun e => aaw b 8 fun f => yt [e, f] fun c => ael 1 c fun d g => br (decide ((c.length + d.length) * 1 ≤ 140737488355328)) (k (c ++ d)) none
def aam {ρ : Type} := shut (af8 (ρ := ρ))
theorem al8 {ρ : Type} (a : Int) (b : Int) (k : (List Int) → Option ρ) : aam a b k = af8 a b k := by unfold aam; rw [dz]

abbrev bo8 (ρ : Type) := (List Int) → (List Int) → Int → Option ρ
def aio {ρ : Type} (b c : List Int) (a : Int) (nx d : bo8 ρ) (e : Bool → Option ρ) : Option ρ := br (decide (a < (↑b.length : Int))) (br (decide (0 ≤ a)) (br (decide (a < (↑b.length : Int))) (br (decide (0 ≤ a)) (br (decide (a < (↑c.length : Int))) (br (b.getD a.toNat 0 != c.getD a.toNat 0) (e false) (nx b c (IntKind.i64.wrap (a + 1)))) none) none) none) none) (d b c a)
abbrev blc := (List Int) × (List Int) × Int
abbrev bpi := ((List Int) × (List Int) × Int) ⊕ (Bool)
def bqf {ρ : Type} (f : blc → Option ρ) : bo8 ρ := fun a b c => f (a, b, c)
def bjr {ρ : Type} : ag0 blc bpi ρ := fun (a, b, c) next ex => aio a b c (bqf next) (fun a b c => ex (.inl (a, b, c))) (fun d => ex (.inr d))
def boj {ρ : Type} := shut (lp (bjr (ρ := ρ)))
theorem bp5 {ρ : Type} : boj (ρ := ρ) = lp bjr := dz _
def blo {ρ : Type} (f : ag1 blc bpi ρ) (a b : List Int) (c : Int) (d : bo8 ρ) (e : Bool → Option ρ) : Option ρ := f (a, b, c) (Sum.elim (fun (a, b, c) => d a b c) (fun x => e x))
def apf {ρ : Type} := blo (lp (bjr (ρ := ρ)))
def ao1 {ρ : Type} := blo (boj (ρ := ρ))
theorem apt {ρ : Type} : ao1 (ρ := ρ) = apf := congrArg blo bp5
def ahd {ρ : Type} (a b : List Int) (k : Bool → Option ρ) : Option ρ := br ((↑a.length : Int) != (↑b.length : Int)) (k false) (ao1 a b 0 (fun d e f => k true) fun c => k c)
def ab1 {ρ : Type} := shut (ahd (ρ := ρ))
theorem ant {ρ : Type} (a : List Int) (b : List Int) (k : Bool → Option ρ) : ab1 a b k = ahd a b k := by unfold ab1; rw [dz]

def ahj {ρ : Type} (a : List Int) (k : Int → Int → Bool → Option ρ) : Option ρ := br ((↑a.length : Int) != 48) (k 0 0 false) (br (decide (8 ≤ (↑a.length : Int))) (ze (List.drop 0 (List.take (Int.toNat 8) a)) fun b => br (decide (16 ≤ (↑a.length : Int))) (ze (List.drop 8 (List.take (Int.toNat 16) a)) fun c => aam b c fun d => ab1 d a fun e => br (!e) (k 0 0 false) (k b c true)) none) none)
def aa2 {ρ : Type} := shut (ahj (ρ := ρ))
theorem aoz {ρ : Type} (a : List Int) (k : Int → Int → Bool → Option ρ) : aa2 a k = ahj a k := by unfold aa2; rw [dz]

abbrev bow (ρ : Type) := Nat → (List Int) → (List Int) → (List (List Int)) → Int → Int → Option ρ
def abx {ρ : Type} (c : Nat) (d e : List Int) (b : List (List Int)) (f a : Int) (nx g : bow ρ) (h : Bool → Int → Int → Int → Int → Int → Int → (List Int) → Int → Int → Option ρ) : Option ρ := br (decide (a < f)) (br (decide (0 ≤ a)) (br (decide (a < (↑c : Int))) (aa2 (b.getD a.toNat []) fun i j k => br k (h false i j 0 0 (d.getD a.toNat 0) (e.getD a.toNat 0) (b.getD a.toNat []) 0 0) (nx c d e b f (IntKind.i64.wrap (a + 1)))) none) none) (g c d e b f a)
abbrev bk5 := Nat × (List Int) × (List Int) × (List (List Int)) × Int × Int
abbrev bpp := (Nat × (List Int) × (List Int) × (List (List Int)) × Int × Int) ⊕ (Bool × Int × Int × Int × Int × Int × Int × (List Int) × Int × Int)
def bnw {ρ : Type} (f : bk5 → Option ρ) : bow ρ := fun a b c d e g => f (a, b, c, d, e, g)
def bho {ρ : Type} : ag0 bk5 bpp ρ := fun (a, b, c, d, i, j) next ex => abx a b c d i j (bnw next) (fun a b c d i j => ex (.inl (a, b, c, d, i, j))) (fun p k l e f m n o g h => ex (.inr (p, k, l, e, f, m, n, o, g, h)))
def bpa {ρ : Type} := shut (lp (bho (ρ := ρ)))
theorem bp1 {ρ : Type} : bpa (ρ := ρ) = lp bho := dz _
def biz {ρ : Type} (f : ag1 bk5 bpp ρ) (a : Nat) (b c : List Int) (d : List (List Int)) (e g : Int) (h : bow ρ) (i : Bool → Int → Int → Int → Int → Int → Int → (List Int) → Int → Int → Option ρ) : Option ρ := f (a, b, c, d, e, g) (Sum.elim (fun (a, b, c, d, e, g) => h a b c d e g) (fun x => i x.1 x.2.1 x.2.2.1 x.2.2.2.1 x.2.2.2.2.1 x.2.2.2.2.2.1 x.2.2.2.2.2.2.1 x.2.2.2.2.2.2.2.1 x.2.2.2.2.2.2.2.2.1 x.2.2.2.2.2.2.2.2.2))
def af3 {ρ : Type} := biz (lp (bho (ρ := ρ)))
def akk {ρ : Type} := biz (bpa (ρ := ρ))
theorem agt {ρ : Type} : akk (ρ := ρ) = af3 := congrArg biz bp1
def acw {ρ : Type} (a : Nat) (b c : List Int) (d : List (List Int)) (k : Bool → Option ρ) : Option ρ := akk a b c d (↑a : Int) 0 (fun m n o p q r => k true) fun e s t u f g h i j l => k e
def aaz {ρ : Type} := shut (acw (ρ := ρ))
theorem aga {ρ : Type} (a : Nat) (b : List Int) (c : List Int) (d : List (List Int)) (k : Bool → Option ρ) : aaz a b c d k = acw a b c d k := by unfold aaz; rw [dz]

abbrev bme (ρ : Type) := Int → Int → Int → Int → Bool → Nat → (List Int) → (List Int) → (List (List Int)) → Int → Int → Int → Int → (List Int) → (List Int) → Int → Int → Int → Int → Bool → (List Int) → (List Int) → (List Int) → Int → Int → Int → Int → Bool → Option ρ
def aa3 {ρ : Type} (A B C v : Int) (w : Bool) (j : Nat) (k l : List Int) (m : List (List Int)) (y z n a : Int) (o p : List Int) (q r s t : Int) (u : Bool) (b c d : List Int) (e f g h : Int) (i : Bool) (nx F : bme ρ) : Option ρ := br (decide (a < n)) (br (decide (0 ≤ a)) (br (decide (a < (↑b.length : Int))) (nx A B (IntKind.u64.wrap (b.getD a.toNat 0 + 1)) v w j k l m y z n (IntKind.i64.wrap (a + 1)) o p q r s t u b c d e f g h i) none) none) (F A B C v w j k l m y z n a o p q r s t u b c d e f g h i)
abbrev bhz := Int × Int × Int × Int × Bool × Nat × (List Int) × (List Int) × (List (List Int)) × Int × Int × Int × Int × (List Int) × (List Int) × Int × Int × Int × Int × Bool × (List Int) × (List Int) × (List Int) × Int × Int × Int × Int × Bool
abbrev bnb := bhz
def bmg {ρ : Type} (f : bhz → Option ρ) : bme ρ := fun B C F t u i j k l v w y z m n o p q r s A a b c d e g h => f (B, C, F, t, u, i, j, k, l, v, w, y, z, m, n, o, p, q, r, s, A, a, b, c, d, e, g, h)
def bix {ρ : Type} : ag0 bhz bnb ρ := fun (A, B, C, s, t, h, i, j, k, u, v, w, y, l, m, n, o, p, q, r, z, a, b, c, d, e, f, g) next ex => aa3 A B C s t h i j k u v w y l m n o p q r z a b c d e f g (bmg next) (bmg ex)
def boh {ρ : Type} := shut (lp (bix (ρ := ρ)))
theorem bqc {ρ : Type} : boh (ρ := ρ) = lp bix := dz _
def bk3 {ρ : Type} (f : ag1 bhz bnb ρ) (B C F t : Int) (u : Bool) (i : Nat) (j k : List Int) (l : List (List Int)) (v w y z : Int) (m n : List Int) (o p q r : Int) (s : Bool) (A a b : List Int) (c d e g : Int) (h : Bool) (G : bme ρ) : Option ρ := f (B, C, F, t, u, i, j, k, l, v, w, y, z, m, n, o, p, q, r, s, A, a, b, c, d, e, g, h) (fun (B, C, F, t, u, i, j, k, l, v, w, y, z, m, n, o, p, q, r, s, A, a, b, c, d, e, g, h) => G B C F t u i j k l v w y z m n o p q r s A a b c d e g h)
def afm {ρ : Type} := bk3 (lp (bix (ρ := ρ)))
def acg {ρ : Type} := bk3 (boh (ρ := ρ))
theorem ah6 {ρ : Type} : acg (ρ := ρ) = afm := congrArg bk3 bqc
abbrev bo6 (ρ : Type) := Int → Int → Int → Int → Nat → (List Int) → (List Int) → (List (List Int)) → Int → Int → (List Int) → (List Int) → Int → Int → Int → Int → Bool → Option ρ
def adp {ρ : Type} (v0 v1 v9 aa : Int) (G : Nat) (H I : List Int) (J : List (List Int)) (Z C : Int) (M N : List Int) (O Q U W : Int) (F : Bool) (nx k0 : bo6 ρ) (z : Bool → (List Int) → (List Int) → Int → Int → Int → Int → Bool → (List Int) → (List Int) → (List Int) → Int → Int → Int → Int → Bool → Option ρ) : Option ρ := br (decide (C < Z)) (br (decide (0 ≤ C)) (br (decide (C < (↑G : Int))) (yh M N O Q U W F (H.getD C.toNat 0) (I.getD C.toNat 0) (J.getD C.toNat []) fun q0 q1 q2 q3 q4 q5 q6 q7 q8 => acg v0 v1 v9 aa F G H I J Z C (↑q7.length : Int) 0 M N O Q U W F q7 q0 q1 q2 q3 q4 q5 q6 fun y p q A B r s t u v w ab ac h i j k l m n o d e f g b a c => br c (br B (br c (br (!B) (br (decide (b < q)) (z false h i j k l m n o d e f g b a c) (br (decide (b < a)) (z false h i j k l m n o d e f g b a c) (br (decide (b > a)) (br (decide (IntKind.u64.wrap (b - a) > p)) (z false h i j k l m n o d e f g b a c) (br (b != a) (z false h i j k l m n o d e f g b a c) (br c (br (!B) (br c (br (decide (b > a)) (z false h i j k l m n o d e f g b a c) (br (decide (a > y)) (z false h i j k l m n o d e f g b a c) (nx y p q a r s t u v (IntKind.i64.wrap (w + 1)) d e f g b a c))) (nx y p q a r s t u v (IntKind.i64.wrap (w + 1)) d e f g b a c)) (br c (br (decide (b > a)) (z false h i j k l m n o d e f g b a c) (br (decide (a > y)) (z false h i j k l m n o d e f g b a c) (nx y p q a r s t u v (IntKind.i64.wrap (w + 1)) d e f g b a c))) (nx y p q a r s t u v (IntKind.i64.wrap (w + 1)) d e f g b a c))) (br c (br (decide (b > a)) (z false h i j k l m n o d e f g b a c) (br (decide (a > y)) (z false h i j k l m n o d e f g b a c) (nx y p q a r s t u v (IntKind.i64.wrap (w + 1)) d e f g b a c))) (nx y p q a r s t u v (IntKind.i64.wrap (w + 1)) d e f g b a c))))) (br (b != a) (z false h i j k l m n o d e f g b a c) (br c (br (!B) (br c (br (decide (b > a)) (z false h i j k l m n o d e f g b a c) (br (decide (a > y)) (z false h i j k l m n o d e f g b a c) (nx y p q a r s t u v (IntKind.i64.wrap (w + 1)) d e f g b a c))) (nx y p q a r s t u v (IntKind.i64.wrap (w + 1)) d e f g b a c)) (br c (br (decide (b > a)) (z false h i j k l m n o d e f g b a c) (br (decide (a > y)) (z false h i j k l m n o d e f g b a c) (nx y p q a r s t u v (IntKind.i64.wrap (w + 1)) d e f g b a c))) (nx y p q a r s t u v (IntKind.i64.wrap (w + 1)) d e f g b a c))) (br c (br (decide (b > a)) (z false h i j k l m n o d e f g b a c) (br (decide (a > y)) (z false h i j k l m n o d e f g b a c) (nx y p q a r s t u v (IntKind.i64.wrap (w + 1)) d e f g b a c))) (nx y p q a r s t u v (IntKind.i64.wrap (w + 1)) d e f g b a c))))))) (br c (br (!B) (br c (br (decide (b > a)) (z false h i j k l m n o d e f g b a c) (br (decide (a > y)) (z false h i j k l m n o d e f g b a c) (nx y p q a r s t u v (IntKind.i64.wrap (w + 1)) d e f g b a c))) (nx y p q a r s t u v (IntKind.i64.wrap (w + 1)) d e f g b a c)) (br c (br (decide (b > a)) (z false h i j k l m n o d e f g b a c) (br (decide (a > y)) (z false h i j k l m n o d e f g b a c) (nx y p q a r s t u v (IntKind.i64.wrap (w + 1)) d e f g b a c))) (nx y p q a r s t u v (IntKind.i64.wrap (w + 1)) d e f g b a c))) (br c (br (decide (b > a)) (z false h i j k l m n o d e f g b a c) (br (decide (a > y)) (z false h i j k l m n o d e f g b a c) (nx y p q a r s t u v (IntKind.i64.wrap (w + 1)) d e f g b a c))) (nx y p q a r s t u v (IntKind.i64.wrap (w + 1)) d e f g b a c)))) (br c (br (!B) (br c (br (decide (b > a)) (z false h i j k l m n o d e f g b a c) (br (decide (a > y)) (z false h i j k l m n o d e f g b a c) (nx y p q a r s t u v (IntKind.i64.wrap (w + 1)) d e f g b a c))) (nx y p q a r s t u v (IntKind.i64.wrap (w + 1)) d e f g b a c)) (br c (br (decide (b > a)) (z false h i j k l m n o d e f g b a c) (br (decide (a > y)) (z false h i j k l m n o d e f g b a c) (nx y p q a r s t u v (IntKind.i64.wrap (w + 1)) d e f g b a c))) (nx y p q a r s t u v (IntKind.i64.wrap (w + 1)) d e f g b a c))) (br c (br (decide (b > a)) (z false h i j k l m n o d e f g b a c) (br (decide (a > y)) (z false h i j k l m n o d e f g b a c) (nx y p q a r s t u v (IntKind.i64.wrap (w + 1)) d e f g b a c))) (nx y p q a r s t u v (IntKind.i64.wrap (w + 1)) d e f g b a c)))) (br c (br (!B) (br (decide (b < q)) (z false h i j k l m n o d e f g b a c) (br (decide (b < A)) (z false h i j k l m n o d e f g b a c) (br (decide (b > A)) (br (decide (IntKind.u64.wrap (b - A) > p)) (z false h i j k l m n o d e f g b a c) (br (b != a) (z false h i j k l m n o d e f g b a c) (br c (br (!B) (br c (br (decide (b > a)) (z false h i j k l m n o d e f g b a c) (br (decide (a > y)) (z false h i j k l m n o d e f g b a c) (nx y p q a r s t u v (IntKind.i64.wrap (w + 1)) d e f g b a c))) (nx y p q a r s t u v (IntKind.i64.wrap (w + 1)) d e f g b a c)) (br c (br (decide (b > a)) (z false h i j k l m n o d e f g b a c) (br (decide (a > y)) (z false h i j k l m n o d e f g b a c) (nx y p q A r s t u v (IntKind.i64.wrap (w + 1)) d e f g b a c))) (nx y p q A r s t u v (IntKind.i64.wrap (w + 1)) d e f g b a c))) (br c (br (decide (b > a)) (z false h i j k l m n o d e f g b a c) (br (decide (a > y)) (z false h i j k l m n o d e f g b a c) (nx y p q A r s t u v (IntKind.i64.wrap (w + 1)) d e f g b a c))) (nx y p q A r s t u v (IntKind.i64.wrap (w + 1)) d e f g b a c))))) (br (b != a) (z false h i j k l m n o d e f g b a c) (br c (br (!B) (br c (br (decide (b > a)) (z false h i j k l m n o d e f g b a c) (br (decide (a > y)) (z false h i j k l m n o d e f g b a c) (nx y p q a r s t u v (IntKind.i64.wrap (w + 1)) d e f g b a c))) (nx y p q a r s t u v (IntKind.i64.wrap (w + 1)) d e f g b a c)) (br c (br (decide (b > a)) (z false h i j k l m n o d e f g b a c) (br (decide (a > y)) (z false h i j k l m n o d e f g b a c) (nx y p q A r s t u v (IntKind.i64.wrap (w + 1)) d e f g b a c))) (nx y p q A r s t u v (IntKind.i64.wrap (w + 1)) d e f g b a c))) (br c (br (decide (b > a)) (z false h i j k l m n o d e f g b a c) (br (decide (a > y)) (z false h i j k l m n o d e f g b a c) (nx y p q A r s t u v (IntKind.i64.wrap (w + 1)) d e f g b a c))) (nx y p q A r s t u v (IntKind.i64.wrap (w + 1)) d e f g b a c))))))) (br c (br (!B) (br c (br (decide (b > a)) (z false h i j k l m n o d e f g b a c) (br (decide (a > y)) (z false h i j k l m n o d e f g b a c) (nx y p q a r s t u v (IntKind.i64.wrap (w + 1)) d e f g b a c))) (nx y p q a r s t u v (IntKind.i64.wrap (w + 1)) d e f g b a c)) (br c (br (decide (b > a)) (z false h i j k l m n o d e f g b a c) (br (decide (a > y)) (z false h i j k l m n o d e f g b a c) (nx y p q A r s t u v (IntKind.i64.wrap (w + 1)) d e f g b a c))) (nx y p q A r s t u v (IntKind.i64.wrap (w + 1)) d e f g b a c))) (br c (br (decide (b > a)) (z false h i j k l m n o d e f g b a c) (br (decide (a > y)) (z false h i j k l m n o d e f g b a c) (nx y p q A r s t u v (IntKind.i64.wrap (w + 1)) d e f g b a c))) (nx y p q A r s t u v (IntKind.i64.wrap (w + 1)) d e f g b a c)))) (br c (br (!B) (br c (br (decide (b > a)) (z false h i j k l m n o d e f g b a c) (br (decide (a > y)) (z false h i j k l m n o d e f g b a c) (nx y p q a r s t u v (IntKind.i64.wrap (w + 1)) d e f g b a c))) (nx y p q a r s t u v (IntKind.i64.wrap (w + 1)) d e f g b a c)) (br c (br (decide (b > a)) (z false h i j k l m n o d e f g b a c) (br (decide (a > y)) (z false h i j k l m n o d e f g b a c) (nx y p q A r s t u v (IntKind.i64.wrap (w + 1)) d e f g b a c))) (nx y p q A r s t u v (IntKind.i64.wrap (w + 1)) d e f g b a c))) (br c (br (decide (b > a)) (z false h i j k l m n o d e f g b a c) (br (decide (a > y)) (z false h i j k l m n o d e f g b a c) (nx y p q A r s t u v (IntKind.i64.wrap (w + 1)) d e f g b a c))) (nx y p q A r s t u v (IntKind.i64.wrap (w + 1)) d e f g b a c))))) (br c (br (!B) (br (decide (b < q)) (z false h i j k l m n o d e f g b a c) (br (decide (b < A)) (z false h i j k l m n o d e f g b a c) (br (decide (b > A)) (br (decide (IntKind.u64.wrap (b - A) > p)) (z false h i j k l m n o d e f g b a c) (br (b != a) (z false h i j k l m n o d e f g b a c) (br c (br (!B) (br c (br (decide (b > a)) (z false h i j k l m n o d e f g b a c) (br (decide (a > y)) (z false h i j k l m n o d e f g b a c) (nx y p q a r s t u v (IntKind.i64.wrap (w + 1)) d e f g b a c))) (nx y p q a r s t u v (IntKind.i64.wrap (w + 1)) d e f g b a c)) (br c (br (decide (b > a)) (z false h i j k l m n o d e f g b a c) (br (decide (a > y)) (z false h i j k l m n o d e f g b a c) (nx y p q A r s t u v (IntKind.i64.wrap (w + 1)) d e f g b a c))) (nx y p q A r s t u v (IntKind.i64.wrap (w + 1)) d e f g b a c))) (br c (br (decide (b > a)) (z false h i j k l m n o d e f g b a c) (br (decide (a > y)) (z false h i j k l m n o d e f g b a c) (nx y p q A r s t u v (IntKind.i64.wrap (w + 1)) d e f g b a c))) (nx y p q A r s t u v (IntKind.i64.wrap (w + 1)) d e f g b a c))))) (br (b != a) (z false h i j k l m n o d e f g b a c) (br c (br (!B) (br c (br (decide (b > a)) (z false h i j k l m n o d e f g b a c) (br (decide (a > y)) (z false h i j k l m n o d e f g b a c) (nx y p q a r s t u v (IntKind.i64.wrap (w + 1)) d e f g b a c))) (nx y p q a r s t u v (IntKind.i64.wrap (w + 1)) d e f g b a c)) (br c (br (decide (b > a)) (z false h i j k l m n o d e f g b a c) (br (decide (a > y)) (z false h i j k l m n o d e f g b a c) (nx y p q A r s t u v (IntKind.i64.wrap (w + 1)) d e f g b a c))) (nx y p q A r s t u v (IntKind.i64.wrap (w + 1)) d e f g b a c))) (br c (br (decide (b > a)) (z false h i j k l m n o d e f g b a c) (br (decide (a > y)) (z false h i j k l m n o d e f g b a c) (nx y p q A r s t u v (IntKind.i64.wrap (w + 1)) d e f g b a c))) (nx y p q A r s t u v (IntKind.i64.wrap (w + 1)) d e f g b a c))))))) (br c (br (!B) (br c (br (decide (b > a)) (z false h i j k l m n o d e f g b a c) (br (decide (a > y)) (z false h i j k l m n o d e f g b a c) (nx y p q a r s t u v (IntKind.i64.wrap (w + 1)) d e f g b a c))) (nx y p q a r s t u v (IntKind.i64.wrap (w + 1)) d e f g b a c)) (br c (br (decide (b > a)) (z false h i j k l m n o d e f g b a c) (br (decide (a > y)) (z false h i j k l m n o d e f g b a c) (nx y p q A r s t u v (IntKind.i64.wrap (w + 1)) d e f g b a c))) (nx y p q A r s t u v (IntKind.i64.wrap (w + 1)) d e f g b a c))) (br c (br (decide (b > a)) (z false h i j k l m n o d e f g b a c) (br (decide (a > y)) (z false h i j k l m n o d e f g b a c) (nx y p q A r s t u v (IntKind.i64.wrap (w + 1)) d e f g b a c))) (nx y p q A r s t u v (IntKind.i64.wrap (w + 1)) d e f g b a c)))) (br c (br (!B) (br c (br (decide (b > a)) (z false h i j k l m n o d e f g b a c) (br (decide (a > y)) (z false h i j k l m n o d e f g b a c) (nx y p q a r s t u v (IntKind.i64.wrap (w + 1)) d e f g b a c))) (nx y p q a r s t u v (IntKind.i64.wrap (w + 1)) d e f g b a c)) (br c (br (decide (b > a)) (z false h i j k l m n o d e f g b a c) (br (decide (a > y)) (z false h i j k l m n o d e f g b a c) (nx y p q A r s t u v (IntKind.i64.wrap (w + 1)) d e f g b a c))) (nx y p q A r s t u v (IntKind.i64.wrap (w + 1)) d e f g b a c))) (br c (br (decide (b > a)) (z false h i j k l m n o d e f g b a c) (br (decide (a > y)) (z false h i j k l m n o d e f g b a c) (nx y p q A r s t u v (IntKind.i64.wrap (w + 1)) d e f g b a c))) (nx y p q A r s t u v (IntKind.i64.wrap (w + 1)) d e f g b a c))))) none) none) (k0 v0 v1 v9 aa G H I J Z C M N O Q U W F)
abbrev blb := Int × Int × Int × Int × Nat × (List Int) × (List Int) × (List (List Int)) × Int × Int × (List Int) × (List Int) × Int × Int × Int × Int × Bool
abbrev bou := (Int × Int × Int × Int × Nat × (List Int) × (List Int) × (List (List Int)) × Int × Int × (List Int) × (List Int) × Int × Int × Int × Int × Bool) ⊕ (Bool × (List Int) × (List Int) × Int × Int × Int × Int × Bool × (List Int) × (List Int) × (List Int) × Int × Int × Int × Int × Bool)
def bqa {ρ : Type} (f : blb → Option ρ) : bo6 ρ := fun p q r m a b c d n o e g h i j k l => f (p, q, r, m, a, b, c, d, n, o, e, g, h, i, j, k, l)
def bh5 {ρ : Type} : ag0 blb bou ρ := fun (v, w, y, l, h, i, j, k, m, n, a, b, c, d, e, f, g) next ex => adp v w y l h i j k m n a b c d e f g (bqa next) (fun v w y l h i j k m n a b c d e f g => ex (.inl (v, w, y, l, h, i, j, k, m, n, a, b, c, d, e, f, g))) (fun A a b c d e f g z o p q r s t u => ex (.inr (A, a, b, c, d, e, f, g, z, o, p, q, r, s, t, u)))
def bn9 {ρ : Type} := shut (lp (bh5 (ρ := ρ)))
theorem bqk {ρ : Type} : bn9 (ρ := ρ) = lp bh5 := dz _
def bkx {ρ : Type} (f : ag1 blb bou ρ) (p q r m : Int) (a : Nat) (b c : List Int) (d : List (List Int)) (n o : Int) (e g : List Int) (h i j k : Int) (l : Bool) (s : bo6 ρ) (t : Bool → (List Int) → (List Int) → Int → Int → Int → Int → Bool → (List Int) → (List Int) → (List Int) → Int → Int → Int → Int → Bool → Option ρ) : Option ρ := f (p, q, r, m, a, b, c, d, n, o, e, g, h, i, j, k, l) (Sum.elim (fun (p, q, r, m, a, b, c, d, n, o, e, g, h, i, j, k, l) => s p q r m a b c d n o e g h i j k l) (fun x => t x.1 x.2.1 x.2.2.1 x.2.2.2.1 x.2.2.2.2.1 x.2.2.2.2.2.1 x.2.2.2.2.2.2.1 x.2.2.2.2.2.2.2.1 x.2.2.2.2.2.2.2.2.1 x.2.2.2.2.2.2.2.2.2.1 x.2.2.2.2.2.2.2.2.2.2.1 x.2.2.2.2.2.2.2.2.2.2.2.1 x.2.2.2.2.2.2.2.2.2.2.2.2.1 x.2.2.2.2.2.2.2.2.2.2.2.2.2.1 x.2.2.2.2.2.2.2.2.2.2.2.2.2.2.1 x.2.2.2.2.2.2.2.2.2.2.2.2.2.2.2))
def agq {ρ : Type} := bkx (lp (bh5 (ρ := ρ)))
def agp {ρ : Type} := bkx (bn9 (ρ := ρ))
theorem ajc {ρ : Type} : agp (ρ := ρ) = agq := congrArg bkx bqk
def acr {ρ : Type} (e f : Int) (a : Nat) (b c : List Int) (d : List (List Int)) (k : Bool → Option ρ) : Option ρ := su e f fun m n o p q r s t => afy [] [] a b c d fun u => br (!u) (qj fun v => k v) (br (t != 0) (qj fun g => k g) (aaz a b c d fun h => br (!h) (qj fun i => k i) (agp e f 0 0 a b c d (↑a : Int) 0 m n o p q r s (fun w y z A B C F G H I J M N O Q U W => qj fun j => k j) fun l Z aa ab ac ad ae af ag ah ai aj ak al am an => k l)))
def qw {ρ : Type} := shut (acr (ρ := ρ))
theorem agh {ρ : Type} (e : Int) (f : Int) (a : Nat) (b : List Int) (c : List Int) (d : List (List Int)) (k : Bool → Option ρ) : qw e f a b c d k = acr e f a b c d k := by unfold qw; rw [dz]











end P
end
