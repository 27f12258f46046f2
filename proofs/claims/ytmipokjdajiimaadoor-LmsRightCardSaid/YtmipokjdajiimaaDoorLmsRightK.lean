/-
  LmsRight, part 11: an interpreter of my own over abstract values, the pure functions, the walks and the plain law.
-/

import Derived.Test.YtmipokjdajiimaaDoorLmsRightH
import Derived.Test.YtmipokjdajiimaaDoorLmsRightJ
import Derived.Test.YtmipokjdajiimaaDoorLmsRightI

noncomputable section
open Go Go.Abs
set_option linter.unusedVariables false
namespace P

def ael {ρ : Type} (a : Int) (k : Int → Option ρ) : Option ρ := br (decide (0 ≤ a)) (br (decide (a < (↑64 : Int))) (k (roots256.getD a.toNat 0)) none) none
def lq {ρ : Type} := shut (ael (ρ := ρ))
theorem ah3 {ρ : Type} (a : Int) (k : Int → Option ρ) : lq a k = ael a k := by unfold lq; rw [bq]

def ru {ρ : Type} (a g : Int) (b c d e : List Int) (h f : Int) (k : Int → Option ρ) : Option ρ := br (decide (f < 0)) none (br (decide (IntKind.i64.wrap (a - f) < 0)) none (k (bits BinOp.or IntKind.u32 (h.fdiv (2 ^ min f.toNat 32)) (IntKind.u32.wrap (h * 2 ^ min (IntKind.i64.wrap (a - f)).toNat 32)))))
def ak {ρ : Type} := shut (ru (ρ := ρ))
theorem zx {ρ : Type} (f : Int) (e : Int) (a : List Int) (b : List Int) (c : List Int) (d : List Int) (g : Int) (h : Int) (k : Int → Option ρ) : ak f e a b c d g h k = ru f e a b c d g h k := by unfold ak; rw [bq]

def pz {ρ : Type} (f e : Int) (a b c d : List Int) (g h : Int) (k : Int → Option ρ) : Option ρ := br (decide (h = (↑0 : Int))) (ak f e a b c d g (a.getD 0 0) fun l => ak f e a b c d g (a.getD 1 0) fun m => ak f e a b c d g (a.getD 2 0) fun n => k (bits BinOp.xor IntKind.u32 (bits BinOp.xor IntKind.u32 l m) n)) (br (decide (h = (↑1 : Int))) (ak f e a b c d g (b.getD 0 0) fun o => ak f e a b c d g (b.getD 1 0) fun p => ak f e a b c d g (b.getD 2 0) fun q => k (bits BinOp.xor IntKind.u32 (bits BinOp.xor IntKind.u32 o p) q)) (br (decide (h = (↑2 : Int))) (ak f e a b c d g (c.getD 0 0) fun r => ak f e a b c d g (c.getD 1 0) fun s => ak f e a b c d g (c.getD 2 0) fun t => k (bits BinOp.xor IntKind.u32 (bits BinOp.xor IntKind.u32 r s) t)) (br (decide (h = (↑3 : Int))) (ak f e a b c d g (d.getD 0 0) fun u => ak f e a b c d g (d.getD 1 0) fun i => ak f e a b c d g (d.getD 2 0) fun j => k (bits BinOp.xor IntKind.u32 (bits BinOp.xor IntKind.u32 u i) j)) none)))
def ig {ρ : Type} := shut (pz (ρ := ρ))
theorem wm {ρ : Type} (f : Int) (e : Int) (a : List Int) (b : List Int) (c : List Int) (d : List Int) (g : Int) (h : Int) (k : Int → Option ρ) : ig f e a b c d g h k = pz f e a b c d g h k := by unfold ig; rw [bq]

def ql {ρ : Type} (f e : Int) (a b c d : List Int) (g h : Int) (k : Int → Option ρ) : Option ρ := br (decide (h = (↑0 : Int))) (ak f e a b c d g (a.getD 0 (0 : Int)) fun i => ak f e a b c d g (a.getD 1 (0 : Int)) fun j => br (decide (a.getD 2 (0 : Int) < (0 : Int))) none (k (bits BinOp.xor IntKind.u32 (bits BinOp.xor IntKind.u32 i j) (g.fdiv ((2 : Int) ^ min (a.getD 2 (0 : Int)).toNat 32))))) (br (decide (h = (↑1 : Int))) (ak f e a b c d g (b.getD 0 (0 : Int)) fun l => ak f e a b c d g (b.getD 1 (0 : Int)) fun m => br (decide (b.getD 2 (0 : Int) < (0 : Int))) none (k (bits BinOp.xor IntKind.u32 (bits BinOp.xor IntKind.u32 l m) (g.fdiv ((2 : Int) ^ min (b.getD 2 (0 : Int)).toNat 32))))) (br (decide (h = (↑2 : Int))) (ak f e a b c d g (c.getD 0 (0 : Int)) fun n => ak f e a b c d g (c.getD 1 (0 : Int)) fun o => br (decide (c.getD 2 (0 : Int) < (0 : Int))) none (k (bits BinOp.xor IntKind.u32 (bits BinOp.xor IntKind.u32 n o) (g.fdiv ((2 : Int) ^ min (c.getD 2 (0 : Int)).toNat 32))))) (br (decide (h = (↑3 : Int))) (ak f e a b c d g (d.getD 0 (0 : Int)) fun p => ak f e a b c d g (d.getD 1 (0 : Int)) fun q => br (decide (d.getD 2 (0 : Int) < (0 : Int))) none (k (bits BinOp.xor IntKind.u32 (bits BinOp.xor IntKind.u32 p q) (g.fdiv ((2 : Int) ^ min (d.getD 2 (0 : Int)).toNat 32))))) none)))
def jd {ρ : Type} := shut (ql (ρ := ρ))
theorem xk {ρ : Type} (f : Int) (e : Int) (a : List Int) (b : List Int) (c : List Int) (d : List Int) (g : Int) (h : Int) (k : Int → Option ρ) : jd f e a b c d g h k = ql f e a b c d g h k := by unfold jd; rw [bq]

abbrev zc8 (ρ : Type) := (List Int) → Int → Int → Int → Int → (List Int) → (List Int) → (List Int) → (List Int) → (List Int) → (List Int) → (List Int) → Option ρ
def u7 {ρ : Type} (l : List Int) (b a c d : Int) (e f g h i j k : List Int) (nx m : zc8 ρ) : Option ρ := br (decide (a < 16)) (br (decide (0 ≤ IntKind.i64.wrap (a * b))) (br (decide (IntKind.i64.wrap (a * b) ≤ IntKind.i64.wrap (IntKind.i64.wrap (a + 1) * b))) (br (decide (IntKind.i64.wrap (IntKind.i64.wrap (a + 1) * b) ≤ (↑l.length : Int))) (jl (List.drop (IntKind.i64.wrap (a * b)).toNat (List.take (IntKind.i64.wrap (IntKind.i64.wrap (a + 1) * b)).toNat l)) fun n => br (decide (0 ≤ a)) (br (decide (a < (↑16 : Int))) (nx l b (IntKind.i64.wrap (a + 1)) c d e f g h i j (k.set a.toNat (IntKind.u32.wrap n))) none) none) none) none) none) (m l b a c d e f g h i j k)
abbrev zt8 := (List Int) × Int × Int × Int × Int × (List Int) × (List Int) × (List Int) × (List Int) × (List Int) × (List Int) × (List Int)
abbrev zy8 := zt8
def zu8 {ρ : Type} (f : zt8 → Option ρ) : zc8 ρ := fun l m k a b c d e g h i j => f (l, m, k, a, b, c, d, e, g, h, i, j)
def zs8 {ρ : Type} : ai8 zt8 zy8 ρ := fun (k, l, j, a, b, c, d, e, f, g, h, i) next ex => u7 k l j a b c d e f g h i (zu8 next) (zu8 ex)
def zm8 {ρ : Type} := shut (lp (zs8 (ρ := ρ)))
theorem ze8 {ρ : Type} : zm8 (ρ := ρ) = lp zs8 := bq _
def zk8 {ρ : Type} (f : ai9 zt8 zy8 ρ) (l : List Int) (m k a b : Int) (c d e g h i j : List Int) (n : zc8 ρ) : Option ρ := f (l, m, k, a, b, c, d, e, g, h, i, j) (fun (l, m, k, a, b, c, d, e, g, h, i, j) => n l m k a b c d e g h i j)
def aa4 {ρ : Type} := zk8 (lp (zs8 (ρ := ρ)))
def uw {ρ : Type} := zk8 (zm8 (ρ := ρ))
theorem ado {ρ : Type} : uw (ρ := ρ) = aa4 := congrArg zk8 ze8
abbrev zc9 (ρ : Type) := Int → Int → (List Int) → (List Int) → (List Int) → Int → Int → (List Int) → (List Int) → (List Int) → (List Int) → (List Int) → Option ρ
def sj {ρ : Type} (j b : Int) (c k l : List Int) (d e : Int) (f g h i a : List Int) (nx o : zc9 ρ) : Option ρ := br (decide (b < j)) (br (decide (0 ≤ b.tmod 16)) (br (decide (b.tmod 16 < (↑16 : Int))) (ig d e f g h i (a.getD 4 0) 3 fun m => lq b fun n => ig d e f g h i (a.getD 0 0) 2 fun p => br (decide (0 ≤ (IntKind.i64.wrap (b + 1)).tmod 16)) (br (decide ((IntKind.i64.wrap (b + 1)).tmod 16 < (↑16 : Int))) (jd d e f g h i (c.getD ((IntKind.i64.wrap (b + 1)).tmod 16).toNat 0) 0 fun q => br (decide (0 ≤ (IntKind.i64.wrap (b + 9)).tmod 16)) (br (decide ((IntKind.i64.wrap (b + 9)).tmod 16 < (↑16 : Int))) (br (decide (0 ≤ (IntKind.i64.wrap (b + 14)).tmod 16)) (br (decide ((IntKind.i64.wrap (b + 14)).tmod 16 < (↑16 : Int))) (jd d e f g h i (c.getD ((IntKind.i64.wrap (b + 14)).tmod 16).toNat 0) 1 fun r => br (decide (0 ≤ b.tmod 16)) (br (decide (b.tmod 16 < (↑16 : Int))) (nx j (IntKind.i64.wrap (b + 1)) (c.set (b.tmod 16).toNat (IntKind.u32.wrap (IntKind.u32.wrap (IntKind.u32.wrap (c.getD (b.tmod 16).toNat 0 + q) + c.getD ((IntKind.i64.wrap (b + 9)).tmod 16).toNat 0) + r))) k l d e f g h i ((((List.take 1 a).append (List.take 7 (List.take 7 (List.drop 0 a)) ++ List.drop (1 + min 7 (List.take 7 (List.drop 0 a)).length) a)).set 4 (IntKind.u32.wrap (((List.take 1 a).append (List.take 7 (List.take 7 (List.drop 0 a)) ++ List.drop (1 + min 7 (List.take 7 (List.drop 0 a)).length) a)).getD 4 0 + IntKind.u32.wrap (IntKind.u32.wrap (IntKind.u32.wrap (IntKind.u32.wrap (a.getD 7 0 + m) + bits BinOp.xor IntKind.u32 (a.getD 6 0) (bits BinOp.and IntKind.u32 (a.getD 4 0) (bits BinOp.xor IntKind.u32 (a.getD 5 0) (a.getD 6 0)))) + n) + c.getD (b.tmod 16).toNat 0)))).set 0 (IntKind.u32.wrap (IntKind.u32.wrap (IntKind.u32.wrap (IntKind.u32.wrap (IntKind.u32.wrap (a.getD 7 0 + m) + bits BinOp.xor IntKind.u32 (a.getD 6 0) (bits BinOp.and IntKind.u32 (a.getD 4 0) (bits BinOp.xor IntKind.u32 (a.getD 5 0) (a.getD 6 0)))) + n) + c.getD (b.tmod 16).toNat 0) + IntKind.u32.wrap (p + bits BinOp.or IntKind.u32 (bits BinOp.and IntKind.u32 (a.getD 0 0) (a.getD 1 0)) (bits BinOp.and IntKind.u32 (a.getD 2 0) (bits BinOp.or IntKind.u32 (a.getD 0 0) (a.getD 1 0)))))))) none) none) none) none) none) none) none) none) none) none) (o j b c k l d e f g h i a)
abbrev zt9 := Int × Int × (List Int) × (List Int) × (List Int) × Int × Int × (List Int) × (List Int) × (List Int) × (List Int) × (List Int)
abbrev zy9 := zt9
def zu9 {ρ : Type} (f : zt9 → Option ρ) : zc9 ρ := fun l m a b c d e g h i j k => f (l, m, a, b, c, d, e, g, h, i, j, k)
def zs9 {ρ : Type} : ai8 zt9 zy9 ρ := fun (k, l, a, b, c, d, e, f, g, h, i, j) next ex => sj k l a b c d e f g h i j (zu9 next) (zu9 ex)
def zm9 {ρ : Type} := shut (lp (zs9 (ρ := ρ)))
theorem ze9 {ρ : Type} : zm9 (ρ := ρ) = lp zs9 := bq _
def zk9 {ρ : Type} (f : ai9 zt9 zy9 ρ) (l m : Int) (a b c : List Int) (d e : Int) (g h i j k : List Int) (n : zc9 ρ) : Option ρ := f (l, m, a, b, c, d, e, g, h, i, j, k) (fun (l, m, a, b, c, d, e, g, h, i, j, k) => n l m a b c d e g h i j k)
def aaq {ρ : Type} := zk9 (lp (zs9 (ρ := ρ)))
def ou {ρ : Type} := zk9 (zm9 (ρ := ρ))
theorem ac8 {ρ : Type} : ou (ρ := ρ) = aaq := congrArg zk9 ze9
abbrev bl9 (ρ : Type) := Int → (List Int) → (List Int) → (List Int) → Option ρ
def tu {ρ : Type} (a : Int) (b d c : List Int) (nx e : bl9 ρ) : Option ρ := br (decide (a < 8)) (br (decide (0 ≤ a)) (br (decide (a < (↑8 : Int))) (br (decide (0 ≤ a)) (br (decide (a < (↑8 : Int))) (br (decide (0 ≤ a)) (br (decide (a < (↑8 : Int))) (nx (IntKind.i64.wrap (a + 1)) b d (c.set a.toNat (IntKind.u32.wrap (c.getD a.toNat 0 + b.getD a.toNat 0)))) none) none) none) none) none) none) (e a b d c)
abbrev bjb := Int × (List Int) × (List Int) × (List Int)
abbrev bl1 := bjb
def bmg {ρ : Type} (f : bjb → Option ρ) : bl9 ρ := fun a b c d => f (a, b, c, d)
def bhm {ρ : Type} : ai8 bjb bl1 ρ := fun (a, b, c, d) next ex => tu a b c d (bmg next) (bmg ex)
def blf {ρ : Type} := shut (lp (bhm (ρ := ρ)))
theorem boa {ρ : Type} : blf (ρ := ρ) = lp bhm := bq _
def bkq {ρ : Type} (f : ai9 bjb bl1 ρ) (a : Int) (b c d : List Int) (e : bl9 ρ) : Option ρ := f (a, b, c, d) (fun (a, b, c, d) => e a b c d)
def aap {ρ : Type} := bkq (lp (bhm (ρ := ρ)))
def o8 {ρ : Type} := bkq (blf (ρ := ρ))
theorem ac3 {ρ : Type} : o8 (ρ := ρ) = aap := congrArg bkq boa
def uo {ρ : Type} (a f : Int) (b c d e p q : List Int) (k : (List Int) → Option ρ) : Option ρ := uw q (IntKind.i64.wrap (a.tdiv 8)) 0 a f b c d e p [0, 0, 0, 0, 0, 0, 0, 0] [0, 0, 0, 0, 0, 0, 0, 0, 0, 0, 0, 0, 0, 0, 0, 0] fun N O Q r g s t u v h i j => ou g 0 j i h r g s t u v h fun w y z l m A B C F G H n => o8 0 m l n fun I J M o => k o
def jo {ρ : Type} := shut (uo (ρ := ρ))
theorem aa5 {ρ : Type} (f : Int) (e : Int) (a : List Int) (b : List Int) (c : List Int) (d : List Int) (g : List Int) (h : List Int) (k : (List Int) → Option ρ) : jo f e a b c d g h k = uo f e a b c d g h k := by unfold jo; rw [bq]

abbrev bm0 (ρ : Type) := (List Int) → (List Int) → Int → Int → Int → (List Int) → (List Int) → (List Int) → (List Int) → (List Int) → (List Int) → (List Int) → Option ρ
def aae {ρ : Type} (l b : List Int) (a c d : Int) (e f g h i j k : List Int) (nx m : bm0 ρ) : Option ρ := br (decide (a < 8)) (br (decide (0 ≤ a)) (br (decide (a < (↑8 : Int))) (br (decide (0 ≤ a)) (br (decide (a < (↑8 : Int))) (nx l b (IntKind.i64.wrap (a + 1)) c d e f g h i j (k.set a.toNat (IntKind.u32.wrap (b.getD a.toNat 0)))) none) none) none) none) (m l b a c d e f g h i j k)
abbrev bi3 := (List Int) × (List Int) × Int × Int × Int × (List Int) × (List Int) × (List Int) × (List Int) × (List Int) × (List Int) × (List Int)
abbrev bni := bi3
def bk7 {ρ : Type} (f : bi3 → Option ρ) : bm0 ρ := fun m k l a b c d e g h i j => f (m, k, l, a, b, c, d, e, g, h, i, j)
def bip {ρ : Type} : ai8 bi3 bni ρ := fun (l, j, k, a, b, c, d, e, f, g, h, i) next ex => aae l j k a b c d e f g h i (bk7 next) (bk7 ex)
def bk3 {ρ : Type} := shut (lp (bip (ρ := ρ)))
theorem bn5 {ρ : Type} : bk3 (ρ := ρ) = lp bip := bq _
def bkh {ρ : Type} (f : ai9 bi3 bni ρ) (m k : List Int) (l a b : Int) (c d e g h i j : List Int) (n : bm0 ρ) : Option ρ := f (m, k, l, a, b, c, d, e, g, h, i, j) (fun (m, k, l, a, b, c, d, e, g, h, i, j) => n m k l a b c d e g h i j)
def adh {ρ : Type} := bkh (lp (bip (ρ := ρ)))
def aah {ρ : Type} := bkh (bk3 (ρ := ρ))
theorem afs {ρ : Type} : aah (ρ := ρ) = adh := congrArg bkh bn5
abbrev blb (ρ : Type) := (List Int) → Int → (List Int) → (List Int) → (List Int) → Int → Int → (List Int) → (List Int) → (List Int) → (List Int) → Option ρ
def aal {ρ : Type} (b : List Int) (a : Int) (i j k : List Int) (c d : Int) (e f g h : List Int) (nx l : blb ρ) : Option ρ := br (decide ((↑b.length : Int) ≥ a)) (br (decide (0 ≤ a)) (br (decide (a ≤ (↑b.length : Int))) (jo c d e f g h i (List.drop 0 (List.take a.toNat b)) fun m => br (decide (0 ≤ a)) (br (decide (a ≤ (↑b.length : Int))) (br (decide ((↑b.length : Int) ≤ (↑b.length : Int))) (nx (List.drop a.toNat (List.take (↑b.length : Int).toNat b)) a m j k c d e f g h) none) none) none) none) none) (l b a i j k c d e f g h)
abbrev bjl := (List Int) × Int × (List Int) × (List Int) × (List Int) × Int × Int × (List Int) × (List Int) × (List Int) × (List Int)
abbrev bna := bjl
def bm5 {ρ : Type} (f : bjl → Option ρ) : blb ρ := fun l k a b c d e g h i j => f (l, k, a, b, c, d, e, g, h, i, j)
def zs12 {ρ : Type} : ai8 bjl bna ρ := fun (k, j, a, b, c, d, e, f, g, h, i) next ex => aal k j a b c d e f g h i (bm5 next) (bm5 ex)
def bk4 {ρ : Type} := shut (lp (zs12 (ρ := ρ)))
theorem bom {ρ : Type} : bk4 (ρ := ρ) = lp zs12 := bq _
def bkd {ρ : Type} (f : ai9 bjl bna ρ) (l : List Int) (k : Int) (a b c : List Int) (d e : Int) (g h i j : List Int) (m : blb ρ) : Option ρ := f (l, k, a, b, c, d, e, g, h, i, j) (fun (l, k, a, b, c, d, e, g, h, i, j) => m l k a b c d e g h i j)
def ac5 {ρ : Type} := bkd (lp (zs12 (ρ := ρ)))
def aad {ρ : Type} := bkd (bk4 (ρ := ρ))
theorem afw {ρ : Type} : aad (ρ := ρ) = ac5 := congrArg bkd bom
abbrev bno (ρ : Type) := (List Int) → (List Int) → Int → (List Int) → (List Int) → Option ρ
def zq {ρ : Type} (e b : List Int) (a : Int) (c d : List Int) (nx f : bno ρ) : Option ρ := br (decide (a < 8)) (br (decide (0 ≤ a)) (br (decide (a < (↑8 : Int))) (br (decide (0 ≤ a)) (br (decide (a < (↑8 : Int))) (nx e b (IntKind.i64.wrap (a + 1)) (c.set a.toNat (IntKind.u64.wrap (b.getD a.toNat 0))) d) none) none) none) none) (f e b a c d)
abbrev bjz := (List Int) × (List Int) × Int × (List Int) × (List Int)
abbrev bnh := bjz
def bls {ρ : Type} (f : bjz → Option ρ) : bno ρ := fun e c d a b => f (e, c, d, a, b)
def bjk {ρ : Type} : ai8 bjz bnh ρ := fun (e, c, d, a, b) next ex => zq e c d a b (bls next) (bls ex)
def bnr {ρ : Type} := shut (lp (bjk (ρ := ρ)))
theorem bog {ρ : Type} : bnr (ρ := ρ) = lp bjk := bq _
def bkj {ρ : Type} (f : ai9 bjz bnh ρ) (e c : List Int) (d : Int) (a b : List Int) (g : bno ρ) : Option ρ := f (e, c, d, a, b) (fun (e, c, d, a, b) => g e c d a b)
def ace {ρ : Type} := bkj (lp (bjk (ρ := ρ)))
def zn {ρ : Type} := bkj (bnr (ρ := ρ))
theorem afh {ρ : Type} : zn (ρ := ρ) = ace := congrArg bkj bog
def zm {ρ : Type} (f e : Int) (a b c d g r : List Int) (k : (List Int) → (List Int) → Option ρ) : Option ρ := aah r g 0 f e a b c d g [0, 0, 0, 0, 0, 0, 0, 0] [0, 0, 0, 0, 0, 0, 0, 0] fun s O Q h t u v w y z i j => aad s (IntKind.i64.wrap (h * 2)) j i z h t u v w y fun l A m n o B C F G H I => zn l m 0 o n fun p J M q N => k q p
def mq {ρ : Type} := shut (zm (ρ := ρ))
theorem adg {ρ : Type} (f : Int) (e : Int) (a : List Int) (b : List Int) (c : List Int) (d : List Int) (g : List Int) (h : List Int) (k : (List Int) → (List Int) → Option ρ) : mq f e a b c d g h k = zm f e a b c d g h k := by unfold mq; rw [bq]

def ajs {ρ : Type} (k : Int → Int → (List Int) → (List Int) → (List Int) → (List Int) → Option ρ) : Option ρ := k 32 64 [7, 18, 3] [17, 19, 10] [2, 13, 22] [6, 11, 25]
def aan {ρ : Type} := shut (ajs (ρ := ρ))
theorem al9 {ρ : Type}  (k : Int → Int → (List Int) → (List Int) → (List Int) → (List Int) → Option ρ) : aan  k = ajs  k := by unfold aan; rw [bq]

def ad3 {ρ : Type} (a : Int) (k : Int → Option ρ) : Option ρ := br (decide (0 ≤ a)) (br (decide (a < (↑80 : Int))) (k (roots512.getD a.toNat 0)) none) none
def l7 {ρ : Type} := shut (ad3 (ρ := ρ))
theorem ah2 {ρ : Type} (a : Int) (k : Int → Option ρ) : l7 a k = ad3 a k := by unfold l7; rw [bq]

def qy {ρ : Type} (a g : Int) (b c d e : List Int) (h f : Int) (k : Int → Option ρ) : Option ρ := br (decide (f < 0)) none (br (decide (IntKind.i64.wrap (a - f) < 0)) none (k (bits BinOp.or IntKind.u64 (h.fdiv (2 ^ min f.toNat 64)) (IntKind.u64.wrap (h * 2 ^ min (IntKind.i64.wrap (a - f)).toNat 64)))))
def aj {ρ : Type} := shut (qy (ρ := ρ))
theorem zy {ρ : Type} (f : Int) (e : Int) (a : List Int) (b : List Int) (c : List Int) (d : List Int) (g : Int) (h : Int) (k : Int → Option ρ) : aj f e a b c d g h k = qy f e a b c d g h k := by unfold aj; rw [bq]

def p9 {ρ : Type} (f e : Int) (a b c d : List Int) (g h : Int) (k : Int → Option ρ) : Option ρ := br (decide (h = (↑0 : Int))) (aj f e a b c d g (a.getD 0 0) fun l => aj f e a b c d g (a.getD 1 0) fun m => aj f e a b c d g (a.getD 2 0) fun n => k (bits BinOp.xor IntKind.u64 (bits BinOp.xor IntKind.u64 l m) n)) (br (decide (h = (↑1 : Int))) (aj f e a b c d g (b.getD 0 0) fun o => aj f e a b c d g (b.getD 1 0) fun p => aj f e a b c d g (b.getD 2 0) fun q => k (bits BinOp.xor IntKind.u64 (bits BinOp.xor IntKind.u64 o p) q)) (br (decide (h = (↑2 : Int))) (aj f e a b c d g (c.getD 0 0) fun r => aj f e a b c d g (c.getD 1 0) fun s => aj f e a b c d g (c.getD 2 0) fun t => k (bits BinOp.xor IntKind.u64 (bits BinOp.xor IntKind.u64 r s) t)) (br (decide (h = (↑3 : Int))) (aj f e a b c d g (d.getD 0 0) fun u => aj f e a b c d g (d.getD 1 0) fun i => aj f e a b c d g (d.getD 2 0) fun j => k (bits BinOp.xor IntKind.u64 (bits BinOp.xor IntKind.u64 u i) j)) none)))
def iq {ρ : Type} := shut (p9 (ρ := ρ))
theorem wo {ρ : Type} (f : Int) (e : Int) (a : List Int) (b : List Int) (c : List Int) (d : List Int) (g : Int) (h : Int) (k : Int → Option ρ) : iq f e a b c d g h k = p9 f e a b c d g h k := by unfold iq; rw [bq]

def qo {ρ : Type} (f e : Int) (a b c d : List Int) (g h : Int) (k : Int → Option ρ) : Option ρ := br (decide (h = (↑0 : Int))) (aj f e a b c d g (a.getD 0 (0 : Int)) fun i => aj f e a b c d g (a.getD 1 (0 : Int)) fun j => br (decide (a.getD 2 (0 : Int) < (0 : Int))) none (k (bits BinOp.xor IntKind.u64 (bits BinOp.xor IntKind.u64 i j) (g.fdiv ((2 : Int) ^ min (a.getD 2 (0 : Int)).toNat 64))))) (br (decide (h = (↑1 : Int))) (aj f e a b c d g (b.getD 0 (0 : Int)) fun l => aj f e a b c d g (b.getD 1 (0 : Int)) fun m => br (decide (b.getD 2 (0 : Int) < (0 : Int))) none (k (bits BinOp.xor IntKind.u64 (bits BinOp.xor IntKind.u64 l m) (g.fdiv ((2 : Int) ^ min (b.getD 2 (0 : Int)).toNat 64))))) (br (decide (h = (↑2 : Int))) (aj f e a b c d g (c.getD 0 (0 : Int)) fun n => aj f e a b c d g (c.getD 1 (0 : Int)) fun o => br (decide (c.getD 2 (0 : Int) < (0 : Int))) none (k (bits BinOp.xor IntKind.u64 (bits BinOp.xor IntKind.u64 n o) (g.fdiv ((2 : Int) ^ min (c.getD 2 (0 : Int)).toNat 64))))) (br (decide (h = (↑3 : Int))) (aj f e a b c d g (d.getD 0 (0 : Int)) fun p => aj f e a b c d g (d.getD 1 (0 : Int)) fun q => br (decide (d.getD 2 (0 : Int) < (0 : Int))) none (k (bits BinOp.xor IntKind.u64 (bits BinOp.xor IntKind.u64 p q) (g.fdiv ((2 : Int) ^ min (d.getD 2 (0 : Int)).toNat 64))))) none)))
def jc {ρ : Type} := shut (qo (ρ := ρ))
theorem yh {ρ : Type} (f : Int) (e : Int) (a : List Int) (b : List Int) (c : List Int) (d : List Int) (g : Int) (h : Int) (k : Int → Option ρ) : jc f e a b c d g h k = qo f e a b c d g h k := by unfold jc; rw [bq]

abbrev bnj (ρ : Type) := (List Int) → Int → Int → Int → Int → (List Int) → (List Int) → (List Int) → (List Int) → (List Int) → (List Int) → (List Int) → Option ρ
def uy {ρ : Type} (l : List Int) (b a c d : Int) (e f g h i j k : List Int) (nx m : bnj ρ) : Option ρ := br (decide (a < 16)) (br (decide (0 ≤ IntKind.i64.wrap (a * b))) (br (decide (IntKind.i64.wrap (a * b) ≤ IntKind.i64.wrap (IntKind.i64.wrap (a + 1) * b))) (br (decide (IntKind.i64.wrap (IntKind.i64.wrap (a + 1) * b) ≤ (↑l.length : Int))) (jl (List.drop (IntKind.i64.wrap (a * b)).toNat (List.take (IntKind.i64.wrap (IntKind.i64.wrap (a + 1) * b)).toNat l)) fun n => br (decide (0 ≤ a)) (br (decide (a < (↑16 : Int))) (nx l b (IntKind.i64.wrap (a + 1)) c d e f g h i j (k.set a.toNat n)) none) none) none) none) none) (m l b a c d e f g h i j k)
abbrev bh3 := (List Int) × Int × Int × Int × Int × (List Int) × (List Int) × (List Int) × (List Int) × (List Int) × (List Int) × (List Int)
abbrev bng := bh3
def bm7 {ρ : Type} (f : bh3 → Option ρ) : bnj ρ := fun l m k a b c d e g h i j => f (l, m, k, a, b, c, d, e, g, h, i, j)
def bi9 {ρ : Type} : ai8 bh3 bng ρ := fun (k, l, j, a, b, c, d, e, f, g, h, i) next ex => uy k l j a b c d e f g h i (bm7 next) (bm7 ex)
def bnk {ρ : Type} := shut (lp (bi9 (ρ := ρ)))
theorem bn4 {ρ : Type} : bnk (ρ := ρ) = lp bi9 := bq _
def bj9 {ρ : Type} (f : ai9 bh3 bng ρ) (l : List Int) (m k a b : Int) (c d e g h i j : List Int) (n : bnj ρ) : Option ρ := f (l, m, k, a, b, c, d, e, g, h, i, j) (fun (l, m, k, a, b, c, d, e, g, h, i, j) => n l m k a b c d e g h i j)
def aa6 {ρ : Type} := bj9 (lp (bi9 (ρ := ρ)))
def u6 {ρ : Type} := bj9 (bnk (ρ := ρ))
theorem adi {ρ : Type} : u6 (ρ := ρ) = aa6 := congrArg bj9 bn4
abbrev bm6 (ρ : Type) := Int → Int → (List Int) → (List Int) → (List Int) → Int → Int → (List Int) → (List Int) → (List Int) → (List Int) → (List Int) → Option ρ
def ug {ρ : Type} (j b : Int) (c k l : List Int) (d e : Int) (f g h i a : List Int) (nx o : bm6 ρ) : Option ρ := br (decide (b < j)) (br (decide (0 ≤ b.tmod 16)) (br (decide (b.tmod 16 < (↑16 : Int))) (iq d e f g h i (a.getD 4 0) 3 fun m => l7 b fun n => iq d e f g h i (a.getD 0 0) 2 fun p => br (decide (0 ≤ (IntKind.i64.wrap (b + 1)).tmod 16)) (br (decide ((IntKind.i64.wrap (b + 1)).tmod 16 < (↑16 : Int))) (jc d e f g h i (c.getD ((IntKind.i64.wrap (b + 1)).tmod 16).toNat 0) 0 fun q => br (decide (0 ≤ (IntKind.i64.wrap (b + 9)).tmod 16)) (br (decide ((IntKind.i64.wrap (b + 9)).tmod 16 < (↑16 : Int))) (br (decide (0 ≤ (IntKind.i64.wrap (b + 14)).tmod 16)) (br (decide ((IntKind.i64.wrap (b + 14)).tmod 16 < (↑16 : Int))) (jc d e f g h i (c.getD ((IntKind.i64.wrap (b + 14)).tmod 16).toNat 0) 1 fun r => br (decide (0 ≤ b.tmod 16)) (br (decide (b.tmod 16 < (↑16 : Int))) (nx j (IntKind.i64.wrap (b + 1)) (c.set (b.tmod 16).toNat (IntKind.u64.wrap (IntKind.u64.wrap (IntKind.u64.wrap (c.getD (b.tmod 16).toNat 0 + q) + c.getD ((IntKind.i64.wrap (b + 9)).tmod 16).toNat 0) + r))) k l d e f g h i ((((List.take 1 a).append (List.take 7 (List.take 7 (List.drop 0 a)) ++ List.drop (1 + min 7 (List.take 7 (List.drop 0 a)).length) a)).set 4 (IntKind.u64.wrap (((List.take 1 a).append (List.take 7 (List.take 7 (List.drop 0 a)) ++ List.drop (1 + min 7 (List.take 7 (List.drop 0 a)).length) a)).getD 4 0 + IntKind.u64.wrap (IntKind.u64.wrap (IntKind.u64.wrap (IntKind.u64.wrap (a.getD 7 0 + m) + bits BinOp.xor IntKind.u64 (a.getD 6 0) (bits BinOp.and IntKind.u64 (a.getD 4 0) (bits BinOp.xor IntKind.u64 (a.getD 5 0) (a.getD 6 0)))) + n) + c.getD (b.tmod 16).toNat 0)))).set 0 (IntKind.u64.wrap (IntKind.u64.wrap (IntKind.u64.wrap (IntKind.u64.wrap (IntKind.u64.wrap (a.getD 7 0 + m) + bits BinOp.xor IntKind.u64 (a.getD 6 0) (bits BinOp.and IntKind.u64 (a.getD 4 0) (bits BinOp.xor IntKind.u64 (a.getD 5 0) (a.getD 6 0)))) + n) + c.getD (b.tmod 16).toNat 0) + IntKind.u64.wrap (p + bits BinOp.or IntKind.u64 (bits BinOp.and IntKind.u64 (a.getD 0 0) (a.getD 1 0)) (bits BinOp.and IntKind.u64 (a.getD 2 0) (bits BinOp.or IntKind.u64 (a.getD 0 0) (a.getD 1 0)))))))) none) none) none) none) none) none) none) none) none) none) (o j b c k l d e f g h i a)
abbrev bh6 := Int × Int × (List Int) × (List Int) × (List Int) × Int × Int × (List Int) × (List Int) × (List Int) × (List Int) × (List Int)
abbrev blj := bh6
def bnw {ρ : Type} (f : bh6 → Option ρ) : bm6 ρ := fun l m a b c d e g h i j k => f (l, m, a, b, c, d, e, g, h, i, j, k)
def bjt {ρ : Type} : ai8 bh6 blj ρ := fun (k, l, a, b, c, d, e, f, g, h, i, j) next ex => ug k l a b c d e f g h i j (bnw next) (bnw ex)
def bm8 {ρ : Type} := shut (lp (bjt (ρ := ρ)))
theorem bob {ρ : Type} : bm8 (ρ := ρ) = lp bjt := bq _
def bki {ρ : Type} (f : ai9 bh6 blj ρ) (l m : Int) (a b c : List Int) (d e : Int) (g h i j k : List Int) (n : bm6 ρ) : Option ρ := f (l, m, a, b, c, d, e, g, h, i, j, k) (fun (l, m, a, b, c, d, e, g, h, i, j, k) => n l m a b c d e g h i j k)
def aam {ρ : Type} := bki (lp (bjt (ρ := ρ)))
def ow {ρ : Type} := bki (bm8 (ρ := ρ))
theorem ac6 {ρ : Type} : ow (ρ := ρ) = aam := congrArg bki bob
abbrev bnc (ρ : Type) := Int → (List Int) → (List Int) → (List Int) → Option ρ
def uq {ρ : Type} (a : Int) (b d c : List Int) (nx e : bnc ρ) : Option ρ := br (decide (a < 8)) (br (decide (0 ≤ a)) (br (decide (a < (↑8 : Int))) (br (decide (0 ≤ a)) (br (decide (a < (↑8 : Int))) (br (decide (0 ≤ a)) (br (decide (a < (↑8 : Int))) (nx (IntKind.i64.wrap (a + 1)) b d (c.set a.toNat (IntKind.u64.wrap (c.getD a.toNat 0 + b.getD a.toNat 0)))) none) none) none) none) none) none) (e a b d c)
abbrev bh0 := Int × (List Int) × (List Int) × (List Int)
abbrev blx := bh0
def bky {ρ : Type} (f : bh0 → Option ρ) : bnc ρ := fun a b c d => f (a, b, c, d)
def bjm {ρ : Type} : ai8 bh0 blx ρ := fun (a, b, c, d) next ex => uq a b c d (bky next) (bky ex)
def bmk {ρ : Type} := shut (lp (bjm (ρ := ρ)))
theorem bod {ρ : Type} : bmk (ρ := ρ) = lp bjm := bq _
def bkv {ρ : Type} (f : ai9 bh0 blx ρ) (a : Int) (b c d : List Int) (e : bnc ρ) : Option ρ := f (a, b, c, d) (fun (a, b, c, d) => e a b c d)
def aai {ρ : Type} := bkv (lp (bjm (ρ := ρ)))
def oo {ρ : Type} := bkv (bmk (ρ := ρ))
theorem ada {ρ : Type} : oo (ρ := ρ) = aai := congrArg bkv bod
def tq {ρ : Type} (a f : Int) (b c d e p q : List Int) (k : (List Int) → Option ρ) : Option ρ := u6 q (IntKind.i64.wrap (a.tdiv 8)) 0 a f b c d e p [0, 0, 0, 0, 0, 0, 0, 0] [0, 0, 0, 0, 0, 0, 0, 0, 0, 0, 0, 0, 0, 0, 0, 0] fun N O Q r g s t u v h i j => ow g 0 j i h r g s t u v h fun w y z l m A B C F G H n => oo 0 m l n fun I J M o => k o
def jm {ρ : Type} := shut (tq (ρ := ρ))
theorem aa3 {ρ : Type} (f : Int) (e : Int) (a : List Int) (b : List Int) (c : List Int) (d : List Int) (g : List Int) (h : List Int) (k : (List Int) → Option ρ) : jm f e a b c d g h k = tq f e a b c d g h k := by unfold jm; rw [bq]

abbrev bkz (ρ : Type) := (List Int) → (List Int) → Int → Int → Int → (List Int) → (List Int) → (List Int) → (List Int) → (List Int) → (List Int) → (List Int) → Option ρ
def aaj {ρ : Type} (l b : List Int) (a c d : Int) (e f g h i j k : List Int) (nx m : bkz ρ) : Option ρ := br (decide (a < 8)) (br (decide (0 ≤ a)) (br (decide (a < (↑8 : Int))) (br (decide (0 ≤ a)) (br (decide (a < (↑8 : Int))) (nx l b (IntKind.i64.wrap (a + 1)) c d e f g h i j (k.set a.toNat (b.getD a.toNat 0))) none) none) none) none) (m l b a c d e f g h i j k)
abbrev bio := (List Int) × (List Int) × Int × Int × Int × (List Int) × (List Int) × (List Int) × (List Int) × (List Int) × (List Int) × (List Int)
abbrev bm9 := bio
def bl0 {ρ : Type} (f : bio → Option ρ) : bkz ρ := fun m k l a b c d e g h i j => f (m, k, l, a, b, c, d, e, g, h, i, j)
def bhw {ρ : Type} : ai8 bio bm9 ρ := fun (l, j, k, a, b, c, d, e, f, g, h, i) next ex => aaj l j k a b c d e f g h i (bl0 next) (bl0 ex)
def blr {ρ : Type} := shut (lp (bhw (ρ := ρ)))
theorem bn9 {ρ : Type} : blr (ρ := ρ) = lp bhw := bq _
def bka {ρ : Type} (f : ai9 bio bm9 ρ) (m k : List Int) (l a b : Int) (c d e g h i j : List Int) (n : bkz ρ) : Option ρ := f (m, k, l, a, b, c, d, e, g, h, i, j) (fun (m, k, l, a, b, c, d, e, g, h, i, j) => n m k l a b c d e g h i j)
def ade {ρ : Type} := bka (lp (bhw (ρ := ρ)))
def aaw {ρ : Type} := bka (blr (ρ := ρ))
theorem afx {ρ : Type} : aaw (ρ := ρ) = ade := congrArg bka bn9
abbrev bmj (ρ : Type) := (List Int) → Int → (List Int) → (List Int) → (List Int) → Int → Int → (List Int) → (List Int) → (List Int) → (List Int) → Option ρ
def aao {ρ : Type} (b : List Int) (a : Int) (i j k : List Int) (c d : Int) (e f g h : List Int) (nx l : bmj ρ) : Option ρ := br (decide ((↑b.length : Int) ≥ a)) (br (decide (0 ≤ a)) (br (decide (a ≤ (↑b.length : Int))) (jm c d e f g h i (List.drop 0 (List.take a.toNat b)) fun m => br (decide (0 ≤ a)) (br (decide (a ≤ (↑b.length : Int))) (br (decide ((↑b.length : Int) ≤ (↑b.length : Int))) (nx (List.drop a.toNat (List.take (↑b.length : Int).toNat b)) a m j k c d e f g h) none) none) none) none) none) (l b a i j k c d e f g h)
abbrev bjv := (List Int) × Int × (List Int) × (List Int) × (List Int) × Int × Int × (List Int) × (List Int) × (List Int) × (List Int)
abbrev bma := bjv
def bk6 {ρ : Type} (f : bjv → Option ρ) : bmj ρ := fun l k a b c d e g h i j => f (l, k, a, b, c, d, e, g, h, i, j)
def bja {ρ : Type} : ai8 bjv bma ρ := fun (k, j, a, b, c, d, e, f, g, h, i) next ex => aao k j a b c d e f g h i (bk6 next) (bk6 ex)
def bmi {ρ : Type} := shut (lp (bja (ρ := ρ)))
theorem boq {ρ : Type} : bmi (ρ := ρ) = lp bja := bq _
def bkm {ρ : Type} (f : ai9 bjv bma ρ) (l : List Int) (k : Int) (a b c : List Int) (d e : Int) (g h i j : List Int) (m : bmj ρ) : Option ρ := f (l, k, a, b, c, d, e, g, h, i, j) (fun (l, k, a, b, c, d, e, g, h, i, j) => m l k a b c d e g h i j)
def ac4 {ρ : Type} := bkm (lp (bja (ρ := ρ)))
def aak {ρ : Type} := bkm (bmi (ρ := ρ))
theorem afr {ρ : Type} : aak (ρ := ρ) = ac4 := congrArg bkm boq
abbrev bkw (ρ : Type) := (List Int) → (List Int) → Int → (List Int) → (List Int) → Option ρ
def zw {ρ : Type} (e b : List Int) (a : Int) (c d : List Int) (nx f : bkw ρ) : Option ρ := br (decide (a < 8)) (br (decide (0 ≤ a)) (br (decide (a < (↑8 : Int))) (br (decide (0 ≤ a)) (br (decide (a < (↑8 : Int))) (nx e b (IntKind.i64.wrap (a + 1)) (c.set a.toNat (b.getD a.toNat 0)) d) none) none) none) none) (f e b a c d)
abbrev bjo := (List Int) × (List Int) × Int × (List Int) × (List Int)
abbrev blq := bjo
def bl7 {ρ : Type} (f : bjo → Option ρ) : bkw ρ := fun e c d a b => f (e, c, d, a, b)
def bhq {ρ : Type} : ai8 bjo blq ρ := fun (e, c, d, a, b) next ex => zw e c d a b (bl7 next) (bl7 ex)
def bnq {ρ : Type} := shut (lp (bhq (ρ := ρ)))
theorem bon {ρ : Type} : bnq (ρ := ρ) = lp bhq := bq _
def bkl {ρ : Type} (f : ai9 bjo blq ρ) (e c : List Int) (d : Int) (a b : List Int) (g : bkw ρ) : Option ρ := f (e, c, d, a, b) (fun (e, c, d, a, b) => g e c d a b)
def ab9 {ρ : Type} := bkl (lp (bhq (ρ := ρ)))
def zk {ρ : Type} := bkl (bnq (ρ := ρ))
theorem afc {ρ : Type} : zk (ρ := ρ) = ab9 := congrArg bkl bon
def zu {ρ : Type} (f e : Int) (a b c d g r : List Int) (k : (List Int) → (List Int) → Option ρ) : Option ρ := aaw r g 0 f e a b c d g [0, 0, 0, 0, 0, 0, 0, 0] [0, 0, 0, 0, 0, 0, 0, 0] fun s O Q h t u v w y z i j => aak s (IntKind.i64.wrap (h * 2)) j i z h t u v w y fun l A m n o B C F G H I => zk l m 0 o n fun p J M q N => k q p
def mh {ρ : Type} := shut (zu (ρ := ρ))
theorem adf {ρ : Type} (f : Int) (e : Int) (a : List Int) (b : List Int) (c : List Int) (d : List Int) (g : List Int) (h : List Int) (k : (List Int) → (List Int) → Option ρ) : mh f e a b c d g h k = zu f e a b c d g h k := by unfold mh; rw [bq]

def ajn {ρ : Type} (k : Int → Int → (List Int) → (List Int) → (List Int) → (List Int) → Option ρ) : Option ρ := k 64 80 [1, 8, 7] [19, 61, 6] [28, 34, 39] [14, 18, 41]
def aas {ρ : Type} := shut (ajn (ρ := ρ))
theorem al6 {ρ : Type}  (k : Int → Int → (List Int) → (List Int) → (List Int) → (List Int) → Option ρ) : aas  k = ajn  k := by unfold aas; rw [bq]

def l9 {ρ : Type} (a : List Int) (k : (List Int) → Option ρ) : Option ρ := br (decide (a.length * 1 ≤ 140737488355328)) (k a) none

def ain {ρ : Type} (a : Int) (b d : List Int) (c : Int) (e : List Int) (k : Int → (List Int) → (List Int) → Int → Option ρ) : Option ρ := gu [d, e] fun f => br (a == 1) (aan fun q r s t u v => mq q r s t u v b f fun w y => l9 y fun z => k a w z (IntKind.u64.wrap (c + IntKind.u64.wrap (↑e.length : Int)))) (aas fun g h i j l m => mh g h i j l m b f fun n o => l9 o fun p => k a n p (IntKind.u64.wrap (c + IntKind.u64.wrap (↑e.length : Int))))
def uf {ρ : Type} := shut (ain (ρ := ρ))
theorem aps {ρ : Type} (b : Int) (a : List Int) (c : List Int) (d : Int) (e : List Int) (k : Int → (List Int) → (List Int) → Int → Option ρ) : uf b a c d e k = ain b a c d e k := by unfold uf; rw [bq]

def acg {ρ : Type} (a : Int) (k : Int → Option ρ) : Option ρ := br (a == 1) (k 64) (k 128)
def oq {ρ : Type} := shut (acg (ρ := ρ))
theorem agm {ρ : Type} (a : Int) (k : Int → Option ρ) : oq a k = acg a k := by unfold oq; rw [bq]

abbrev bll (ρ : Type) := Int → (List Int) → Int → (List Int) → Int → (List Int) → Int → (List Int) → Option ρ
def aie {ρ : Type} (g : Int) (b : List Int) (a : Int) (c : List Int) (d : Int) (e : List Int) (f : Int) (h : List Int) (nx j : bll ρ) : Option ρ := br (decide (a < 8)) (br (decide (0 ≤ a)) (br (decide (a < (↑8 : Int))) (jg (b.getD a.toNat 0) (IntKind.i64.wrap (g.tdiv 16)) fun i => br (decide ((c.length + i.length) * 1 ≤ 140737488355328)) (nx g b (IntKind.i64.wrap (a + 1)) (c ++ i) d e f h) none) none) none) (j g b a c d e f h)
abbrev bjq := Int × (List Int) × Int × (List Int) × Int × (List Int) × Int × (List Int)
abbrev blw := bjq
def bnu {ρ : Type} (f : bjq → Option ρ) : bll ρ := fun h d e g a b c i => f (h, d, e, g, a, b, c, i)
def bic {ρ : Type} : ai8 bjq blw ρ := fun (g, d, e, f, a, b, c, h) next ex => aie g d e f a b c h (bnu next) (bnu ex)
def bk5 {ρ : Type} := shut (lp (bic (ρ := ρ)))
theorem bn2 {ρ : Type} : bk5 (ρ := ρ) = lp bic := bq _
def bj8 {ρ : Type} (f : ai9 bjq blw ρ) (h : Int) (d : List Int) (e : Int) (g : List Int) (a : Int) (b : List Int) (c : Int) (i : List Int) (j : bll ρ) : Option ρ := f (h, d, e, g, a, b, c, i) (fun (h, d, e, g, a, b, c, i) => j h d e g a b c i)
def an9 {ρ : Type} := bj8 (lp (bic (ρ := ρ)))
def aiz {ρ : Type} := bj8 (bk5 (ρ := ρ))
theorem ao3 {ρ : Type} : aiz (ρ := ρ) = an9 := congrArg bj8 bn2
def ai0 {ρ : Type} (c : Int) (e a : List Int) (d : Int) (k : (List Int) → Option ρ) : Option ρ := oq c fun b => br (decide (1 ≤ b)) (br (decide (b * (↑1 : Int) ≤ (↑140737488355328 : Int))) (br (decide (b = 0)) none (br (decide (0 ≤ IntKind.i64.wrap (IntKind.i64.wrap ((IntKind.i64.wrap (IntKind.i64.wrap (IntKind.i64.wrap (IntKind.i64.wrap (2 * b) - 1) - IntKind.i64.wrap (b.tdiv 8)) - (↑a.length : Int))).tmod b + IntKind.i64.wrap (b.tdiv 8)) - 8))) (br (decide ((1 + (IntKind.i64.wrap (IntKind.i64.wrap ((IntKind.i64.wrap (IntKind.i64.wrap (IntKind.i64.wrap (IntKind.i64.wrap (2 * b) - 1) - IntKind.i64.wrap (b.tdiv 8)) - (↑a.length : Int))).tmod b + IntKind.i64.wrap (b.tdiv 8)) - 8)).toNat) * 1 ≤ 140737488355328)) (jg (IntKind.u64.wrap (d * 2 ^ 3)) 8 fun g => br (decide ((((List.replicate (IntKind.i64.wrap (IntKind.i64.wrap ((IntKind.i64.wrap (IntKind.i64.wrap (IntKind.i64.wrap (IntKind.i64.wrap (2 * b) - 1) - IntKind.i64.wrap (b.tdiv 8)) - (↑a.length : Int))).tmod b + IntKind.i64.wrap (b.tdiv 8)) - 8)).toNat (0 : Int)).length.add 0).succ + g.length) * 1 ≤ 140737488355328)) (uf c e a d ((List.replicate 1 (0 : Int)).set 0 128 ++ List.replicate (IntKind.i64.wrap (IntKind.i64.wrap ((IntKind.i64.wrap (IntKind.i64.wrap (IntKind.i64.wrap (IntKind.i64.wrap (2 * b) - 1) - IntKind.i64.wrap (b.tdiv 8)) - (↑a.length : Int))).tmod b + IntKind.i64.wrap (b.tdiv 8)) - 8)).toNat (0 : Int) ++ g) fun j h l m => aiz b h 0 [] j h m l fun q r s f i n o p => br (i == 2) (br (decide (48 ≤ (↑f.length : Int))) (k (List.take ((48 : Int) - (0 : Int)).toNat f)) none) (k f)) none) none) none)) none) none
def abo {ρ : Type} := shut (ai0 (ρ := ρ))
theorem aqt {ρ : Type} (b : Int) (a : List Int) (c : List Int) (d : Int) (k : (List Int) → Option ρ) : abo b a c d k = ai0 b a c d k := by unfold abo; rw [bq]

def aik {ρ : Type} (i : List Int) (j l : Int) (m : List (List Int)) (k : (List Int) → Option ρ) : Option ρ := abj 1 fun n o p q w => jg j 4 fun r => jg l 2 fun s => d9 [i, r, s] fun t => uf n o p q t fun u v a b => d9 m fun c => uf u v a b c fun d e f g => abo d e f g fun h => k h
def qg {ρ : Type} := shut (aik (ρ := ρ))
theorem aqr {ρ : Type} (a : List Int) (b : Int) (c : Int) (d : List (List Int)) (k : (List Int) → Option ρ) : qg a b c d k = aik a b c d k := by unfold qg; rw [bq]

def ab0 {ρ : Type} (o : Int) (d : List Int) (e a b c p : Int) (q : List (List Int)) (k : (List Int) → Option ρ) : Option ρ := abj 1 fun r s t u B => jg (IntKind.u64.wrap e) 4 fun v => jg p 2 fun w => d9 [d, v, w] fun y => uf r s t u y fun z A f g => d9 q fun h => uf z A f g h fun i j l m => abo i j l m fun n => k n
def gq {ρ : Type} := shut (ab0 (ρ := ρ))
theorem afq {ρ : Type} (e : Int) (d : List Int) (f : Int) (a : Int) (b : Int) (c : Int) (g : Int) (h : List (List Int)) (k : (List Int) → Option ρ) : gq e d f a b c g h k = ab0 e d f a b c g h k := by unfold gq; rw [bq]

def akk {ρ : Type} (c : List Int) (a b : Int) (k : Bool → Option ρ) : Option ρ := br (decide (a ≥ 1)) (br (decide (a ≤ 24)) (br (decide (b ≥ 0)) (br (decide (a = 0)) none (k (decide (b ≤ IntKind.i64.wrap ((IntKind.i64.wrap ((↑c.length : Int) * 8)).tdiv a))))) (k false)) (k false)) (k false)
def aaf {ρ : Type} := shut (akk (ρ := ρ))
theorem alz {ρ : Type} (a : List Int) (b : Int) (c : Int) (k : Bool → Option ρ) : aaf a b c k = akk a b c k := by unfold aaf; rw [bq]

abbrev bmf (ρ : Type) := (List Int) → Int → Int → Int → Int → Int → Int → (List Int) → Option ρ
def afn {ρ : Type} (a : List Int) (e g f b c d : Int) (h : List Int) (nx i : bmf ρ) : Option ρ := br (decide (f < e)) (br (decide (0 < (↑a.length : Int))) (br (decide (1 ≤ (↑a.length : Int))) (br (decide ((↑a.length : Int) ≤ (↑a.length : Int))) (nx (List.drop 1 (List.take (↑a.length : Int).toNat a)) e (bits BinOp.or IntKind.u64 (IntKind.u64.wrap (g * 2 ^ 8)) (IntKind.u64.wrap (a.getD 0 0))) (IntKind.i64.wrap (f + 8)) b c d h) none) none) none) (i a e g f b c d h)
abbrev bh4 := (List Int) × Int × Int × Int × Int × Int × Int × (List Int)
abbrev bmx := bh4
def bmq {ρ : Type} (f : bh4 → Option ρ) : bmf ρ := fun d e g h a b c i => f (d, e, g, h, a, b, c, i)
def bji {ρ : Type} : ai8 bh4 bmx ρ := fun (d, e, f, g, a, b, c, h) next ex => afn d e f g a b c h (bmq next) (bmq ex)
def bly {ρ : Type} := shut (lp (bji (ρ := ρ)))
theorem bn6 {ρ : Type} : bly (ρ := ρ) = lp bji := bq _
def bkb {ρ : Type} (f : ai9 bh4 bmx ρ) (d : List Int) (e g h a b c : Int) (i : List Int) (j : bmf ρ) : Option ρ := f (d, e, g, h, a, b, c, i) (fun (d, e, g, h, a, b, c, i) => j d e g h a b c i)
def ah9 {ρ : Type} := bkb (lp (bji (ρ := ρ)))
def ah8 {ρ : Type} := bkb (bly (ρ := ρ))
theorem ala {ρ : Type} : ah8 (ρ := ρ) = ah9 := congrArg bkb bn6
abbrev bnv (ρ : Type) := (List Int) → Int → Int → Int → Int → Int → (List Int) → Option ρ
def afl {ρ : Type} (f : List Int) (g h i c a : Int) (j : List Int) (nx m : bnv ρ) : Option ρ := br (decide (a < c)) (ah8 f g h i a c a j fun n b k d e o p l => br (decide (IntKind.i64.wrap (d - b) < 0)) none (br (decide (b < 0)) none (br (decide (0 ≤ e)) (br (decide (e < (↑l.length : Int))) (nx n b k (IntKind.i64.wrap (d - b)) o (IntKind.i64.wrap (p + 1)) (l.set e.toNat (IntKind.u32.wrap (bits BinOp.and IntKind.u64 (k.fdiv (2 ^ min (IntKind.i64.wrap (d - b)).toNat 64)) (IntKind.u64.wrap (IntKind.u64.wrap (1 * 2 ^ min b.toNat 64) - 1)))))) none) none))) (m f g h i c a j)
abbrev bi1 := (List Int) × Int × Int × Int × Int × Int × (List Int)
abbrev bl8 := bi1
def bml {ρ : Type} (f : bi1 → Option ρ) : bnv ρ := fun c d e g a b h => f (c, d, e, g, a, b, h)
def bi8 {ρ : Type} : ai8 bi1 bl8 ρ := fun (c, d, e, f, a, b, g) next ex => afl c d e f a b g (bml next) (bml ex)
def bmd {ρ : Type} := shut (lp (bi8 (ρ := ρ)))
theorem bov {ρ : Type} : bmd (ρ := ρ) = lp bi8 := bq _
def bks {ρ : Type} (f : ai9 bi1 bl8 ρ) (c : List Int) (d e g a b : Int) (h : List Int) (i : bnv ρ) : Option ρ := f (c, d, e, g, a, b, h) (fun (c, d, e, g, a, b, h) => i c d e g a b h)
def ah0 {ρ : Type} := bks (lp (bi8 (ρ := ρ)))
def ah7 {ρ : Type} := bks (bmd (ρ := ρ))
theorem alc {ρ : Type} : ah7 (ρ := ρ) = ah0 := congrArg bks bov
def ad4 {ρ : Type} (b : List Int) (c a : Int) (k : (List Int) → Option ρ) : Option ρ := aaf b c a fun d => br (!d) (k []) (br (decide (0 ≤ a)) (br (decide (a ≤ a)) (br (decide (a * (↑4 : Int) ≤ (↑140737488355328 : Int))) (ah7 b c 0 0 (↑(List.replicate a.toNat (0 : Int)).length : Int) 0 (List.replicate a.toNat (0 : Int)) fun f g h i j l e => k e) none) none) none)
def qd {ρ : Type} := shut (ad4 (ρ := ρ))
theorem ah1 {ρ : Type} (a : List Int) (b : Int) (c : Int) (k : (List Int) → Option ρ) : qd a b c k = ad4 a b c k := by unfold qd; rw [bq]

abbrev bl4 (ρ : Type) := Int → Int → Int → Int → Int → Int → Int → (List Int) → Option ρ
def ad6 {ρ : Type} (g h b a c d e : Int) (f : List Int) (nx i : bl4 ρ) : Option ρ := br (decide (a < b)) (br (decide (0 ≤ a)) (br (decide (a < (↑f.length : Int))) (nx g (IntKind.u64.wrap (h - IntKind.u64.wrap (f.getD a.toNat 0))) b (IntKind.i64.wrap (a + 1)) c d e f) none) none) (i g h b a c d e f)
abbrev bik := Int × Int × Int × Int × Int × Int × Int × (List Int)
abbrev bmc := bik
def blo {ρ : Type} (f : bik → Option ρ) : bl4 ρ := fun g h d e a b c i => f (g, h, d, e, a, b, c, i)
def bi2 {ρ : Type} : ai8 bik bmc ρ := fun (f, g, d, e, a, b, c, h) next ex => ad6 f g d e a b c h (blo next) (blo ex)
def bmw {ρ : Type} := shut (lp (bi2 (ρ := ρ)))
theorem bn7 {ρ : Type} : bmw (ρ := ρ) = lp bi2 := bq _
def bku {ρ : Type} (f : ai9 bik bmc ρ) (g h d e a b c : Int) (i : List Int) (j : bl4 ρ) : Option ρ := f (g, h, d, e, a, b, c, i) (fun (g, h, d, e, a, b, c, i) => j g h d e a b c i)
def ag5 {ρ : Type} := bku (lp (bi2 (ρ := ρ)))
def agu {ρ : Type} := bku (bmw (ρ := ρ))
theorem akg {ρ : Type} : agu (ρ := ρ) = ag5 := congrArg bku bn7
def adn {ρ : Type} (a : Int) (f : List Int) (k : (List Int) → Int → Option ρ) : Option ρ := lu a fun h i j l => br (!l) (k [] 9) (br ((↑f.length : Int) != 32) (k [] 14) (br (decide (a = 0)) none (qd f a (IntKind.i64.wrap (Int.tdiv 256 a)) fun e => br (decide (a < 0)) none (agu a (IntKind.u64.wrap (IntKind.u64.wrap (↑e.length : Int) * IntKind.u64.wrap (IntKind.u64.wrap (1 * 2 ^ min a.toNat 64) - 1))) (↑e.length : Int) 0 h i j e fun m n q r o c p b => br (decide (c < 0)) none (jg (IntKind.u64.wrap (n * 2 ^ min c.toNat 64)) 2 fun g => qd g m (IntKind.i64.wrap (o - (↑b.length : Int))) fun d => br (decide ((b.length + d.length) * 4 ≤ 140737488355328)) (k (b ++ d) 0) none)))))
def vk {ρ : Type} := shut (adn (ρ := ρ))
theorem ag9 {ρ : Type} (a : Int) (b : List Int) (k : (List Int) → Int → Option ρ) : vk a b k = adn a b k := by unfold vk; rw [bq]

def yw {ρ : Type} (d : Int) (e : List Int) (f a b c : Int) (g h : List Int) (k : (List Int) → Option ρ) : Option ρ := gq d e f a b c 33153 [g, h] fun i => vk d i fun j l => k j
def jh {ρ : Type} := shut (yw (ρ := ρ))
theorem acd {ρ : Type} (e : Int) (d : List Int) (f : Int) (a : Int) (b : Int) (c : Int) (g : List Int) (h : List Int) (k : (List Int) → Option ρ) : jh e d f a b c g h k = yw e d f a b c g h k := by unfold jh; rw [bq]

abbrev bli (ρ : Type) := Int → Int → (List Int) → Int → Int → Int → (List Int) → Int → Int → Int → Int → Option ρ
def abn {ρ : Type} (i j : Int) (k : List Int) (h g a : Int) (b : List Int) (c d e f : Int) (nx l : bli ρ) : Option ρ := br (decide (g < h)) (gq a b c d e f (IntKind.u64.wrap i) [[IntKind.u8.wrap (IntKind.u32.wrap (j + g))], k] fun m => nx i j m h (IntKind.u32.wrap (g + 1)) a b c d e f) (l i j k h g a b c d e f)
abbrev bh9 := Int × Int × (List Int) × Int × Int × Int × (List Int) × Int × Int × Int × Int
abbrev bnn := bh9
def bmt {ρ : Type} (f : bh9 → Option ρ) : bli ρ := fun j k l h i a b c d e g => f (j, k, l, h, i, a, b, c, d, e, g)
def bjc {ρ : Type} : ai8 bh9 bnn ρ := fun (i, j, k, g, h, a, b, c, d, e, f) next ex => abn i j k g h a b c d e f (bmt next) (bmt ex)
def bm3 {ρ : Type} := shut (lp (bjc (ρ := ρ)))
theorem bof {ρ : Type} : bm3 (ρ := ρ) = lp bjc := bq _
def bj3 {ρ : Type} (f : ai9 bh9 bnn ρ) (j k : Int) (l : List Int) (h i a : Int) (b : List Int) (c d e g : Int) (m : bli ρ) : Option ρ := f (j, k, l, h, i, a, b, c, d, e, g) (fun (j, k, l, h, i, a, b, c, d, e, g) => m j k l h i a b c d e g)
def aee {ρ : Type} := bj3 (lp (bjc (ρ := ρ)))
def aeo {ρ : Type} := bj3 (bm3 (ρ := ρ))
theorem agq {ρ : Type} : aeo (ρ := ρ) = aee := congrArg bj3 bof
def aa8 {ρ : Type} (e : Int) (d : List Int) (f a b c g h i : Int) (j : List Int) (k : (List Int) → Option ρ) : Option ρ := aeo g h j i 0 e d f a b c fun n o l p q r s t u v m => k l
def ji {ρ : Type} := shut (aa8 (ρ := ρ))
theorem aek {ρ : Type} (e : Int) (d : List Int) (f : Int) (a : Int) (b : Int) (c : Int) (g : Int) (h : Int) (i : Int) (j : List Int) (k : (List Int) → Option ρ) : ji e d f a b c g h i j k = aa8 e d f a b c g h i j k := by unfold ji; rw [bq]

def ads {ρ : Type} (c : Int) (e : List Int) (f a b d : Int) (k : Int → Option ρ) : Option ρ := br (decide (c < 0)) none (k (IntKind.u32.wrap (IntKind.u32.wrap (1 * 2 ^ min c.toNat 32) - 1)))
def ko {ρ : Type} := shut (ads (ρ := ρ))
theorem ad8 {ρ : Type} (e : Int) (d : List Int) (f : Int) (a : Int) (b : Int) (c : Int) (k : Int → Option ρ) : ko e d f a b c k = ads e d f a b c k := by unfold ko; rw [bq]

def aej {ρ : Type} (a : Int) (b : List Int) (c : Int) (k : Int → (List Int) → Int → Int → Int → Int → Int → Option ρ) : Option ρ := lu a fun d e f g => br (!g) (k 0 [] 0 0 0 0 9) (br ((↑b.length : Int) != 16) (k 0 [] 0 0 0 0 14) (k a b c d e f 0))
def qz {ρ : Type} := shut (aej (ρ := ρ))
theorem ah5 {ρ : Type} (a : Int) (b : List Int) (c : Int) (k : Int → (List Int) → Int → Int → Int → Int → Int → Option ρ) : qz a b c k = aej a b c k := by unfold qz; rw [bq]

abbrev bmy (ρ : Type) := (List Int) → Int → Int → (List Int) → Int → (List Int) → Int → Int → Int → Int → (List Int) → Option ρ
def ab2 {ρ : Type} (a : List Int) (i b : Int) (k : List Int) (c : Int) (d : List Int) (e f g h : Int) (j : List Int) (nx m : bmy ρ) : Option ρ := br (decide (b < i)) (br (decide (0 ≤ b)) (br (decide (b < (↑j.length : Int))) (ko c d e f g h fun n => br (decide (32 ≤ (↑a.length : Int))) (ji c d e f g h b (j.getD b.toNat 0) (IntKind.u32.wrap (n - j.getD b.toNat 0)) (List.drop 0 (List.take (Int.toNat 32) a)) fun l => br (decide ((k.length + l.length) * 1 ≤ 140737488355328)) (br (decide (32 ≤ (↑a.length : Int))) (br (decide ((↑a.length : Int) ≤ (↑a.length : Int))) (nx (List.drop 32 (List.take (↑a.length : Int).toNat a)) i (IntKind.i64.wrap (b + 1)) (k ++ l) c d e f g h j) none) none) none) none) none) none) (m a i b k c d e f g h j)
abbrev bh2 := (List Int) × Int × Int × (List Int) × Int × (List Int) × Int × Int × Int × Int × (List Int)
abbrev bnb := bh2
def bny {ρ : Type} (f : bh2 → Option ρ) : bmy ρ := fun h i j k a b c d e g l => f (h, i, j, k, a, b, c, d, e, g, l)
def bim {ρ : Type} : ai8 bh2 bnb ρ := fun (g, h, i, j, a, b, c, d, e, f, k) next ex => ab2 g h i j a b c d e f k (bny next) (bny ex)
def bmo {ρ : Type} := shut (lp (bim (ρ := ρ)))
theorem boy {ρ : Type} : bmo (ρ := ρ) = lp bim := bq _
def bkn {ρ : Type} (f : ai9 bh2 bnb ρ) (h : List Int) (i j : Int) (k : List Int) (a : Int) (b : List Int) (c d e g : Int) (l : List Int) (m : bmy ρ) : Option ρ := f (h, i, j, k, a, b, c, d, e, g, l) (fun (h, i, j, k, a, b, c, d, e, g, l) => m h i j k a b c d e g l)
def ae5 {ρ : Type} := bkn (lp (bim (ρ := ρ)))
def aev {ρ : Type} := bkn (bmo (ρ := ρ))
theorem agw {ρ : Type} : aev (ρ := ρ) = ae5 := congrArg bkn boy
def abq {ρ : Type} (c : Int) (t : List Int) (u : Int) (v a : List Int) (k : (List Int) → Int → Option ρ) : Option ρ := qz c t u fun d e f g h b i => br (i != 0) (k [] i) (jf c fun w => br ((↑a.length : Int) != w) (k [] 1) (br (decide (4 ≤ (↑a.length : Int))) (jl (List.drop 0 (List.take (Int.toNat 4) a)) fun y => br (y != IntKind.u64.wrap b) (k [] 1) (br (decide (36 ≤ (↑a.length : Int))) (br (decide ((↑a.length : Int) ≤ (↑a.length : Int))) (br (decide (36 ≤ (↑a.length : Int))) (jh d e f g h b (List.drop 4 (List.take (Int.toNat 36) a)) v fun j => aev (List.drop 36 (List.take (↑a.length : Int).toNat a)) (↑j.length : Int) 0 [] d e f g h b j fun z A B l m n o p q r C => gq m n o p q r 32896 [l] fun s => k s 0) none) none) none)) none))
def jq {ρ : Type} := shut (abq (ρ := ρ))
theorem ae6 {ρ : Type} (a : Int) (b : List Int) (c : Int) (d : List Int) (e : List Int) (k : (List Int) → Int → Option ρ) : jq a b c d e k = abq a b c d e k := by unfold jq; rw [bq]

abbrev bm4 (ρ : Type) := Int → (List Int) → (List Int) → (List Int) → (List Int) → Option ρ
def agi {ρ : Type} (c : Int) (b e d a : List Int) (nx f : bm4 ρ) : Option ρ := br (decide (c > (1 : Int))) (br (decide ((32 : Int) ≤ (↑a.length : Int))) (br (c.tmod (2 : Int) == (1 : Int)) (qg b (IntKind.u64.wrap (c.tdiv (2 : Int))) (33667 : Int) [List.drop 0 (List.take (Int.toNat (32 : Int)) a), d] fun g => br (decide ((32 : Int) ≤ (↑a.length : Int))) (br (decide ((↑a.length : Int) ≤ (↑a.length : Int))) (nx (IntKind.u64.wrap (c.tdiv (2 : Int))) b e g (List.drop 32 (List.take (↑a.length : Int).toNat a))) none) none) (qg b (IntKind.u64.wrap (c.tdiv (2 : Int))) (33667 : Int) [d, List.drop 0 (List.take (Int.toNat (32 : Int)) a)] fun h => br (decide ((32 : Int) ≤ (↑a.length : Int))) (br (decide ((↑a.length : Int) ≤ (↑a.length : Int))) (nx (IntKind.u64.wrap (c.tdiv (2 : Int))) b e h (List.drop 32 (List.take (↑a.length : Int).toNat a))) none) none)) none) (f c b e d a)
abbrev bj2 := Int × (List Int) × (List Int) × (List Int) × (List Int)
abbrev bl6 := bj2
def bk8 {ρ : Type} (f : bj2 → Option ρ) : bm4 ρ := fun d a e b c => f (d, a, e, b, c)
def bjn {ρ : Type} : ai8 bj2 bl6 ρ := fun (d, a, e, b, c) next ex => agi d a e b c (bk8 next) (bk8 ex)
def bmr {ρ : Type} := shut (lp (bjn (ρ := ρ)))
theorem boc {ρ : Type} : bmr (ρ := ρ) = lp bjn := bq _
def bkp {ρ : Type} (f : ai9 bj2 bl6 ρ) (d : Int) (a e b c : List Int) (g : bm4 ρ) : Option ρ := f (d, a, e, b, c) (fun (d, a, e, b, c) => g d a e b c)
def akl {ρ : Type} := bkp (lp (bjn (ρ := ρ)))
def agc {ρ : Type} := bkp (bmr (ρ := ρ))
theorem amk {ρ : Type} : agc (ρ := ρ) = akl := congrArg bkp boc
def ag3 {ρ : Type} (a d : Int) (e h b : List Int) (k : (List Int) → Option ρ) : Option ρ := br (decide (4 ≤ (↑b.length : Int))) (jl (List.drop 0 (List.take (Int.toNat 4) b)) fun f => jf d fun c => br (decide (4 ≤ IntKind.i64.wrap (4 + c))) (br (decide (IntKind.i64.wrap (4 + c) ≤ (↑b.length : Int))) (jq d e (IntKind.u32.wrap f) h (List.drop 4 (List.take (IntKind.i64.wrap (4 + c)).toNat b)) fun i l => br (decide (a < 0)) none (qg e (IntKind.u64.wrap (IntKind.u64.wrap (1 * 2 ^ min a.toNat 64) + IntKind.u64.wrap (IntKind.u32.wrap f))) 33410 [i] fun g => br (decide (0 ≤ IntKind.i64.wrap (IntKind.i64.wrap (4 + c) + 4))) (br (decide (IntKind.i64.wrap (IntKind.i64.wrap (4 + c) + 4) ≤ (↑b.length : Int))) (br (decide ((↑b.length : Int) ≤ (↑b.length : Int))) (br (decide (a < 0)) none (agc (IntKind.u64.wrap (IntKind.u64.wrap (1 * 2 ^ min a.toNat 64) + IntKind.u64.wrap (IntKind.u32.wrap f))) e g g (List.drop (IntKind.i64.wrap (IntKind.i64.wrap (4 + c) + 4)).toNat (List.take (↑b.length : Int).toNat b)) fun m n o j p => k j)) none) none) none)) none) none) none
def acz {ρ : Type} := shut (ag3 (ρ := ρ))
theorem anc {ρ : Type} (a : Int) (b : Int) (c : List Int) (d : List Int) (e : List Int) (k : (List Int) → Option ρ) : acz a b c d e k = ag3 a b c d e k := by unfold acz; rw [bq]

def abb {ρ : Type} (a j b : List Int) (k : Int → Option ρ) : Option ρ := br ((↑a.length : Int) != 56) (k 10) (br (decide (4 ≤ (↑a.length : Int))) (jl (List.drop 0 (List.take (Int.toNat 4) a)) fun l => qj l fun m => br (m == 0) (k 10) (br (decide (8 ≤ (↑a.length : Int))) (jl (List.drop 4 (List.take (Int.toNat 8) a)) fun n => um n fun o => br (o == 0) (k 10) (abp b fun r c d p e => br (e != 0) (k e) (br (decide ((↑p.length : Int) > 0)) (k 1) (abe c d fun q => br (decide (8 ≤ (↑a.length : Int))) (vo q (List.drop 0 (List.take (Int.toNat 8) a)) fun f => br (!f) (k 1) (br (decide (4 ≤ (↑b.length : Int))) (jl (List.drop 0 (List.take (Int.toNat 4) b)) fun g => br (decide (c < 0)) none (br (g.fdiv (2 ^ min c.toNat 64) != 0) (k 13) (br (decide (24 ≤ (↑a.length : Int))) (acz c d (List.drop 8 (List.take (Int.toNat 24) a)) j b fun h => br (decide (24 ≤ (↑a.length : Int))) (br (decide ((↑a.length : Int) ≤ (↑a.length : Int))) (vo h (List.drop 24 (List.take (↑a.length : Int).toNat a)) fun i => br (!i) (k 11) (k 0)) none) none) none))) none)) none)))) none)) none)
def lg {ρ : Type} := shut (abb (ρ := ρ))
theorem afy {ρ : Type} (a : List Int) (b : List Int) (c : List Int) (k : Int → Option ρ) : lg a b c k = abb a b c k := by unfold lg; rw [bq]

def aga {ρ : Type} (k : Bool → Option ρ) : Option ρ := y5 5 8 fun a => br (a == 1292) (lg [] [] [] fun b => br (b == 10) (w9 6 8 fun c => br (!c) (w9 5 8 fun d => k d) (k false)) (k false)) (k false)
def uj {ρ : Type} := shut (aga (ρ := ρ))
theorem alm {ρ : Type}  (k : Bool → Option ρ) : uj  k = aga  k := by unfold uj; rw [bq]

def af2 {ρ : Type} (a b : Int) (c d : List Int) (k : Int → Option ρ) : Option ρ := w9 a b fun e => br (!e) (k 9) (br ((↑c.length : Int) != 16) (k 14) (br ((↑d.length : Int) != 32) (k 14) (br (decide (a > 10)) (k 8) (k 0))))
def qc {ρ : Type} := shut (af2 (ρ := ρ))
theorem aly {ρ : Type} (a : Int) (b : Int) (c : List Int) (d : List Int) (k : Int → Option ρ) : qc a b c d k = af2 a b c d k := by unfold qc; rw [bq]

def adp {ρ : Type} (h : Int) (i : List Int) (j : Int) (l : List Int) (k : Int → (List Int) → Int → Int → Int → Int → Int → Option ρ) : Option ρ := qz h i j fun b c d e f g a => br (a == 0) (br ((↑l.length : Int) != 32) (k 0 [] 0 0 0 0 14) (k b c d e f g a)) (k b c d e f g a)
def pq {ρ : Type} := shut (adp (ρ := ρ))
theorem ahi {ρ : Type} (a : Int) (b : List Int) (c : Int) (d : List Int) (k : Int → (List Int) → Int → Int → Int → Int → Int → Option ρ) : pq a b c d k = adp a b c d k := by unfold pq; rw [bq]

def abk {ρ : Type} (e : Int) (d : List Int) (f a b c g : Int) (h : List Int) (k : (List Int) → Option ρ) : Option ρ := gq e d f a b c g [[255], h] fun i => k i
def kr {ρ : Type} := shut (abk (ρ := ρ))
theorem ae8 {ρ : Type} (e : Int) (d : List Int) (f : Int) (a : Int) (b : Int) (c : Int) (g : Int) (h : List Int) (k : (List Int) → Option ρ) : kr e d f a b c g h k = abk e d f a b c g h k := by unfold kr; rw [bq]

abbrev bmp (ρ : Type) := (List Int) → Int → Int → (List Int) → Int → (List Int) → Int → Int → Int → Int → Option ρ
def aen {ρ : Type} (i : List Int) (h g : Int) (j : List Int) (a : Int) (b : List Int) (c d e f : Int) (nx l : bmp ρ) : Option ρ := br (decide (g < h)) (ko a b c d e f fun m => kr a b c d e f (IntKind.u64.wrap g) i fun n => ji a b c d e f g 0 m n fun k => br (decide ((j.length + k.length) * 1 ≤ 140737488355328)) (nx i h (IntKind.i64.wrap (g + 1)) (j ++ k) a b c d e f) none) (l i h g j a b c d e f)
abbrev bid := (List Int) × Int × Int × (List Int) × Int × (List Int) × Int × Int × Int × Int
abbrev bns := bid
def blh {ρ : Type} (f : bid → Option ρ) : bmp ρ := fun j h i k a b c d e g => f (j, h, i, k, a, b, c, d, e, g)
def bhs {ρ : Type} : ai8 bid bns ρ := fun (i, g, h, j, a, b, c, d, e, f) next ex => aen i g h j a b c d e f (blh next) (blh ex)
def bnt {ρ : Type} := shut (lp (bhs (ρ := ρ)))
theorem bn3 {ρ : Type} : bnt (ρ := ρ) = lp bhs := bq _
def bkg {ρ : Type} (f : ai9 bid bns ρ) (j : List Int) (h i : Int) (k : List Int) (a : Int) (b : List Int) (c d e g : Int) (l : bmp ρ) : Option ρ := f (j, h, i, k, a, b, c, d, e, g) (fun (j, h, i, k, a, b, c, d, e, g) => l j h i k a b c d e g)
def agv {ρ : Type} := bkg (lp (bhs (ρ := ρ)))
def ag4 {ρ : Type} := bkg (bnt (ρ := ρ))
theorem akj {ρ : Type} : ag4 (ρ := ρ) = agv := congrArg bkg bn3
def adl {ρ : Type} (m : Int) (n : List Int) (o : Int) (a : List Int) (k : (List Int) → Int → Option ρ) : Option ρ := pq m n o a fun p q r b s t c => br (c != 0) (k [] c) (ag4 a b 0 [] p q r b s t fun u v w d e f g h i j => gq e f g h i j 32896 [d] fun l => k l 0)
def vw {ρ : Type} := shut (adl (ρ := ρ))
theorem aha {ρ : Type} (a : Int) (b : List Int) (c : Int) (d : List Int) (k : (List Int) → Int → Option ρ) : vw a b c d k = adl a b c d k := by unfold vw; rw [bq]

def y8 {ρ : Type} (rc : Int → Int → (List Int) → (List Int) → Int → ((List Int) → Option ρ) → Option ρ) (a b : Int) (c d : List Int) (e : Int) (k : (List Int) → Option ρ) : Option ρ := br (decide (a < 0)) none (br (decide (e ≥ IntKind.u64.wrap (1 * 2 ^ min a.toNat 64))) (vw b c (IntKind.u32.wrap (IntKind.u64.wrap (e - IntKind.u64.wrap (1 * 2 ^ min a.toNat 64)))) d fun f l => qg c e 33410 [f] fun g => k g) (rc a b c d (IntKind.u64.wrap (2 * e)) fun h => rc a b c d (IntKind.u64.wrap (IntKind.u64.wrap (2 * e) + 1)) fun i => qg c e 33667 [h, i] fun j => k j))
def fq {ρ : Type} (n : Nat) : Int → Int → (List Int) → (List Int) → Int → ((List Int) → Option ρ) → Option ρ := Nat.rec (fun _ _ _ _ _ _ => none) (fun _ rc => shut (y8 (ρ := ρ) rc)) n
theorem ab6 {ρ : Type} (n : Nat) : fq (ρ := ρ) (n + 1) = y8 (fq n) := bq _

def afb {ρ : Type} (a b : Int) (c d : List Int) (k : (List Int) → Int → Option ρ) : Option ρ := qc a b c d fun e => br (e != 0) (k [] e) (abe a b fun f => fq (a.toNat + 2) a b c d 1 fun g => d9 [f, c, g] fun h => k h 0)
def aay {ρ : Type} := shut (afb (ρ := ρ))
theorem akn {ρ : Type} (a : Int) (b : Int) (c : List Int) (d : List Int) (k : (List Int) → Int → Option ρ) : aay a b c d k = afb a b c d k := by unfold aay; rw [bq]

abbrev bnl (ρ : Type) := (List Int) → Int → Int → (List Int) → Int → (List Int) → Int → Int → Int → Int → (List Int) → Option ρ
def af8 {ρ : Type} (k : List Int) (h a : Int) (i : List Int) (b : Int) (c : List Int) (d e f g : Int) (j : List Int) (nx m : bnl ρ) : Option ρ := br (decide (a < h)) (br (decide (0 ≤ a)) (br (decide (a < (↑j.length : Int))) (kr b c d e f g (IntKind.u64.wrap a) k fun n => ji b c d e f g a 0 (j.getD a.toNat 0) n fun l => br (decide ((i.length + l.length) * 1 ≤ 140737488355328)) (nx k h (IntKind.i64.wrap (a + 1)) (i ++ l) b c d e f g j) none) none) none) (m k h a i b c d e f g j)
abbrev bjs := (List Int) × Int × Int × (List Int) × Int × (List Int) × Int × Int × Int × Int × (List Int)
abbrev bn0 := bjs
def bmh {ρ : Type} (f : bjs → Option ρ) : bnl ρ := fun k h i j a b c d e g l => f (k, h, i, j, a, b, c, d, e, g, l)
def bij {ρ : Type} : ai8 bjs bn0 ρ := fun (j, g, h, i, a, b, c, d, e, f, k) next ex => af8 j g h i a b c d e f k (bmh next) (bmh ex)
def bme {ρ : Type} := shut (lp (bij (ρ := ρ)))
theorem bos {ρ : Type} : bme (ρ := ρ) = lp bij := bq _
def bke {ρ : Type} (f : ai9 bjs bn0 ρ) (k : List Int) (h i : Int) (j : List Int) (a : Int) (b : List Int) (c d e g : Int) (l : List Int) (m : bnl ρ) : Option ρ := f (k, h, i, j, a, b, c, d, e, g, l) (fun (k, h, i, j, a, b, c, d, e, g, l) => m k h i j a b c d e g l)
def akc {ρ : Type} := bke (lp (bij (ρ := ρ)))
def ako {ρ : Type} := bke (bme (ρ := ρ))
theorem amm {ρ : Type} : ako (ρ := ρ) = akc := congrArg bke bos
def afj {ρ : Type} (m : Int) (n : List Int) (o : Int) (c p : List Int) (k : (List Int) → Int → Option ρ) : Option ρ := pq m n o c fun d e f g h a i => br (i != 0) (k [] i) (kr d e f g h a 65533 c fun j => jg (IntKind.u64.wrap a) 4 fun q => d9 [q, j] fun r => jh d e f g h a j p fun b => ako c (↑b.length : Int) 0 r d e f g h a b fun s t u l v w y z A B C => k l 0)
def qh {ρ : Type} := shut (afj (ρ := ρ))
theorem ajc {ρ : Type} (a : Int) (b : List Int) (c : Int) (d : List Int) (e : List Int) (k : (List Int) → Int → Option ρ) : qh a b c d e k = afj a b c d e k := by unfold qh; rw [bq]

abbrev bmu (ρ : Type) := Int → (List Int) → Int → Int → (List Int) → (List Int) → Option ρ
def af9 {ρ : Type} (f : Int) (e : List Int) (a b : Int) (c d : List Int) (nx h : bmu ρ) : Option ρ := br (decide (f > 1)) (fq (a.toNat + 2) a b c d (bits BinOp.xor IntKind.u64 f 1) fun g => br (decide ((e.length + g.length) * 1 ≤ 140737488355328)) (nx (IntKind.u64.wrap (f.tdiv 2)) (e ++ g) a b c d) none) (h f e a b c d)
abbrev bhl := Int × (List Int) × Int × Int × (List Int) × (List Int)
abbrev bm1 := bhl
def blp {ρ : Type} (f : bhl → Option ρ) : bmu ρ := fun g e a b c d => f (g, e, a, b, c, d)
def bjx {ρ : Type} : ai8 bhl bm1 ρ := fun (f, e, a, b, c, d) next ex => af9 f e a b c d (blp next) (blp ex)
def bk9 {ρ : Type} := shut (lp (bjx (ρ := ρ)))
theorem bok {ρ : Type} : bk9 (ρ := ρ) = lp bjx := bq _
def bj5 {ρ : Type} (f : ai9 bhl bm1 ρ) (g : Int) (e : List Int) (a b : Int) (c d : List Int) (h : bmu ρ) : Option ρ := f (g, e, a, b, c, d) (fun (g, e, a, b, c, d) => h g e a b c d)
def ajq {ρ : Type} := bj5 (lp (bjx (ρ := ρ)))
def ajr {ρ : Type} := bj5 (bk9 (ρ := ρ))
theorem amg {ρ : Type} : ajr (ρ := ρ) = ajq := congrArg bj5 bok
def ae7 {ρ : Type} (a b : Int) (d e : List Int) (c : Int) (g : List Int) (k : (List Int) → Int → Option ρ) : Option ρ := qc a b d e fun f => br (f != 0) (k [] f) (br (decide (a < 0)) none (br ((IntKind.u64.wrap c).fdiv (2 ^ min a.toNat 64) != 0) (k [] 13) (qh b d c e g fun h r => jg (IntKind.u64.wrap c) 4 fun i => mg a fun j => jg j 4 fun l => d9 [i, h, l] fun m => br (decide (a < 0)) none (ajr (IntKind.u64.wrap (IntKind.u64.wrap (1 * 2 ^ min a.toNat 64) + IntKind.u64.wrap c)) m a b d e fun s n t o p q => k n 0))))
def ac1 {ρ : Type} := shut (ae7 (ρ := ρ))
theorem aix {ρ : Type} (a : Int) (b : Int) (c : List Int) (d : List Int) (e : Int) (f : List Int) (k : (List Int) → Int → Option ρ) : ac1 a b c d e f k = ae7 a b c d e f k := by unfold ac1; rw [bq]

abbrev blc (ρ : Type) := (List Int) → (List Int) → Int → Option ρ
def ai1 {ρ : Type} (b c : List Int) (a : Int) (nx d : blc ρ) (e : Bool → Option ρ) : Option ρ := br (decide (a < (↑b.length : Int))) (br (decide (0 ≤ a)) (br (decide (a < (↑b.length : Int))) (br (decide (0 ≤ a)) (br (decide (a < (↑c.length : Int))) (br (b.getD a.toNat 0 != c.getD a.toNat 0) (e false) (nx b c (IntKind.i64.wrap (a + 1)))) none) none) none) none) (d b c a)
abbrev bkr := (List Int) × (List Int) × Int
abbrev bn1 := ((List Int) × (List Int) × Int) ⊕ (Bool)
def bow {ρ : Type} (f : bkr → Option ρ) : blc ρ := fun a b c => f (a, b, c)
def bjj {ρ : Type} : ai8 bkr bn1 ρ := fun (a, b, c) next ex => ai1 a b c (bow next) (fun a b c => ex (.inl (a, b, c))) (fun d => ex (.inr d))
def bl3 {ρ : Type} := shut (lp (bjj (ρ := ρ)))
theorem boj {ρ : Type} : bl3 (ρ := ρ) = lp bjj := bq _
def bko {ρ : Type} (f : ai9 bkr bn1 ρ) (a b : List Int) (c : Int) (d : blc ρ) (e : Bool → Option ρ) : Option ρ := f (a, b, c) (Sum.elim (fun (a, b, c) => d a b c) (fun x => e x))
def am3 {ρ : Type} := bko (lp (bjj (ρ := ρ)))
def an3 {ρ : Type} := bko (bl3 (ρ := ρ))
theorem ao8 {ρ : Type} : an3 (ρ := ρ) = am3 := congrArg bko boj
def ag2 {ρ : Type} (a b : List Int) (k : Bool → Option ρ) : Option ρ := br ((↑a.length : Int) != (↑b.length : Int)) (k false) (an3 a b 0 (fun d e f => k true) fun c => k c)
def aa2 {ρ : Type} := shut (ag2 (ρ := ρ))
theorem anh {ρ : Type} (a : List Int) (b : List Int) (k : Bool → Option ρ) : aa2 a b k = ag2 a b k := by unfold aa2; rw [bq]

def adk {ρ : Type} (b d : Int) (g h : List Int) (i : Int) (c e : List Int) (k : Bool → Option ρ) : Option ρ := adq [c, e] fun u => br (!u) (uj fun v => k v) (aay (IntKind.i64.wrap (1 + IntKind.i64.wrap (b.tmod 2))) (IntKind.i64.wrap (1 + IntKind.i64.wrap (d.tmod 2))) (List.take 16 (List.drop 0 g)) (List.take 32 (List.drop 0 h)) fun f w => ac1 (IntKind.i64.wrap (1 + IntKind.i64.wrap (b.tmod 2))) (IntKind.i64.wrap (1 + IntKind.i64.wrap (d.tmod 2))) (List.take 16 (List.drop 0 g)) (List.take 32 (List.drop 0 h)) i c fun a j => br (w != 0) (k false) (br ((↑f.length : Int) != 56) (k false) (br (decide (IntKind.i64.wrap (1 + IntKind.i64.wrap (b.tmod 2)) < 0)) none (br (decide (i ≥ IntKind.u32.wrap (1 * 2 ^ min (IntKind.i64.wrap (1 + IntKind.i64.wrap (b.tmod 2))).toNat 32))) (br (j == 13) (br ((↑a.length : Int) == 0) (uj fun y => k y) (k false)) (k false)) (br (decide ((0 + a.length) * 1 ≤ 140737488355328)) (br (decide ((([] ++ a).length + e.length) * 1 ≤ 140737488355328)) (abp ([] ++ a ++ e) fun z A B l m => br (j != 0) (k false) (y5 (IntKind.i64.wrap (1 + IntKind.i64.wrap (b.tmod 2))) (IntKind.i64.wrap (1 + IntKind.i64.wrap (d.tmod 2))) fun n => br ((↑a.length : Int) != n) (k false) (lg f c a fun o => br (o != 0) (k false) (br (m != 0) (k false) (br (!(A == IntKind.i64.wrap (1 + IntKind.i64.wrap (b.tmod 2)) && (B == IntKind.i64.wrap (1 + IntKind.i64.wrap (d.tmod 2)) && true))) (k false) (aa2 z a fun p => br (!p) (k false) (aa2 l e fun q => br (!q) (k false) (br (decide (0 < (↑a.length : Int))) (br (decide (0 < (↑a.length : Int))) (lg f c (a.set 0 (bits BinOp.xor IntKind.u8 (a.getD 0 0) 1)) fun r => br (r != 13) (k false) (br (decide (0 < (↑(a.set 0 (bits BinOp.xor IntKind.u8 (a.getD 0 0) 1)).length : Int))) (br (decide (0 < (↑(a.set 0 (bits BinOp.xor IntKind.u8 (a.getD 0 0) 1)).length : Int))) (br (decide ((((a.set 0 (bits BinOp.xor IntKind.u8 (a.getD 0 0) 1)).set 0 (bits BinOp.xor IntKind.u8 ((a.set 0 (bits BinOp.xor IntKind.u8 (a.getD 0 0) 1)).getD 0 0) 1)).length + 1) * 1 ≤ 140737488355328)) (lg f c ((a.set 0 (bits BinOp.xor IntKind.u8 (a.getD 0 0) 1)).set 0 (bits BinOp.xor IntKind.u8 ((a.set 0 (bits BinOp.xor IntKind.u8 (a.getD 0 0) 1)).getD 0 0) 1) ++ [0]) fun s => br (s == 1) (uj fun t => k t) (k false)) none) none) none)) none) none)))))))) none) none)))))
def vv {ρ : Type} := shut (adk (ρ := ρ))
theorem ag6 {ρ : Type} (a : Int) (b : Int) (c : List Int) (d : List Int) (e : Int) (f : List Int) (g : List Int) (k : Bool → Option ρ) : vv a b c d e f g k = adk a b c d e f g k := by unfold vv; rw [bq]









































































































































end P
end
