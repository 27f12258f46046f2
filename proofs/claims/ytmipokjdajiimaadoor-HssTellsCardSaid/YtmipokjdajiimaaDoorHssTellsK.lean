/-
  HssTells, part 11: an interpreter of my own over abstract values, the pure functions, the walks and the plain law.
-/

import Derived.Test.YtmipokjdajiimaaDoorHssTellsH
import Derived.Test.YtmipokjdajiimaaDoorHssTellsJ
import Derived.Test.YtmipokjdajiimaaDoorHssTellsI

noncomputable section
open Go Go.Abs
set_option linter.unusedVariables false
namespace P

def ad4 {ρ : Type} (a : Int) (k : Int → Option ρ) : Option ρ := br (decide (0 ≤ a)) (br (decide (a < (↑64 : Int))) (k (roots256.getD a.toNat 0)) none) none
def jy {ρ : Type} := shut (ad4 (ρ := ρ))
theorem ahf {ρ : Type} (a : Int) (k : Int → Option ρ) : jy a k = ad4 a k := by unfold jy; rw [bg]

def qh {ρ : Type} (a g : Int) (b c d e : List Int) (h f : Int) (k : Int → Option ρ) : Option ρ := br (decide (f < 0)) none (br (decide (IntKind.i64.wrap (a - f) < 0)) none (k (bits BinOp.or IntKind.u32 (h.fdiv (2 ^ min f.toNat 32)) (IntKind.u32.wrap (h * 2 ^ min (IntKind.i64.wrap (a - f)).toNat 32)))))
def aj {ρ : Type} := shut (qh (ρ := ρ))
theorem y9 {ρ : Type} (f : Int) (e : Int) (a : List Int) (b : List Int) (c : List Int) (d : List Int) (g : Int) (h : Int) (k : Int → Option ρ) : aj f e a b c d g h k = qh f e a b c d g h k := by unfold aj; rw [bg]

def oz {ρ : Type} (f e : Int) (a b c d : List Int) (g h : Int) (k : Int → Option ρ) : Option ρ := br (decide (h = (↑0 : Int))) (aj f e a b c d g (a.getD 0 0) fun l => aj f e a b c d g (a.getD 1 0) fun m => aj f e a b c d g (a.getD 2 0) fun n => k (bits BinOp.xor IntKind.u32 (bits BinOp.xor IntKind.u32 l m) n)) (br (decide (h = (↑1 : Int))) (aj f e a b c d g (b.getD 0 0) fun o => aj f e a b c d g (b.getD 1 0) fun p => aj f e a b c d g (b.getD 2 0) fun q => k (bits BinOp.xor IntKind.u32 (bits BinOp.xor IntKind.u32 o p) q)) (br (decide (h = (↑2 : Int))) (aj f e a b c d g (c.getD 0 0) fun r => aj f e a b c d g (c.getD 1 0) fun s => aj f e a b c d g (c.getD 2 0) fun t => k (bits BinOp.xor IntKind.u32 (bits BinOp.xor IntKind.u32 r s) t)) (br (decide (h = (↑3 : Int))) (aj f e a b c d g (d.getD 0 0) fun u => aj f e a b c d g (d.getD 1 0) fun i => aj f e a b c d g (d.getD 2 0) fun j => k (bits BinOp.xor IntKind.u32 (bits BinOp.xor IntKind.u32 u i) j)) none)))
def fu {ρ : Type} := shut (oz (ρ := ρ))
theorem uj {ρ : Type} (f : Int) (e : Int) (a : List Int) (b : List Int) (c : List Int) (d : List Int) (g : Int) (h : Int) (k : Int → Option ρ) : fu f e a b c d g h k = oz f e a b c d g h k := by unfold fu; rw [bg]

def o9 {ρ : Type} (f e : Int) (a b c d : List Int) (g h : Int) (k : Int → Option ρ) : Option ρ := br (decide (h = (↑0 : Int))) (aj f e a b c d g (a.getD 0 (0 : Int)) fun i => aj f e a b c d g (a.getD 1 (0 : Int)) fun j => br (decide (a.getD 2 (0 : Int) < (0 : Int))) none (k (bits BinOp.xor IntKind.u32 (bits BinOp.xor IntKind.u32 i j) (g.fdiv ((2 : Int) ^ min (a.getD 2 (0 : Int)).toNat 32))))) (br (decide (h = (↑1 : Int))) (aj f e a b c d g (b.getD 0 (0 : Int)) fun l => aj f e a b c d g (b.getD 1 (0 : Int)) fun m => br (decide (b.getD 2 (0 : Int) < (0 : Int))) none (k (bits BinOp.xor IntKind.u32 (bits BinOp.xor IntKind.u32 l m) (g.fdiv ((2 : Int) ^ min (b.getD 2 (0 : Int)).toNat 32))))) (br (decide (h = (↑2 : Int))) (aj f e a b c d g (c.getD 0 (0 : Int)) fun n => aj f e a b c d g (c.getD 1 (0 : Int)) fun o => br (decide (c.getD 2 (0 : Int) < (0 : Int))) none (k (bits BinOp.xor IntKind.u32 (bits BinOp.xor IntKind.u32 n o) (g.fdiv ((2 : Int) ^ min (c.getD 2 (0 : Int)).toNat 32))))) (br (decide (h = (↑3 : Int))) (aj f e a b c d g (d.getD 0 (0 : Int)) fun p => aj f e a b c d g (d.getD 1 (0 : Int)) fun q => br (decide (d.getD 2 (0 : Int) < (0 : Int))) none (k (bits BinOp.xor IntKind.u32 (bits BinOp.xor IntKind.u32 p q) (g.fdiv ((2 : Int) ^ min (d.getD 2 (0 : Int)).toNat 32))))) none)))
def ig {ρ : Type} := shut (o9 (ρ := ρ))
theorem vk {ρ : Type} (f : Int) (e : Int) (a : List Int) (b : List Int) (c : List Int) (d : List Int) (g : Int) (h : Int) (k : Int → Option ρ) : ig f e a b c d g h k = o9 f e a b c d g h k := by unfold ig; rw [bg]

abbrev bk6 (ρ : Type) := (List Int) → Int → Int → Int → Int → (List Int) → (List Int) → (List Int) → (List Int) → (List Int) → (List Int) → (List Int) → Option ρ
def sw {ρ : Type} (l : List Int) (b a c d : Int) (e f g h i j k : List Int) (nx m : bk6 ρ) : Option ρ := br (decide (a < 16)) (br (decide (0 ≤ IntKind.i64.wrap (a * b))) (br (decide (IntKind.i64.wrap (a * b) ≤ IntKind.i64.wrap (IntKind.i64.wrap (a + 1) * b))) (br (decide (IntKind.i64.wrap (IntKind.i64.wrap (a + 1) * b) ≤ (↑l.length : Int))) (iw (List.drop (IntKind.i64.wrap (a * b)).toNat (List.take (IntKind.i64.wrap (IntKind.i64.wrap (a + 1) * b)).toNat l)) fun n => br (decide (0 ≤ a)) (br (decide (a < (↑16 : Int))) (nx l b (IntKind.i64.wrap (a + 1)) c d e f g h i j (k.set a.toNat (IntKind.u32.wrap n))) none) none) none) none) none) (m l b a c d e f g h i j k)
abbrev bg6 := (List Int) × Int × Int × Int × Int × (List Int) × (List Int) × (List Int) × (List Int) × (List Int) × (List Int) × (List Int)
abbrev bma := bg6
def bme {ρ : Type} (f : bg6 → Option ρ) : bk6 ρ := fun l m k a b c d e g h i j => f (l, m, k, a, b, c, d, e, g, h, i, j)
def bhh {ρ : Type} : ag8 bg6 bma ρ := fun (k, l, j, a, b, c, d, e, f, g, h, i) next ex => sw k l j a b c d e f g h i (bme next) (bme ex)
def bj2 {ρ : Type} := shut (lp (bhh (ρ := ρ)))
theorem bnt {ρ : Type} : bj2 (ρ := ρ) = lp bhh := bg _
def bje {ρ : Type} (f : ag2 bg6 bma ρ) (l : List Int) (m k a b : Int) (c d e g h i j : List Int) (n : bk6 ρ) : Option ρ := f (l, m, k, a, b, c, d, e, g, h, i, j) (fun (l, m, k, a, b, c, d, e, g, h, i, j) => n l m k a b c d e g h i j)
def aar {ρ : Type} := bje (lp (bhh (ρ := ρ)))
def su {ρ : Type} := bje (bj2 (ρ := ρ))
theorem ac7 {ρ : Type} : su (ρ := ρ) = aar := congrArg bje bnt
abbrev bk3 (ρ : Type) := Int → Int → (List Int) → (List Int) → (List Int) → Int → Int → (List Int) → (List Int) → (List Int) → (List Int) → (List Int) → Option ρ
def qx {ρ : Type} (j b : Int) (c k l : List Int) (d e : Int) (f g h i a : List Int) (nx o : bk3 ρ) : Option ρ := br (decide (b < j)) (br (decide (0 ≤ b.tmod 16)) (br (decide (b.tmod 16 < (↑16 : Int))) (fu d e f g h i (a.getD 4 0) 3 fun m => jy b fun n => fu d e f g h i (a.getD 0 0) 2 fun p => br (decide (0 ≤ (IntKind.i64.wrap (b + 1)).tmod 16)) (br (decide ((IntKind.i64.wrap (b + 1)).tmod 16 < (↑16 : Int))) (ig d e f g h i (c.getD ((IntKind.i64.wrap (b + 1)).tmod 16).toNat 0) 0 fun q => br (decide (0 ≤ (IntKind.i64.wrap (b + 9)).tmod 16)) (br (decide ((IntKind.i64.wrap (b + 9)).tmod 16 < (↑16 : Int))) (br (decide (0 ≤ (IntKind.i64.wrap (b + 14)).tmod 16)) (br (decide ((IntKind.i64.wrap (b + 14)).tmod 16 < (↑16 : Int))) (ig d e f g h i (c.getD ((IntKind.i64.wrap (b + 14)).tmod 16).toNat 0) 1 fun r => br (decide (0 ≤ b.tmod 16)) (br (decide (b.tmod 16 < (↑16 : Int))) (nx j (IntKind.i64.wrap (b + 1)) (c.set (b.tmod 16).toNat (IntKind.u32.wrap (IntKind.u32.wrap (IntKind.u32.wrap (c.getD (b.tmod 16).toNat 0 + q) + c.getD ((IntKind.i64.wrap (b + 9)).tmod 16).toNat 0) + r))) k l d e f g h i ((((List.take 1 a).append (List.take 7 (List.take 7 (List.drop 0 a)) ++ List.drop (1 + min 7 (List.take 7 (List.drop 0 a)).length) a)).set 4 (IntKind.u32.wrap (((List.take 1 a).append (List.take 7 (List.take 7 (List.drop 0 a)) ++ List.drop (1 + min 7 (List.take 7 (List.drop 0 a)).length) a)).getD 4 0 + IntKind.u32.wrap (IntKind.u32.wrap (IntKind.u32.wrap (IntKind.u32.wrap (a.getD 7 0 + m) + bits BinOp.xor IntKind.u32 (a.getD 6 0) (bits BinOp.and IntKind.u32 (a.getD 4 0) (bits BinOp.xor IntKind.u32 (a.getD 5 0) (a.getD 6 0)))) + n) + c.getD (b.tmod 16).toNat 0)))).set 0 (IntKind.u32.wrap (IntKind.u32.wrap (IntKind.u32.wrap (IntKind.u32.wrap (IntKind.u32.wrap (a.getD 7 0 + m) + bits BinOp.xor IntKind.u32 (a.getD 6 0) (bits BinOp.and IntKind.u32 (a.getD 4 0) (bits BinOp.xor IntKind.u32 (a.getD 5 0) (a.getD 6 0)))) + n) + c.getD (b.tmod 16).toNat 0) + IntKind.u32.wrap (p + bits BinOp.or IntKind.u32 (bits BinOp.and IntKind.u32 (a.getD 0 0) (a.getD 1 0)) (bits BinOp.and IntKind.u32 (a.getD 2 0) (bits BinOp.or IntKind.u32 (a.getD 0 0) (a.getD 1 0)))))))) none) none) none) none) none) none) none) none) none) none) (o j b c k l d e f g h i a)
abbrev bhz := Int × Int × (List Int) × (List Int) × (List Int) × Int × Int × (List Int) × (List Int) × (List Int) × (List Int) × (List Int)
abbrev bjy := bhz
def blv {ρ : Type} (f : bhz → Option ρ) : bk3 ρ := fun l m a b c d e g h i j k => f (l, m, a, b, c, d, e, g, h, i, j, k)
def zs12 {ρ : Type} : ag8 bhz bjy ρ := fun (k, l, a, b, c, d, e, f, g, h, i, j) next ex => qx k l a b c d e f g h i j (blv next) (blv ex)
def bkf {ρ : Type} := shut (lp (zs12 (ρ := ρ)))
theorem bn7 {ρ : Type} : bkf (ρ := ρ) = lp zs12 := bg _
def bi1 {ρ : Type} (f : ag2 bhz bjy ρ) (l m : Int) (a b c : List Int) (d e : Int) (g h i j k : List Int) (n : bk3 ρ) : Option ρ := f (l, m, a, b, c, d, e, g, h, i, j, k) (fun (l, m, a, b, c, d, e, g, h, i, j, k) => n l m a b c d e g h i j k)
def aag {ρ : Type} := bi1 (lp (zs12 (ρ := ρ)))
def oo {ρ : Type} := bi1 (bkf (ρ := ρ))
theorem acr {ρ : Type} : oo (ρ := ρ) = aag := congrArg bi1 bn7
abbrev bl1 (ρ : Type) := Int → (List Int) → (List Int) → (List Int) → Option ρ
def rz {ρ : Type} (a : Int) (b d c : List Int) (nx e : bl1 ρ) : Option ρ := br (decide (a < 8)) (br (decide (0 ≤ a)) (br (decide (a < (↑8 : Int))) (br (decide (0 ≤ a)) (br (decide (a < (↑8 : Int))) (br (decide (0 ≤ a)) (br (decide (a < (↑8 : Int))) (nx (IntKind.i64.wrap (a + 1)) b d (c.set a.toNat (IntKind.u32.wrap (c.getD a.toNat 0 + b.getD a.toNat 0)))) none) none) none) none) none) none) (e a b d c)
abbrev bg0 := Int × (List Int) × (List Int) × (List Int)
abbrev bmv := bg0
def bj6 {ρ : Type} (f : bg0 → Option ρ) : bl1 ρ := fun a b c d => f (a, b, c, d)
def bhy {ρ : Type} : ag8 bg0 bmv ρ := fun (a, b, c, d) next ex => rz a b c d (bj6 next) (bj6 ex)
def bj4 {ρ : Type} := shut (lp (bhy (ρ := ρ)))
theorem bn5 {ρ : Type} : bj4 (ρ := ρ) = lp bhy := bg _
def bjc {ρ : Type} (f : ag2 bg0 bmv ρ) (a : Int) (b c d : List Int) (e : bl1 ρ) : Option ρ := f (a, b, c, d) (fun (a, b, c, d) => e a b c d)
def zo {ρ : Type} := bjc (lp (bhy (ρ := ρ)))
def nu {ρ : Type} := bjc (bj4 (ρ := ρ))
theorem ach {ρ : Type} : nu (ρ := ρ) = zo := congrArg bjc bn5
def qo {ρ : Type} (a f : Int) (b c d e p q : List Int) (k : (List Int) → Option ρ) : Option ρ := su q (IntKind.i64.wrap (a.tdiv 8)) 0 a f b c d e p [0, 0, 0, 0, 0, 0, 0, 0] [0, 0, 0, 0, 0, 0, 0, 0, 0, 0, 0, 0, 0, 0, 0, 0] fun N O Q r g s t u v h i j => oo g 0 j i h r g s t u v h fun w y z l m A B C F G H n => nu 0 m l n fun I J M o => k o
def jf {ρ : Type} := shut (qo (ρ := ρ))
theorem aat {ρ : Type} (f : Int) (e : Int) (a : List Int) (b : List Int) (c : List Int) (d : List Int) (g : List Int) (h : List Int) (k : (List Int) → Option ρ) : jf f e a b c d g h k = qo f e a b c d g h k := by unfold jf; rw [bg]

abbrev bjr (ρ : Type) := (List Int) → (List Int) → Int → Int → Int → (List Int) → (List Int) → (List Int) → (List Int) → (List Int) → (List Int) → (List Int) → Option ρ
def zn {ρ : Type} (l b : List Int) (a c d : Int) (e f g h i j k : List Int) (nx m : bjr ρ) : Option ρ := br (decide (a < 8)) (br (decide (0 ≤ a)) (br (decide (a < (↑8 : Int))) (br (decide (0 ≤ a)) (br (decide (a < (↑8 : Int))) (nx l b (IntKind.i64.wrap (a + 1)) c d e f g h i j (k.set a.toNat (IntKind.u32.wrap (b.getD a.toNat 0)))) none) none) none) none) (m l b a c d e f g h i j k)
abbrev bha := (List Int) × (List Int) × Int × Int × Int × (List Int) × (List Int) × (List Int) × (List Int) × (List Int) × (List Int) × (List Int)
abbrev bjq := bha
def bkn {ρ : Type} (f : bha → Option ρ) : bjr ρ := fun m k l a b c d e g h i j => f (m, k, l, a, b, c, d, e, g, h, i, j)
def bgi {ρ : Type} : ag8 bha bjq ρ := fun (l, j, k, a, b, c, d, e, f, g, h, i) next ex => zn l j k a b c d e f g h i (bkn next) (bkn ex)
def bki {ρ : Type} := shut (lp (bgi (ρ := ρ)))
theorem boe {ρ : Type} : bki (ρ := ρ) = lp bgi := bg _
def bjb {ρ : Type} (f : ag2 bha bjq ρ) (m k : List Int) (l a b : Int) (c d e g h i j : List Int) (n : bjr ρ) : Option ρ := f (m, k, l, a, b, c, d, e, g, h, i, j) (fun (m, k, l, a, b, c, d, e, g, h, i, j) => n m k l a b c d e g h i j)
def aci {ρ : Type} := bjb (lp (bgi (ρ := ρ)))
def aac {ρ : Type} := bjb (bki (ρ := ρ))
theorem ae7 {ρ : Type} : aac (ρ := ρ) = aci := congrArg bjb boe
abbrev bll (ρ : Type) := (List Int) → Int → (List Int) → (List Int) → (List Int) → Int → Int → (List Int) → (List Int) → (List Int) → (List Int) → Option ρ
def aad {ρ : Type} (b : List Int) (a : Int) (i j k : List Int) (c d : Int) (e f g h : List Int) (nx l : bll ρ) : Option ρ := br (decide ((↑b.length : Int) ≥ a)) (br (decide (0 ≤ a)) (br (decide (a ≤ (↑b.length : Int))) (jf c d e f g h i (List.drop 0 (List.take a.toNat b)) fun m => br (decide (0 ≤ a)) (br (decide (a ≤ (↑b.length : Int))) (br (decide ((↑b.length : Int) ≤ (↑b.length : Int))) (nx (List.drop a.toNat (List.take (↑b.length : Int).toNat b)) a m j k c d e f g h) none) none) none) none) none) (l b a i j k c d e f g h)
abbrev bh5 := (List Int) × Int × (List Int) × (List Int) × (List Int) × Int × Int × (List Int) × (List Int) × (List Int) × (List Int)
abbrev bmn := bh5
def bm9 {ρ : Type} (f : bh5 → Option ρ) : bll ρ := fun l k a b c d e g h i j => f (l, k, a, b, c, d, e, g, h, i, j)
def bh6 {ρ : Type} : ag8 bh5 bmn ρ := fun (k, j, a, b, c, d, e, f, g, h, i) next ex => aad k j a b c d e f g h i (bm9 next) (bm9 ex)
def blb {ρ : Type} := shut (lp (bh6 (ρ := ρ)))
theorem boc {ρ : Type} : blb (ρ := ρ) = lp bh6 := bg _
def bjn {ρ : Type} (f : ag2 bh5 bmn ρ) (l : List Int) (k : Int) (a b c : List Int) (d e : Int) (g h i j : List Int) (m : bll ρ) : Option ρ := f (l, k, a, b, c, d, e, g, h, i, j) (fun (l, k, a, b, c, d, e, g, h, i, j) => m l k a b c d e g h i j)
def acy {ρ : Type} := bjn (lp (bh6 (ρ := ρ)))
def zk {ρ : Type} := bjn (blb (ρ := ρ))
theorem ae9 {ρ : Type} : zk (ρ := ρ) = acy := congrArg bjn boc
abbrev blg (ρ : Type) := (List Int) → (List Int) → Int → (List Int) → (List Int) → Option ρ
def yx {ρ : Type} (e b : List Int) (a : Int) (c d : List Int) (nx f : blg ρ) : Option ρ := br (decide (a < 8)) (br (decide (0 ≤ a)) (br (decide (a < (↑8 : Int))) (br (decide (0 ≤ a)) (br (decide (a < (↑8 : Int))) (nx e b (IntKind.i64.wrap (a + 1)) (c.set a.toNat (IntKind.u64.wrap (b.getD a.toNat 0))) d) none) none) none) none) (f e b a c d)
abbrev bgs := (List Int) × (List Int) × Int × (List Int) × (List Int)
abbrev bl4 := bgs
def bmd {ρ : Type} (f : bgs → Option ρ) : blg ρ := fun e c d a b => f (e, c, d, a, b)
def bhf {ρ : Type} : ag8 bgs bl4 ρ := fun (e, c, d, a, b) next ex => yx e c d a b (bmd next) (bmd ex)
def bjw {ρ : Type} := shut (lp (bhf (ρ := ρ)))
theorem bnv {ρ : Type} : bjw (ρ := ρ) = lp bhf := bg _
def biz {ρ : Type} (f : ag2 bgs bl4 ρ) (e c : List Int) (d : Int) (a b : List Int) (g : blg ρ) : Option ρ := f (e, c, d, a, b) (fun (e, c, d, a, b) => g e c d a b)
def abp {ρ : Type} := biz (lp (bhf (ρ := ρ)))
def yh {ρ : Type} := biz (bjw (ρ := ρ))
theorem ae3 {ρ : Type} : yh (ρ := ρ) = abp := congrArg biz bnv
def y5 {ρ : Type} (f e : Int) (a b c d g r : List Int) (k : (List Int) → (List Int) → Option ρ) : Option ρ := aac r g 0 f e a b c d g [0, 0, 0, 0, 0, 0, 0, 0] [0, 0, 0, 0, 0, 0, 0, 0] fun s O Q h t u v w y z i j => zk s (IntKind.i64.wrap (h * 2)) j i z h t u v w y fun l A m n o B C F G H I => yh l m 0 o n fun p J M q N => k q p
def kr {ρ : Type} := shut (y5 (ρ := ρ))
theorem acu {ρ : Type} (f : Int) (e : Int) (a : List Int) (b : List Int) (c : List Int) (d : List Int) (g : List Int) (h : List Int) (k : (List Int) → (List Int) → Option ρ) : kr f e a b c d g h k = y5 f e a b c d g h k := by unfold kr; rw [bg]

def aix {ρ : Type} (k : Int → Int → (List Int) → (List Int) → (List Int) → (List Int) → Option ρ) : Option ρ := k 32 64 [7, 18, 3] [17, 19, 10] [2, 13, 22] [6, 11, 25]
def aah {ρ : Type} := shut (aix (ρ := ρ))
theorem alh {ρ : Type}  (k : Int → Int → (List Int) → (List Int) → (List Int) → (List Int) → Option ρ) : aah  k = aix  k := by unfold aah; rw [bg]

def ads {ρ : Type} (a : Int) (k : Int → Option ρ) : Option ρ := br (decide (0 ≤ a)) (br (decide (a < (↑80 : Int))) (k (roots512.getD a.toNat 0)) none) none
def j5 {ρ : Type} := shut (ads (ρ := ρ))
theorem ahi {ρ : Type} (a : Int) (k : Int → Option ρ) : j5 a k = ads a k := by unfold j5; rw [bg]

def qg {ρ : Type} (a g : Int) (b c d e : List Int) (h f : Int) (k : Int → Option ρ) : Option ρ := br (decide (f < 0)) none (br (decide (IntKind.i64.wrap (a - f) < 0)) none (k (bits BinOp.or IntKind.u64 (h.fdiv (2 ^ min f.toNat 64)) (IntKind.u64.wrap (h * 2 ^ min (IntKind.i64.wrap (a - f)).toNat 64)))))
def ak {ρ : Type} := shut (qg (ρ := ρ))
theorem za {ρ : Type} (f : Int) (e : Int) (a : List Int) (b : List Int) (c : List Int) (d : List Int) (g : Int) (h : Int) (k : Int → Option ρ) : ak f e a b c d g h k = qg f e a b c d g h k := by unfold ak; rw [bg]

def ow {ρ : Type} (f e : Int) (a b c d : List Int) (g h : Int) (k : Int → Option ρ) : Option ρ := br (decide (h = (↑0 : Int))) (ak f e a b c d g (a.getD 0 0) fun l => ak f e a b c d g (a.getD 1 0) fun m => ak f e a b c d g (a.getD 2 0) fun n => k (bits BinOp.xor IntKind.u64 (bits BinOp.xor IntKind.u64 l m) n)) (br (decide (h = (↑1 : Int))) (ak f e a b c d g (b.getD 0 0) fun o => ak f e a b c d g (b.getD 1 0) fun p => ak f e a b c d g (b.getD 2 0) fun q => k (bits BinOp.xor IntKind.u64 (bits BinOp.xor IntKind.u64 o p) q)) (br (decide (h = (↑2 : Int))) (ak f e a b c d g (c.getD 0 0) fun r => ak f e a b c d g (c.getD 1 0) fun s => ak f e a b c d g (c.getD 2 0) fun t => k (bits BinOp.xor IntKind.u64 (bits BinOp.xor IntKind.u64 r s) t)) (br (decide (h = (↑3 : Int))) (ak f e a b c d g (d.getD 0 0) fun u => ak f e a b c d g (d.getD 1 0) fun i => ak f e a b c d g (d.getD 2 0) fun j => k (bits BinOp.xor IntKind.u64 (bits BinOp.xor IntKind.u64 u i) j)) none)))
def gq {ρ : Type} := shut (ow (ρ := ρ))
theorem uo {ρ : Type} (f : Int) (e : Int) (a : List Int) (b : List Int) (c : List Int) (d : List Int) (g : Int) (h : Int) (k : Int → Option ρ) : gq f e a b c d g h k = ow f e a b c d g h k := by unfold gq; rw [bg]

def o8 {ρ : Type} (f e : Int) (a b c d : List Int) (g h : Int) (k : Int → Option ρ) : Option ρ := br (decide (h = (↑0 : Int))) (ak f e a b c d g (a.getD 0 (0 : Int)) fun i => ak f e a b c d g (a.getD 1 (0 : Int)) fun j => br (decide (a.getD 2 (0 : Int) < (0 : Int))) none (k (bits BinOp.xor IntKind.u64 (bits BinOp.xor IntKind.u64 i j) (g.fdiv ((2 : Int) ^ min (a.getD 2 (0 : Int)).toNat 64))))) (br (decide (h = (↑1 : Int))) (ak f e a b c d g (b.getD 0 (0 : Int)) fun l => ak f e a b c d g (b.getD 1 (0 : Int)) fun m => br (decide (b.getD 2 (0 : Int) < (0 : Int))) none (k (bits BinOp.xor IntKind.u64 (bits BinOp.xor IntKind.u64 l m) (g.fdiv ((2 : Int) ^ min (b.getD 2 (0 : Int)).toNat 64))))) (br (decide (h = (↑2 : Int))) (ak f e a b c d g (c.getD 0 (0 : Int)) fun n => ak f e a b c d g (c.getD 1 (0 : Int)) fun o => br (decide (c.getD 2 (0 : Int) < (0 : Int))) none (k (bits BinOp.xor IntKind.u64 (bits BinOp.xor IntKind.u64 n o) (g.fdiv ((2 : Int) ^ min (c.getD 2 (0 : Int)).toNat 64))))) (br (decide (h = (↑3 : Int))) (ak f e a b c d g (d.getD 0 (0 : Int)) fun p => ak f e a b c d g (d.getD 1 (0 : Int)) fun q => br (decide (d.getD 2 (0 : Int) < (0 : Int))) none (k (bits BinOp.xor IntKind.u64 (bits BinOp.xor IntKind.u64 p q) (g.fdiv ((2 : Int) ^ min (d.getD 2 (0 : Int)).toNat 64))))) none)))
def iq {ρ : Type} := shut (o8 (ρ := ρ))
theorem vg {ρ : Type} (f : Int) (e : Int) (a : List Int) (b : List Int) (c : List Int) (d : List Int) (g : Int) (h : Int) (k : Int → Option ρ) : iq f e a b c d g h k = o8 f e a b c d g h k := by unfold iq; rw [bg]

abbrev bk9 (ρ : Type) := (List Int) → Int → Int → Int → Int → (List Int) → (List Int) → (List Int) → (List Int) → (List Int) → (List Int) → (List Int) → Option ρ
def tq {ρ : Type} (l : List Int) (b a c d : Int) (e f g h i j k : List Int) (nx m : bk9 ρ) : Option ρ := br (decide (a < 16)) (br (decide (0 ≤ IntKind.i64.wrap (a * b))) (br (decide (IntKind.i64.wrap (a * b) ≤ IntKind.i64.wrap (IntKind.i64.wrap (a + 1) * b))) (br (decide (IntKind.i64.wrap (IntKind.i64.wrap (a + 1) * b) ≤ (↑l.length : Int))) (iw (List.drop (IntKind.i64.wrap (a * b)).toNat (List.take (IntKind.i64.wrap (IntKind.i64.wrap (a + 1) * b)).toNat l)) fun n => br (decide (0 ≤ a)) (br (decide (a < (↑16 : Int))) (nx l b (IntKind.i64.wrap (a + 1)) c d e f g h i j (k.set a.toNat n)) none) none) none) none) none) (m l b a c d e f g h i j k)
abbrev bgr := (List Int) × Int × Int × Int × Int × (List Int) × (List Int) × (List Int) × (List Int) × (List Int) × (List Int) × (List Int)
abbrev bk0 := bgr
def bmg {ρ : Type} (f : bgr → Option ρ) : bk9 ρ := fun l m k a b c d e g h i j => f (l, m, k, a, b, c, d, e, g, h, i, j)
def bhl {ρ : Type} : ag8 bgr bk0 ρ := fun (k, l, j, a, b, c, d, e, f, g, h, i) next ex => tq k l j a b c d e f g h i (bmg next) (bmg ex)
def bm8 {ρ : Type} := shut (lp (bhl (ρ := ρ)))
theorem bnf {ρ : Type} : bm8 (ρ := ρ) = lp bhl := bg _
def bjf {ρ : Type} (f : ag2 bgr bk0 ρ) (l : List Int) (m k a b : Int) (c d e g h i j : List Int) (n : bk9 ρ) : Option ρ := f (l, m, k, a, b, c, d, e, g, h, i, j) (fun (l, m, k, a, b, c, d, e, g, h, i, j) => n l m k a b c d e g h i j)
def aaq {ρ : Type} := bjf (lp (bhl (ρ := ρ)))
def tu {ρ : Type} := bjf (bm8 (ρ := ρ))
theorem ac2 {ρ : Type} : tu (ρ := ρ) = aaq := congrArg bjf bnf
abbrev bmq (ρ : Type) := Int → Int → (List Int) → (List Int) → (List Int) → Int → Int → (List Int) → (List Int) → (List Int) → (List Int) → (List Int) → Option ρ
def sj {ρ : Type} (j b : Int) (c k l : List Int) (d e : Int) (f g h i a : List Int) (nx o : bmq ρ) : Option ρ := br (decide (b < j)) (br (decide (0 ≤ b.tmod 16)) (br (decide (b.tmod 16 < (↑16 : Int))) (gq d e f g h i (a.getD 4 0) 3 fun m => j5 b fun n => gq d e f g h i (a.getD 0 0) 2 fun p => br (decide (0 ≤ (IntKind.i64.wrap (b + 1)).tmod 16)) (br (decide ((IntKind.i64.wrap (b + 1)).tmod 16 < (↑16 : Int))) (iq d e f g h i (c.getD ((IntKind.i64.wrap (b + 1)).tmod 16).toNat 0) 0 fun q => br (decide (0 ≤ (IntKind.i64.wrap (b + 9)).tmod 16)) (br (decide ((IntKind.i64.wrap (b + 9)).tmod 16 < (↑16 : Int))) (br (decide (0 ≤ (IntKind.i64.wrap (b + 14)).tmod 16)) (br (decide ((IntKind.i64.wrap (b + 14)).tmod 16 < (↑16 : Int))) (iq d e f g h i (c.getD ((IntKind.i64.wrap (b + 14)).tmod 16).toNat 0) 1 fun r => br (decide (0 ≤ b.tmod 16)) (br (decide (b.tmod 16 < (↑16 : Int))) (nx j (IntKind.i64.wrap (b + 1)) (c.set (b.tmod 16).toNat (IntKind.u64.wrap (IntKind.u64.wrap (IntKind.u64.wrap (c.getD (b.tmod 16).toNat 0 + q) + c.getD ((IntKind.i64.wrap (b + 9)).tmod 16).toNat 0) + r))) k l d e f g h i ((((List.take 1 a).append (List.take 7 (List.take 7 (List.drop 0 a)) ++ List.drop (1 + min 7 (List.take 7 (List.drop 0 a)).length) a)).set 4 (IntKind.u64.wrap (((List.take 1 a).append (List.take 7 (List.take 7 (List.drop 0 a)) ++ List.drop (1 + min 7 (List.take 7 (List.drop 0 a)).length) a)).getD 4 0 + IntKind.u64.wrap (IntKind.u64.wrap (IntKind.u64.wrap (IntKind.u64.wrap (a.getD 7 0 + m) + bits BinOp.xor IntKind.u64 (a.getD 6 0) (bits BinOp.and IntKind.u64 (a.getD 4 0) (bits BinOp.xor IntKind.u64 (a.getD 5 0) (a.getD 6 0)))) + n) + c.getD (b.tmod 16).toNat 0)))).set 0 (IntKind.u64.wrap (IntKind.u64.wrap (IntKind.u64.wrap (IntKind.u64.wrap (IntKind.u64.wrap (a.getD 7 0 + m) + bits BinOp.xor IntKind.u64 (a.getD 6 0) (bits BinOp.and IntKind.u64 (a.getD 4 0) (bits BinOp.xor IntKind.u64 (a.getD 5 0) (a.getD 6 0)))) + n) + c.getD (b.tmod 16).toNat 0) + IntKind.u64.wrap (p + bits BinOp.or IntKind.u64 (bits BinOp.and IntKind.u64 (a.getD 0 0) (a.getD 1 0)) (bits BinOp.and IntKind.u64 (a.getD 2 0) (bits BinOp.or IntKind.u64 (a.getD 0 0) (a.getD 1 0)))))))) none) none) none) none) none) none) none) none) none) none) (o j b c k l d e f g h i a)
abbrev bil := Int × Int × (List Int) × (List Int) × (List Int) × Int × Int × (List Int) × (List Int) × (List Int) × (List Int) × (List Int)
abbrev bms := bil
def blo {ρ : Type} (f : bil → Option ρ) : bmq ρ := fun l m a b c d e g h i j k => f (l, m, a, b, c, d, e, g, h, i, j, k)
def bhn {ρ : Type} : ag8 bil bms ρ := fun (k, l, a, b, c, d, e, f, g, h, i, j) next ex => sj k l a b c d e f g h i j (blo next) (blo ex)
def bjs {ρ : Type} := shut (lp (bhn (ρ := ρ)))
theorem bnu {ρ : Type} : bjs (ρ := ρ) = lp bhn := bg _
def bi5 {ρ : Type} (f : ag2 bil bms ρ) (l m : Int) (a b c : List Int) (d e : Int) (g h i j k : List Int) (n : bmq ρ) : Option ρ := f (l, m, a, b, c, d, e, g, h, i, j, k) (fun (l, m, a, b, c, d, e, g, h, i, j, k) => n l m a b c d e g h i j k)
def zu {ρ : Type} := bi5 (lp (bhn (ρ := ρ)))
def ng {ρ : Type} := bi5 (bjs (ρ := ρ))
theorem aco {ρ : Type} : ng (ρ := ρ) = zu := congrArg bi5 bnu
abbrev bmk (ρ : Type) := Int → (List Int) → (List Int) → (List Int) → Option ρ
def qw {ρ : Type} (a : Int) (b d c : List Int) (nx e : bmk ρ) : Option ρ := br (decide (a < 8)) (br (decide (0 ≤ a)) (br (decide (a < (↑8 : Int))) (br (decide (0 ≤ a)) (br (decide (a < (↑8 : Int))) (br (decide (0 ≤ a)) (br (decide (a < (↑8 : Int))) (nx (IntKind.i64.wrap (a + 1)) b d (c.set a.toNat (IntKind.u64.wrap (c.getD a.toNat 0 + b.getD a.toNat 0)))) none) none) none) none) none) none) (e a b d c)
abbrev bgw := Int × (List Int) × (List Int) × (List Int)
abbrev bmc := bgw
def bmb {ρ : Type} (f : bgw → Option ρ) : bmk ρ := fun a b c d => f (a, b, c, d)
def bgg {ρ : Type} : ag8 bgw bmc ρ := fun (a, b, c, d) next ex => qw a b c d (bmb next) (bmb ex)
def bk7 {ρ : Type} := shut (lp (bgg (ρ := ρ)))
theorem bns {ρ : Type} : bk7 (ρ := ρ) = lp bgg := bg _
def bi8 {ρ : Type} (f : ag2 bgw bmc ρ) (a : Int) (b c d : List Int) (e : bmk ρ) : Option ρ := f (a, b, c, d) (fun (a, b, c, d) => e a b c d)
def zy {ρ : Type} := bi8 (lp (bgg (ρ := ρ)))
def ny {ρ : Type} := bi8 (bk7 (ρ := ρ))
theorem acj {ρ : Type} : ny (ρ := ρ) = zy := congrArg bi8 bns
def qy {ρ : Type} (a f : Int) (b c d e p q : List Int) (k : (List Int) → Option ρ) : Option ρ := tu q (IntKind.i64.wrap (a.tdiv 8)) 0 a f b c d e p [0, 0, 0, 0, 0, 0, 0, 0] [0, 0, 0, 0, 0, 0, 0, 0, 0, 0, 0, 0, 0, 0, 0, 0] fun N O Q r g s t u v h i j => ng g 0 j i h r g s t u v h fun w y z l m A B C F G H n => ny 0 m l n fun I J M o => k o
def je {ρ : Type} := shut (qy (ρ := ρ))
theorem aas {ρ : Type} (f : Int) (e : Int) (a : List Int) (b : List Int) (c : List Int) (d : List Int) (g : List Int) (h : List Int) (k : (List Int) → Option ρ) : je f e a b c d g h k = qy f e a b c d g h k := by unfold je; rw [bg]

abbrev bjx (ρ : Type) := (List Int) → (List Int) → Int → Int → Int → (List Int) → (List Int) → (List Int) → (List Int) → (List Int) → (List Int) → (List Int) → Option ρ
def zx {ρ : Type} (l b : List Int) (a c d : Int) (e f g h i j k : List Int) (nx m : bjx ρ) : Option ρ := br (decide (a < 8)) (br (decide (0 ≤ a)) (br (decide (a < (↑8 : Int))) (br (decide (0 ≤ a)) (br (decide (a < (↑8 : Int))) (nx l b (IntKind.i64.wrap (a + 1)) c d e f g h i j (k.set a.toNat (b.getD a.toNat 0))) none) none) none) none) (m l b a c d e f g h i j k)
abbrev bio := (List Int) × (List Int) × Int × Int × Int × (List Int) × (List Int) × (List Int) × (List Int) × (List Int) × (List Int) × (List Int)
abbrev bk4 := bio
def bkj {ρ : Type} (f : bio → Option ρ) : bjx ρ := fun m k l a b c d e g h i j => f (m, k, l, a, b, c, d, e, g, h, i, j)
def bie {ρ : Type} : ag8 bio bk4 ρ := fun (l, j, k, a, b, c, d, e, f, g, h, i) next ex => zx l j k a b c d e f g h i (bkj next) (bkj ex)
def bln {ρ : Type} := shut (lp (bie (ρ := ρ)))
theorem bny {ρ : Type} : bln (ρ := ρ) = lp bie := bg _
def biw {ρ : Type} (f : ag2 bio bk4 ρ) (m k : List Int) (l a b : Int) (c d e g h i j : List Int) (n : bjx ρ) : Option ρ := f (m, k, l, a, b, c, d, e, g, h, i, j) (fun (m, k, l, a, b, c, d, e, g, h, i, j) => n m k l a b c d e g h i j)
def acv {ρ : Type} := biw (lp (bie (ρ := ρ)))
def zl {ρ : Type} := biw (bln (ρ := ρ))
theorem afa {ρ : Type} : zl (ρ := ρ) = acv := congrArg biw bny
abbrev bj3 (ρ : Type) := (List Int) → Int → (List Int) → (List Int) → (List Int) → Int → Int → (List Int) → (List Int) → (List Int) → (List Int) → Option ρ
def aaf {ρ : Type} (b : List Int) (a : Int) (i j k : List Int) (c d : Int) (e f g h : List Int) (nx l : bj3 ρ) : Option ρ := br (decide ((↑b.length : Int) ≥ a)) (br (decide (0 ≤ a)) (br (decide (a ≤ (↑b.length : Int))) (je c d e f g h i (List.drop 0 (List.take a.toNat b)) fun m => br (decide (0 ≤ a)) (br (decide (a ≤ (↑b.length : Int))) (br (decide ((↑b.length : Int) ≤ (↑b.length : Int))) (nx (List.drop a.toNat (List.take (↑b.length : Int).toNat b)) a m j k c d e f g h) none) none) none) none) none) (l b a i j k c d e f g h)
abbrev bhv := (List Int) × Int × (List Int) × (List Int) × (List Int) × Int × Int × (List Int) × (List Int) × (List Int) × (List Int)
abbrev bkb := bhv
def bj8 {ρ : Type} (f : bhv → Option ρ) : bj3 ρ := fun l k a b c d e g h i j => f (l, k, a, b, c, d, e, g, h, i, j)
def bh8 {ρ : Type} : ag8 bhv bkb ρ := fun (k, j, a, b, c, d, e, f, g, h, i) next ex => aaf k j a b c d e f g h i (bj8 next) (bj8 ex)
def bm1 {ρ : Type} := shut (lp (bh8 (ρ := ρ)))
theorem bng {ρ : Type} : bm1 (ρ := ρ) = lp bh8 := bg _
def bi2 {ρ : Type} (f : ag2 bhv bkb ρ) (l : List Int) (k : Int) (a b c : List Int) (d e : Int) (g h i j : List Int) (m : bj3 ρ) : Option ρ := f (l, k, a, b, c, d, e, g, h, i, j) (fun (l, k, a, b, c, d, e, g, h, i, j) => m l k a b c d e g h i j)
def acz {ρ : Type} := bi2 (lp (bh8 (ρ := ρ)))
def zi {ρ : Type} := bi2 (bm1 (ρ := ρ))
theorem afd {ρ : Type} : zi (ρ := ρ) = acz := congrArg bi2 bng
abbrev bjv (ρ : Type) := (List Int) → (List Int) → Int → (List Int) → (List Int) → Option ρ
def y8 {ρ : Type} (e b : List Int) (a : Int) (c d : List Int) (nx f : bjv ρ) : Option ρ := br (decide (a < 8)) (br (decide (0 ≤ a)) (br (decide (a < (↑8 : Int))) (br (decide (0 ≤ a)) (br (decide (a < (↑8 : Int))) (nx e b (IntKind.i64.wrap (a + 1)) (c.set a.toNat (b.getD a.toNat 0)) d) none) none) none) none) (f e b a c d)
abbrev bhj := (List Int) × (List Int) × Int × (List Int) × (List Int)
abbrev bkx := bhj
def bkv {ρ : Type} (f : bhj → Option ρ) : bjv ρ := fun e c d a b => f (e, c, d, a, b)
def bhd {ρ : Type} : ag8 bhj bkx ρ := fun (e, c, d, a, b) next ex => y8 e c d a b (bkv next) (bkv ex)
def bli {ρ : Type} := shut (lp (bhd (ρ := ρ)))
theorem bnc {ρ : Type} : bli (ρ := ρ) = lp bhd := bg _
def bir {ρ : Type} (f : ag2 bhj bkx ρ) (e c : List Int) (d : Int) (a b : List Int) (g : bjv ρ) : Option ρ := f (e, c, d, a, b) (fun (e, c, d, a, b) => g e c d a b)
def abu {ρ : Type} := bir (lp (bhd (ρ := ρ)))
def y7 {ρ : Type} := bir (bli (ρ := ρ))
theorem ae0 {ρ : Type} : y7 (ρ := ρ) = abu := congrArg bir bnc
def yt {ρ : Type} (f e : Int) (a b c d g r : List Int) (k : (List Int) → (List Int) → Option ρ) : Option ρ := zl r g 0 f e a b c d g [0, 0, 0, 0, 0, 0, 0, 0] [0, 0, 0, 0, 0, 0, 0, 0] fun s O Q h t u v w y z i j => zi s (IntKind.i64.wrap (h * 2)) j i z h t u v w y fun l A m n o B C F G H I => y7 l m 0 o n fun p J M q N => k q p
def ku {ρ : Type} := shut (yt (ρ := ρ))
theorem acw {ρ : Type} (f : Int) (e : Int) (a : List Int) (b : List Int) (c : List Int) (d : List Int) (g : List Int) (h : List Int) (k : (List Int) → (List Int) → Option ρ) : ku f e a b c d g h k = yt f e a b c d g h k := by unfold ku; rw [bg]

def aja {ρ : Type} (k : Int → Int → (List Int) → (List Int) → (List Int) → (List Int) → Option ρ) : Option ρ := k 64 80 [1, 8, 7] [19, 61, 6] [28, 34, 39] [14, 18, 41]
def zm {ρ : Type} := shut (aja (ρ := ρ))
theorem ak8 {ρ : Type}  (k : Int → Int → (List Int) → (List Int) → (List Int) → (List Int) → Option ρ) : zm  k = aja  k := by unfold zm; rw [bg]

def kg {ρ : Type} (a : List Int) (k : (List Int) → Option ρ) : Option ρ := br (decide (a.length * 1 ≤ 140737488355328)) (k a) none

def ahw {ρ : Type} (a : Int) (b d : List Int) (c : Int) (e : List Int) (k : Int → (List Int) → (List Int) → Int → Option ρ) : Option ρ := eu [d, e] fun f => br (a == 1) (aah fun q r s t u v => kr q r s t u v b f fun w y => kg y fun z => k a w z (IntKind.u64.wrap (c + IntKind.u64.wrap (↑e.length : Int)))) (zm fun g h i j l m => ku g h i j l m b f fun n o => kg o fun p => k a n p (IntKind.u64.wrap (c + IntKind.u64.wrap (↑e.length : Int))))
def um {ρ : Type} := shut (ahw (ρ := ρ))
theorem aqb {ρ : Type} (b : Int) (a : List Int) (c : List Int) (d : Int) (e : List Int) (k : Int → (List Int) → (List Int) → Int → Option ρ) : um b a c d e k = ahw b a c d e k := by unfold um; rw [bg]

def ab6 {ρ : Type} (a : Int) (k : Int → Option ρ) : Option ρ := br (a == 1) (k 64) (k 128)
def ni {ρ : Type} := shut (ab6 (ρ := ρ))
theorem af2 {ρ : Type} (a : Int) (k : Int → Option ρ) : ni a k = ab6 a k := by unfold ni; rw [bg]

abbrev blc (ρ : Type) := Int → (List Int) → Int → (List Int) → Int → (List Int) → Int → (List Int) → Option ρ
def ahx {ρ : Type} (g : Int) (b : List Int) (a : Int) (c : List Int) (d : Int) (e : List Int) (f : Int) (h : List Int) (nx j : blc ρ) : Option ρ := br (decide (a < 8)) (br (decide (0 ≤ a)) (br (decide (a < (↑8 : Int))) (mq (b.getD a.toNat 0) (IntKind.i64.wrap (g.tdiv 16)) fun i => br (decide ((c.length + i.length) * 1 ≤ 140737488355328)) (nx g b (IntKind.i64.wrap (a + 1)) (c ++ i) d e f h) none) none) none) (j g b a c d e f h)
abbrev bgn := Int × (List Int) × Int × (List Int) × Int × (List Int) × Int × (List Int)
abbrev blz := bgn
def bj5 {ρ : Type} (f : bgn → Option ρ) : blc ρ := fun h d e g a b c i => f (h, d, e, g, a, b, c, i)
def bhg {ρ : Type} : ag8 bgn blz ρ := fun (g, d, e, f, a, b, c, h) next ex => ahx g d e f a b c h (bj5 next) (bj5 ex)
def bj0 {ρ : Type} := shut (lp (bhg (ρ := ρ)))
theorem bnh {ρ : Type} : bj0 (ρ := ρ) = lp bhg := bg _
def bi9 {ρ : Type} (f : ag2 bgn blz ρ) (h : Int) (d : List Int) (e : Int) (g : List Int) (a : Int) (b : List Int) (c : Int) (i : List Int) (j : blc ρ) : Option ρ := f (h, d, e, g, a, b, c, i) (fun (h, d, e, g, a, b, c, i) => j h d e g a b c i)
def aoi {ρ : Type} := bi9 (lp (bhg (ρ := ρ)))
def ah9 {ρ : Type} := bi9 (bj0 (ρ := ρ))
theorem aox {ρ : Type} : ah9 (ρ := ρ) = aoi := congrArg bi9 bnh
def ahz {ρ : Type} (c : Int) (e a : List Int) (d : Int) (k : (List Int) → Option ρ) : Option ρ := ni c fun b => br (decide (1 ≤ b)) (br (decide (b * (↑1 : Int) ≤ (↑140737488355328 : Int))) (br (decide (b = 0)) none (br (decide (0 ≤ IntKind.i64.wrap (IntKind.i64.wrap ((IntKind.i64.wrap (IntKind.i64.wrap (IntKind.i64.wrap (IntKind.i64.wrap (2 * b) - 1) - IntKind.i64.wrap (b.tdiv 8)) - (↑a.length : Int))).tmod b + IntKind.i64.wrap (b.tdiv 8)) - 8))) (br (decide ((1 + (IntKind.i64.wrap (IntKind.i64.wrap ((IntKind.i64.wrap (IntKind.i64.wrap (IntKind.i64.wrap (IntKind.i64.wrap (2 * b) - 1) - IntKind.i64.wrap (b.tdiv 8)) - (↑a.length : Int))).tmod b + IntKind.i64.wrap (b.tdiv 8)) - 8)).toNat) * 1 ≤ 140737488355328)) (mq (IntKind.u64.wrap (d * 2 ^ 3)) 8 fun g => br (decide ((((List.replicate (IntKind.i64.wrap (IntKind.i64.wrap ((IntKind.i64.wrap (IntKind.i64.wrap (IntKind.i64.wrap (IntKind.i64.wrap (2 * b) - 1) - IntKind.i64.wrap (b.tdiv 8)) - (↑a.length : Int))).tmod b + IntKind.i64.wrap (b.tdiv 8)) - 8)).toNat (0 : Int)).length.add 0).succ + g.length) * 1 ≤ 140737488355328)) (um c e a d ((List.replicate 1 (0 : Int)).set 0 128 ++ List.replicate (IntKind.i64.wrap (IntKind.i64.wrap ((IntKind.i64.wrap (IntKind.i64.wrap (IntKind.i64.wrap (IntKind.i64.wrap (2 * b) - 1) - IntKind.i64.wrap (b.tdiv 8)) - (↑a.length : Int))).tmod b + IntKind.i64.wrap (b.tdiv 8)) - 8)).toNat (0 : Int) ++ g) fun j h l m => ah9 b h 0 [] j h m l fun q r s f i n o p => br (i == 2) (br (decide (48 ≤ (↑f.length : Int))) (k (List.take ((48 : Int) - (0 : Int)).toNat f)) none) (k f)) none) none) none)) none) none
def abg {ρ : Type} := shut (ahz (ρ := ρ))
theorem apb {ρ : Type} (b : Int) (a : List Int) (c : List Int) (d : Int) (k : (List Int) → Option ρ) : abg b a c d k = ahz b a c d k := by unfold abg; rw [bg]

def ah8 {ρ : Type} (i : List Int) (j l : Int) (m : List (List Int)) (k : (List Int) → Option ρ) : Option ρ := abj 1 fun n o p q w => mq j 4 fun r => mq l 2 fun s => jr [i, r, s] fun t => um n o p q t fun u v a b => jr m fun c => um u v a b c fun d e f g => abg d e f g fun h => k h
def yj {ρ : Type} := shut (ah8 (ρ := ρ))
theorem apm {ρ : Type} (a : List Int) (b : Int) (c : Int) (d : List (List Int)) (k : (List Int) → Option ρ) : yj a b c d k = ah8 a b c d k := by unfold yj; rw [bg]

def aek {ρ : Type} (o : Int) (d : List Int) (e a b c p : Int) (q : List (List Int)) (k : (List Int) → Option ρ) : Option ρ := abj 1 fun r s t u B => mq (IntKind.u64.wrap e) 4 fun v => mq p 2 fun w => jr [d, v, w] fun y => um r s t u y fun z A f g => jr q fun h => um z A f g h fun i j l m => abg i j l m fun n => k n
def jq {ρ : Type} := shut (aek (ρ := ρ))
theorem akc {ρ : Type} (e : Int) (d : List Int) (f : Int) (a : Int) (b : Int) (c : Int) (g : Int) (h : List (List Int)) (k : (List Int) → Option ρ) : jq e d f a b c g h k = aek e d f a b c g h k := by unfold jq; rw [bg]

def aiz {ρ : Type} (c : List Int) (a b : Int) (k : Bool → Option ρ) : Option ρ := br (decide (a ≥ 1)) (br (decide (a ≤ 24)) (br (decide (b ≥ 0)) (br (decide (a = 0)) none (k (decide (b ≤ IntKind.i64.wrap ((IntKind.i64.wrap ((↑c.length : Int) * 8)).tdiv a))))) (k false)) (k false)) (k false)
def zh {ρ : Type} := shut (aiz (ρ := ρ))
theorem alk {ρ : Type} (a : List Int) (b : Int) (c : Int) (k : Bool → Option ρ) : zh a b c k = aiz a b c k := by unfold zh; rw [bg]

abbrev bkq (ρ : Type) := (List Int) → Int → Int → Int → Int → Int → Int → (List Int) → Option ρ
def aey {ρ : Type} (a : List Int) (e g f b c d : Int) (h : List Int) (nx i : bkq ρ) : Option ρ := br (decide (f < e)) (br (decide (0 < (↑a.length : Int))) (br (decide (1 ≤ (↑a.length : Int))) (br (decide ((↑a.length : Int) ≤ (↑a.length : Int))) (nx (List.drop 1 (List.take (↑a.length : Int).toNat a)) e (bits BinOp.or IntKind.u64 (IntKind.u64.wrap (g * 2 ^ 8)) (IntKind.u64.wrap (a.getD 0 0))) (IntKind.i64.wrap (f + 8)) b c d h) none) none) none) (i a e g f b c d h)
abbrev bhc := (List Int) × Int × Int × Int × Int × Int × Int × (List Int)
abbrev bls := bhc
def bmh {ρ : Type} (f : bhc → Option ρ) : bkq ρ := fun d e g h a b c i => f (d, e, g, h, a, b, c, i)
def bgq {ρ : Type} : ag8 bhc bls ρ := fun (d, e, f, g, a, b, c, h) next ex => aey d e f g a b c h (bmh next) (bmh ex)
def bj1 {ρ : Type} := shut (lp (bgq (ρ := ρ)))
theorem boa {ρ : Type} : bj1 (ρ := ρ) = lp bgq := bg _
def bji {ρ : Type} (f : ag2 bhc bls ρ) (d : List Int) (e g h a b c : Int) (i : List Int) (j : bkq ρ) : Option ρ := f (d, e, g, h, a, b, c, i) (fun (d, e, g, h, a, b, c, i) => j d e g h a b c i)
def ahm {ρ : Type} := bji (lp (bgq (ρ := ρ)))
def ahg {ρ : Type} := bji (bj1 (ρ := ρ))
theorem aks {ρ : Type} : ahg (ρ := ρ) = ahm := congrArg bji boa
abbrev bmw (ρ : Type) := (List Int) → Int → Int → Int → Int → Int → (List Int) → Option ρ
def aeu {ρ : Type} (f : List Int) (g h i c a : Int) (j : List Int) (nx m : bmw ρ) : Option ρ := br (decide (a < c)) (ahg f g h i a c a j fun n b k d e o p l => br (decide (IntKind.i64.wrap (d - b) < 0)) none (br (decide (b < 0)) none (br (decide (0 ≤ e)) (br (decide (e < (↑l.length : Int))) (nx n b k (IntKind.i64.wrap (d - b)) o (IntKind.i64.wrap (p + 1)) (l.set e.toNat (IntKind.u32.wrap (bits BinOp.and IntKind.u64 (k.fdiv (2 ^ min (IntKind.i64.wrap (d - b)).toNat 64)) (IntKind.u64.wrap (IntKind.u64.wrap (1 * 2 ^ min b.toNat 64) - 1)))))) none) none))) (m f g h i c a j)
abbrev bgk := (List Int) × Int × Int × Int × Int × Int × (List Int)
abbrev bna := bgk
def bk5 {ρ : Type} (f : bgk → Option ρ) : bmw ρ := fun c d e g a b h => f (c, d, e, g, a, b, h)
def bg1 {ρ : Type} : ag8 bgk bna ρ := fun (c, d, e, f, a, b, g) next ex => aeu c d e f a b g (bk5 next) (bk5 ex)
def bmx {ρ : Type} := shut (lp (bg1 (ρ := ρ)))
theorem bnj {ρ : Type} : bmx (ρ := ρ) = lp bg1 := bg _
def biu {ρ : Type} (f : ag2 bgk bna ρ) (c : List Int) (d e g a b : Int) (h : List Int) (i : bmw ρ) : Option ρ := f (c, d, e, g, a, b, h) (fun (c, d, e, g, a, b, h) => i c d e g a b h)
def ahk {ρ : Type} := biu (lp (bg1 (ρ := ρ)))
def ahn {ρ : Type} := biu (bmx (ρ := ρ))
theorem ako {ρ : Type} : ahn (ρ := ρ) = ahk := congrArg biu bnj
def adu {ρ : Type} (b : List Int) (c a : Int) (k : (List Int) → Option ρ) : Option ρ := zh b c a fun d => br (!d) (k []) (br (decide (0 ≤ a)) (br (decide (a ≤ a)) (br (decide (a * (↑4 : Int) ≤ (↑140737488355328 : Int))) (ahn b c 0 0 (↑(List.replicate a.toNat (0 : Int)).length : Int) 0 (List.replicate a.toNat (0 : Int)) fun f g h i j l e => k e) none) none) none)
def qp {ρ : Type} := shut (adu (ρ := ρ))
theorem ahj {ρ : Type} (a : List Int) (b : Int) (c : Int) (k : (List Int) → Option ρ) : qp a b c k = adu a b c k := by unfold qp; rw [bg]

abbrev bl5 (ρ : Type) := Int → Int → Int → Int → Int → Int → Int → (List Int) → Option ρ
def anb {ρ : Type} (g h b a c d e : Int) (f : List Int) (nx i : bl5 ρ) : Option ρ := br (decide (a < b)) (br (decide (0 ≤ a)) (br (decide (a < (↑f.length : Int))) (nx g (IntKind.u64.wrap (h - IntKind.u64.wrap (f.getD a.toNat 0))) b (IntKind.i64.wrap (a + 1)) c d e f) none) none) (i g h b a c d e f)
abbrev bgm := Int × Int × Int × Int × Int × Int × Int × (List Int)
abbrev bj9 := bgm
def bog {ρ : Type} (f : bgm → Option ρ) : bl5 ρ := fun g h d e a b c i => f (g, h, d, e, a, b, c, i)
def bi0 {ρ : Type} : ag8 bgm bj9 ρ := fun (f, g, d, e, a, b, c, h) next ex => anb f g d e a b c h (bog next) (bog ex)
def bkk {ρ : Type} := shut (lp (bi0 (ρ := ρ)))
theorem bnq {ρ : Type} : bkk (ρ := ρ) = lp bi0 := bg _
def bko {ρ : Type} (f : ag2 bgm bj9 ρ) (g h d e a b c : Int) (i : List Int) (j : bl5 ρ) : Option ρ := f (g, h, d, e, a, b, c, i) (fun (g, h, d, e, a, b, c, i) => j g h d e a b c i)
def an9 {ρ : Type} := bko (lp (bi0 (ρ := ρ)))
def agm {ρ : Type} := bko (bkk (ρ := ρ))
theorem axc {ρ : Type} : agm (ρ := ρ) = an9 := congrArg bko bnq
def af3 {ρ : Type} (a : Int) (f : List Int) (k : (List Int) → Int → Option ρ) : Option ρ := l5 a fun h i j l => br (!l) (k [] 9) (br ((↑f.length : Int) != 32) (k [] 14) (br (decide (a = 0)) none (qp f a (IntKind.i64.wrap (Int.tdiv 256 a)) fun e => br (decide (a < 0)) none (agm a (IntKind.u64.wrap (IntKind.u64.wrap (↑e.length : Int) * IntKind.u64.wrap (IntKind.u64.wrap (1 * 2 ^ min a.toNat 64) - 1))) (↑e.length : Int) 0 h i j e fun m n q r o c p b => br (decide (c < 0)) none (mq (IntKind.u64.wrap (n * 2 ^ min c.toNat 64)) 2 fun g => qp g m (IntKind.i64.wrap (o - (↑b.length : Int))) fun d => br (decide ((b.length + d.length) * 4 ≤ 140737488355328)) (k (b ++ d) 0) none)))))
def wu {ρ : Type} := shut (af3 (ρ := ρ))
theorem am6 {ρ : Type} (a : Int) (b : List Int) (k : (List Int) → Int → Option ρ) : wu a b k = af3 a b k := by unfold wu; rw [bg]

def abn {ρ : Type} (d : Int) (e : List Int) (f a b c : Int) (g h : List Int) (k : (List Int) → Option ρ) : Option ρ := jq d e f a b c 33153 [g, h] fun i => wu d i fun j l => k j
def lu {ρ : Type} := shut (abn (ρ := ρ))
theorem af8 {ρ : Type} (e : Int) (d : List Int) (f : Int) (a : Int) (b : Int) (c : Int) (g : List Int) (h : List Int) (k : (List Int) → Option ρ) : lu e d f a b c g h k = abn e d f a b c g h k := by unfold lu; rw [bg]

abbrev bmt (ρ : Type) := Int → Int → (List Int) → Int → Int → Int → (List Int) → Int → Int → Int → Int → Option ρ
def aik {ρ : Type} (i j : Int) (k : List Int) (h g a : Int) (b : List Int) (c d e f : Int) (nx l : bmt ρ) : Option ρ := br (decide (g < h)) (jq a b c d e f (IntKind.u64.wrap i) [[IntKind.u8.wrap (IntKind.u32.wrap (j + g))], k] fun m => nx i j m h (IntKind.u32.wrap (g + 1)) a b c d e f) (l i j k h g a b c d e f)
abbrev bik := Int × Int × (List Int) × Int × Int × Int × (List Int) × Int × Int × Int × Int
abbrev blj := bik
def bob {ρ : Type} (f : bik → Option ρ) : bmt ρ := fun j k l h i a b c d e g => f (j, k, l, h, i, a, b, c, d, e, g)
def bjm {ρ : Type} : ag8 bik blj ρ := fun (i, j, k, g, h, a, b, c, d, e, f) next ex => aik i j k g h a b c d e f (bob next) (bob ex)
def bkm {ρ : Type} := shut (lp (bjm (ρ := ρ)))
theorem bnz {ρ : Type} : bkm (ρ := ρ) = lp bjm := bg _
def bkr {ρ : Type} (f : ag2 bik blj ρ) (j k : Int) (l : List Int) (h i a : Int) (b : List Int) (c d e g : Int) (m : bmt ρ) : Option ρ := f (j, k, l, h, i, a, b, c, d, e, g) (fun (j, k, l, h, i, a, b, c, d, e, g) => m j k l h i a b c d e g)
def ah1 {ρ : Type} := bkr (lp (bjm (ρ := ρ)))
def ady {ρ : Type} := bkr (bkm (ρ := ρ))
theorem ar6 {ρ : Type} : ady (ρ := ρ) = ah1 := congrArg bkr bnz
def ada {ρ : Type} (e : Int) (d : List Int) (f a b c g h i : Int) (j : List Int) (k : (List Int) → Option ρ) : Option ρ := ady g h j i 0 e d f a b c fun n o l p q r s t u v m => k l
def ou {ρ : Type} := shut (ada (ρ := ρ))
theorem ah4 {ρ : Type} (e : Int) (d : List Int) (f : Int) (a : Int) (b : Int) (c : Int) (g : Int) (h : Int) (i : Int) (j : List Int) (k : (List Int) → Option ρ) : ou e d f a b c g h i j k = ada e d f a b c g h i j k := by unfold ou; rw [bg]

def ac9 {ρ : Type} (c : Int) (e : List Int) (f a b d : Int) (k : Int → Option ρ) : Option ρ := br (decide (c < 0)) none (k (IntKind.u32.wrap (IntKind.u32.wrap (1 * 2 ^ min c.toNat 32) - 1)))
def oq {ρ : Type} := shut (ac9 (ρ := ρ))
theorem ain {ρ : Type} (e : Int) (d : List Int) (f : Int) (a : Int) (b : Int) (c : Int) (k : Int → Option ρ) : oq e d f a b c k = ac9 e d f a b c k := by unfold oq; rw [bg]

def agj {ρ : Type} (a : Int) (b : List Int) (c : Int) (k : Int → (List Int) → Int → Int → Int → Int → Int → Option ρ) : Option ρ := l5 a fun d e f g => br (!g) (k 0 [] 0 0 0 0 9) (br ((↑b.length : Int) != 16) (k 0 [] 0 0 0 0 14) (k a b c d e f 0))
def zw {ρ : Type} := shut (agj (ρ := ρ))
theorem aop {ρ : Type} (a : Int) (b : List Int) (c : Int) (k : Int → (List Int) → Int → Int → Int → Int → Int → Option ρ) : zw a b c k = agj a b c k := by unfold zw; rw [bg]

abbrev bkh (ρ : Type) := (List Int) → Int → Int → (List Int) → Int → (List Int) → Int → Int → Int → Int → (List Int) → Option ρ
def ai8 {ρ : Type} (a : List Int) (i b : Int) (k : List Int) (c : Int) (d : List Int) (e f g h : Int) (j : List Int) (nx m : bkh ρ) : Option ρ := br (decide (b < i)) (br (decide (0 ≤ b)) (br (decide (b < (↑j.length : Int))) (oq c d e f g h fun n => br (decide (32 ≤ (↑a.length : Int))) (ou c d e f g h b (j.getD b.toNat 0) (IntKind.u32.wrap (n - j.getD b.toNat 0)) (List.drop 0 (List.take (Int.toNat 32) a)) fun l => br (decide ((k.length + l.length) * 1 ≤ 140737488355328)) (br (decide (32 ≤ (↑a.length : Int))) (br (decide ((↑a.length : Int) ≤ (↑a.length : Int))) (nx (List.drop 32 (List.take (↑a.length : Int).toNat a)) i (IntKind.i64.wrap (b + 1)) (k ++ l) c d e f g h j) none) none) none) none) none) none) (m a i b k c d e f g h j)
abbrev bhu := (List Int) × Int × Int × (List Int) × Int × (List Int) × Int × Int × Int × Int × (List Int)
abbrev bmu := bhu
def bn2 {ρ : Type} (f : bhu → Option ρ) : bkh ρ := fun h i j k a b c d e g l => f (h, i, j, k, a, b, c, d, e, g, l)
def biq {ρ : Type} : ag8 bhu bmu ρ := fun (g, h, i, j, a, b, c, d, e, f, k) next ex => ai8 g h i j a b c d e f k (bn2 next) (bn2 ex)
def bjt {ρ : Type} := shut (lp (biq (ρ := ρ)))
theorem bof {ρ : Type} : bjt (ρ := ρ) = lp biq := bg _
def blm {ρ : Type} (f : ag2 bhu bmu ρ) (h : List Int) (i j : Int) (k : List Int) (a : Int) (b : List Int) (c d e g : Int) (l : List Int) (m : bkh ρ) : Option ρ := f (h, i, j, k, a, b, c, d, e, g, l) (fun (h, i, j, k, a, b, c, d, e, g, l) => m h i j k a b c d e g l)
def aiq {ρ : Type} := blm (lp (biq (ρ := ρ)))
def aea {ρ : Type} := blm (bjt (ρ := ρ))
theorem as4 {ρ : Type} : aea (ρ := ρ) = aiq := congrArg blm bof
def adq {ρ : Type} (c : Int) (t : List Int) (u : Int) (v a : List Int) (k : (List Int) → Int → Option ρ) : Option ρ := zw c t u fun d e f g h b i => br (i != 0) (k [] i) (jg c fun w => br ((↑a.length : Int) != w) (k [] 1) (br (decide (4 ≤ (↑a.length : Int))) (iw (List.drop 0 (List.take (Int.toNat 4) a)) fun y => br (y != IntKind.u64.wrap b) (k [] 1) (br (decide (36 ≤ (↑a.length : Int))) (br (decide ((↑a.length : Int) ≤ (↑a.length : Int))) (br (decide (36 ≤ (↑a.length : Int))) (lu d e f g h b (List.drop 4 (List.take (Int.toNat 36) a)) v fun j => aea (List.drop 36 (List.take (↑a.length : Int).toNat a)) (↑j.length : Int) 0 [] d e f g h b j fun z A B l m n o p q r C => jq m n o p q r 32896 [l] fun s => k s 0) none) none) none)) none))
def ji {ρ : Type} := shut (adq (ρ := ρ))
theorem aje {ρ : Type} (a : Int) (b : List Int) (c : Int) (d : List Int) (e : List Int) (k : (List Int) → Int → Option ρ) : ji a b c d e k = adq a b c d e k := by unfold ji; rw [bg]

abbrev bkl (ρ : Type) := Int → (List Int) → (List Int) → (List Int) → (List Int) → Option ρ
def ar4 {ρ : Type} (c : Int) (b e d a : List Int) (nx f : bkl ρ) : Option ρ := br (decide (c > (1 : Int))) (br (decide ((32 : Int) ≤ (↑a.length : Int))) (br (c.tmod (2 : Int) == (1 : Int)) (yj b (IntKind.u64.wrap (c.tdiv (2 : Int))) (33667 : Int) [List.drop 0 (List.take (Int.toNat (32 : Int)) a), d] fun g => br (decide ((32 : Int) ≤ (↑a.length : Int))) (br (decide ((↑a.length : Int) ≤ (↑a.length : Int))) (nx (IntKind.u64.wrap (c.tdiv (2 : Int))) b e g (List.drop 32 (List.take (↑a.length : Int).toNat a))) none) none) (yj b (IntKind.u64.wrap (c.tdiv (2 : Int))) (33667 : Int) [d, List.drop 0 (List.take (Int.toNat (32 : Int)) a)] fun h => br (decide ((32 : Int) ≤ (↑a.length : Int))) (br (decide ((↑a.length : Int) ≤ (↑a.length : Int))) (nx (IntKind.u64.wrap (c.tdiv (2 : Int))) b e h (List.drop 32 (List.take (↑a.length : Int).toNat a))) none) none)) none) (f c b e d a)
abbrev bgo := Int × (List Int) × (List Int) × (List Int) × (List Int)
abbrev bke := bgo
def bnp {ρ : Type} (f : bgo → Option ρ) : bkl ρ := fun d a e b c => f (d, a, e, b, c)
def biy {ρ : Type} : ag8 bgo bke ρ := fun (d, a, e, b, c) next ex => ar4 d a e b c (bnp next) (bnp ex)
def blp {ρ : Type} := shut (lp (biy (ρ := ρ)))
theorem bnb {ρ : Type} : blp (ρ := ρ) = lp biy := bg _
def bl3 {ρ : Type} (f : ag2 bgo bke ρ) (d : Int) (a e b c : List Int) (g : bkl ρ) : Option ρ := f (d, a, e, b, c) (fun (d, a, e, b, c) => g d a e b c)
def aql {ρ : Type} := bl3 (lp (biy (ρ := ρ)))
def ai0 {ρ : Type} := bl3 (blp (ρ := ρ))
theorem ayv {ρ : Type} : ai0 (ρ := ρ) = aql := congrArg bl3 bnb
def ak9 {ρ : Type} (a d : Int) (e h b : List Int) (k : (List Int) → Option ρ) : Option ρ := br (decide (4 ≤ (↑b.length : Int))) (iw (List.drop 0 (List.take (Int.toNat 4) b)) fun f => jg d fun c => br (decide (4 ≤ IntKind.i64.wrap (4 + c))) (br (decide (IntKind.i64.wrap (4 + c) ≤ (↑b.length : Int))) (ji d e (IntKind.u32.wrap f) h (List.drop 4 (List.take (IntKind.i64.wrap (4 + c)).toNat b)) fun i l => br (decide (a < 0)) none (yj e (IntKind.u64.wrap (IntKind.u64.wrap (1 * 2 ^ min a.toNat 64) + IntKind.u64.wrap (IntKind.u32.wrap f))) 33410 [i] fun g => br (decide (0 ≤ IntKind.i64.wrap (IntKind.i64.wrap (4 + c) + 4))) (br (decide (IntKind.i64.wrap (IntKind.i64.wrap (4 + c) + 4) ≤ (↑b.length : Int))) (br (decide ((↑b.length : Int) ≤ (↑b.length : Int))) (br (decide (a < 0)) none (ai0 (IntKind.u64.wrap (IntKind.u64.wrap (1 * 2 ^ min a.toNat 64) + IntKind.u64.wrap (IntKind.u32.wrap f))) e g g (List.drop (IntKind.i64.wrap (IntKind.i64.wrap (4 + c) + 4)).toNat (List.take (↑b.length : Int).toNat b)) fun m n o j p => k j)) none) none) none)) none) none) none
def aec {ρ : Type} := shut (ak9 (ρ := ρ))
theorem auy {ρ : Type} (a : Int) (b : Int) (c : List Int) (d : List Int) (e : List Int) (k : (List Int) → Option ρ) : aec a b c d e k = ak9 a b c d e k := by unfold aec; rw [bg]

def ahl {ρ : Type} (a j b : List Int) (k : Int → Option ρ) : Option ρ := br ((↑a.length : Int) != 56) (k 10) (br (decide (4 ≤ (↑a.length : Int))) (iw (List.drop 0 (List.take (Int.toNat 4) a)) fun l => qd l fun m => br (m == 0) (k 10) (br (decide (8 ≤ (↑a.length : Int))) (iw (List.drop 4 (List.take (Int.toNat 8) a)) fun n => ug n fun o => br (o == 0) (k 10) (ab7 b fun r c d p e => br (e != 0) (k e) (br (decide ((↑p.length : Int) > 0)) (k 1) (aej c d fun q => br (decide (8 ≤ (↑a.length : Int))) (zf q (List.drop 0 (List.take (Int.toNat 8) a)) fun f => br (!f) (k 1) (br (decide (4 ≤ (↑b.length : Int))) (iw (List.drop 0 (List.take (Int.toNat 4) b)) fun g => br (decide (c < 0)) none (br (g.fdiv (2 ^ min c.toNat 64) != 0) (k 13) (br (decide (24 ≤ (↑a.length : Int))) (aec c d (List.drop 8 (List.take (Int.toNat 24) a)) j b fun h => br (decide (24 ≤ (↑a.length : Int))) (br (decide ((↑a.length : Int) ≤ (↑a.length : Int))) (zf h (List.drop 24 (List.take (↑a.length : Int).toNat a)) fun i => br (!i) (k 11) (k 0)) none) none) none))) none)) none)))) none)) none)
def aal {ρ : Type} := shut (ahl (ρ := ρ))
theorem aqf {ρ : Type} (a : List Int) (b : List Int) (c : List Int) (k : Int → Option ρ) : aal a b c k = ahl a b c k := by unfold aal; rw [bg]

def ak7 {ρ : Type} (b e f : List Int) (g : Bool) (k : (List Int) → (List Int) → Int → Option ρ) : Option ρ := ab7 f fun c j l a d => br (d != 0) (k [] [] d) (br g (br (decide ((↑a.length : Int) > 0)) (k [] [] 1) (aal b e c fun h => k [] [] h)) (br (decide ((↑a.length : Int) < 56)) (k [] [] 1) (br (decide (56 ≤ (↑a.length : Int))) (br (decide (56 ≤ (↑a.length : Int))) (br (decide ((↑a.length : Int) ≤ (↑a.length : Int))) (aal b (List.take ((56 : Int) - (0 : Int)).toNat (List.drop 0 a)) c fun i => k (List.take ((56 : Int) - (0 : Int)).toNat (List.drop 0 a)) (List.take ((↑a.length : Int) - 56).toNat (List.drop 56 a)) i) none) none) none)))
def aeo {ρ : Type} := shut (ak7 (ρ := ρ))
theorem auw {ρ : Type} (a : List Int) (b : List Int) (c : List Int) (d : Bool) (k : (List Int) → (List Int) → Int → Option ρ) : aeo a b c d k = ak7 a b c d k := by unfold aeo; rw [bg]

abbrev bky (ρ : Type) := (List Int) → Int → (List Int) → (List Int) → Option ρ
def aq8 {ρ : Type} (b : List Int) (a : Int) (c d : List Int) (nx f : bky ρ) (g : Int → Option ρ) : Option ρ := br (decide (a > 0)) (aeo c b d (a == 1) fun h i e => br (e != 0) (g e) (nx b (IntKind.u64.wrap (a - 1)) h i)) (f b a c d)
abbrev bi3 := (List Int) × Int × (List Int) × (List Int)
abbrev bm3 := ((List Int) × Int × (List Int) × (List Int)) ⊕ (Int)
def zu30 {ρ : Type} (f : bi3 → Option ρ) : bky ρ := fun a b c d => f (a, b, c, d)
def bjo {ρ : Type} : ag8 bi3 bm3 ρ := fun (a, b, c, d) next ex => aq8 a b c d (zu30 next) (fun a b c d => ex (.inl (a, b, c, d))) (fun e => ex (.inr e))
def bks {ρ : Type} := shut (lp (bjo (ρ := ρ)))
theorem bnr {ρ : Type} : bks (ρ := ρ) = lp bjo := bg _
def bk8 {ρ : Type} (f : ag2 bi3 bm3 ρ) (a : List Int) (b : Int) (c d : List Int) (e : bky ρ) (g : Int → Option ρ) : Option ρ := f (a, b, c, d) (Sum.elim (fun (a, b, c, d) => e a b c d) (fun x => g x))
def aqx {ρ : Type} := bk8 (lp (bjo (ρ := ρ)))
def ais {ρ : Type} := bk8 (bks (ρ := ρ))
theorem ayu {ρ : Type} : ais (ρ := ρ) = aqx := congrArg bk8 bnr
def aep {ρ : Type} (a d b : List Int) (k : Int → Option ρ) : Option ρ := br ((↑a.length : Int) != 60) (k 10) (br (decide (4 ≤ (↑a.length : Int))) (iw (List.drop 0 (List.take (Int.toNat 4) a)) fun c => br (decide (c < 1)) (k 10) (br (decide (c > 8)) (k 10) (br (decide ((↑b.length : Int) < 4)) (k 1) (br (decide (4 ≤ (↑b.length : Int))) (iw (List.drop 0 (List.take (Int.toNat 4) b)) fun e => br (e != IntKind.u64.wrap (c - 1)) (k 1) (br (decide (4 ≤ (↑a.length : Int))) (br (decide ((↑a.length : Int) ≤ (↑a.length : Int))) (br (decide (4 ≤ (↑b.length : Int))) (br (decide ((↑b.length : Int) ≤ (↑b.length : Int))) (ais d c (List.drop 4 (List.take (↑a.length : Int).toNat a)) (List.drop 4 (List.take (↑b.length : Int).toNat b)) (fun g h i j => k 0) fun f => k f) none) none) none) none)) none)))) none)
def aap {ρ : Type} := shut (aep (ρ := ρ))
theorem ai4 {ρ : Type} (a : List Int) (b : List Int) (c : List Int) (k : Int → Option ρ) : aap a b c k = aep a b c k := by unfold aap; rw [bg]

def afg {ρ : Type} (k : Bool → Option ρ) : Option ρ := qc 2 [(2 : Int), (3 : Int)] [(1 : Int), (1 : Int)] (List.replicate 16 (0 : Int)) (List.replicate 32 (0 : Int)) (9 : Int) fun a b => qm 2 [(2 : Int), (3 : Int)] [(1 : Int), (1 : Int)] (List.replicate 16 (0 : Int)) (List.replicate 32 (0 : Int)) fun c => br (c == (32 : Int)) (br (b == (0 : Int)) (br ((↑a.length : Int) == (2 : Int)) (br (decide ((0 : Int) < (↑a.length : Int))) (br (a.getD 0 (0 : Int) == (1 : Int)) (br (decide ((1 : Int) < (↑a.length : Int))) (br (a.getD 1 (0 : Int) == (1 : Int)) (aap [] [] [] fun d => k (d == (10 : Int))) (k false)) none) (k false)) none) (k false)) (k false)) (k false)
def p9 {ρ : Type} := shut (afg (ρ := ρ))
theorem ak1 {ρ : Type}  (k : Bool → Option ρ) : p9  k = afg  k := by unfold p9; rw [bg]

def aeg {ρ : Type} (a : Int) (k : Int → Option ρ) : Option ρ := br (decide (a ≥ (1 : Int))) (br (decide (a ≤ (4 : Int))) (k (IntKind.u64.wrap ((3758096384 : Int) + IntKind.u64.wrap a))) (br (decide (a ≥ (5 : Int))) (br (decide (a ≤ (25 : Int))) (br (a.tmod (5 : Int) == (0 : Int)) (k (IntKind.u64.wrap (IntKind.i64.wrap ((4 : Int) + IntKind.i64.wrap (a.tdiv (5 : Int)))))) (k (0 : Int))) (k (0 : Int))) (k (0 : Int)))) (br (decide (a ≥ (5 : Int))) (br (decide (a ≤ (25 : Int))) (br (a.tmod (5 : Int) == (0 : Int)) (k (IntKind.u64.wrap (IntKind.i64.wrap ((4 : Int) + IntKind.i64.wrap (a.tdiv (5 : Int)))))) (k (0 : Int))) (k (0 : Int))) (k (0 : Int)))
def aa0 {ρ : Type} := shut (aeg (ρ := ρ))
theorem ail {ρ : Type} (a : Int) (k : Int → Option ρ) : aa0 a k = aeg a k := by unfold aa0; rw [bg]

def agl {ρ : Type} (a : Int) (k : Int → Int → Int → Option ρ) : Option ρ := br (a == 1) (k 265 7 1) (br (a == 2) (k 133 6 2) (br (a == 4) (k 67 4 3) (br (a == 8) (k 34 0 4) (k 0 0 0))))
def aa3 {ρ : Type} := shut (agl (ρ := ρ))
theorem aby {ρ : Type} (a : Int) (k : Int → Int → Int → Option ρ) : aa3 a k = agl a k := by unfold aa3; rw [bg]

def aed {ρ : Type} (b : Int) (k : Int → Option ρ) : Option ρ := aa3 b fun a c d => br (a == 0) (k 0) (k (IntKind.i64.wrap (36 + IntKind.i64.wrap (32 * a))))
def aa1 {ρ : Type} := shut (aed (ρ := ρ))
theorem ahu {ρ : Type} (a : Int) (k : Int → Option ρ) : aa1 a k = aed a k := by unfold aa1; rw [bg]

def aij {ρ : Type} (a b : Int) (k : Bool → Option ρ) : Option ρ := aa0 a fun c => br (c != 0) (aa1 b fun d => k (d != 0)) (k false)
def ae2 {ρ : Type} := shut (aij (ρ := ρ))
theorem ao1 {ρ : Type} (a : Int) (b : Int) (k : Bool → Option ρ) : ae2 a b k = aij a b k := by unfold ae2; rw [bg]

abbrev bka (ρ : Type) := Int → Int → Nat → (List Int) → (List Int) → (List Int) → (List Int) → Option ρ
def adl {ρ : Type} (h d : Int) (c : Nat) (a b e f : List Int) (nx i : bka ρ) (g : Bool → Int → Int → Int → Int → Nat → (List Int) → (List Int) → (List Int) → (List Int) → Option ρ) : Option ρ := br (decide (d < (↑c : Int))) (br (decide ((0 : Int) ≤ d)) (br (decide (d < (↑c : Int))) (br (decide (d ≥ (8 : Int))) (g false (a.getD d.toNat (0 : Int)) (b.getD d.toNat (0 : Int)) (0 : Int) (0 : Int) c a b e f) (ae2 (a.getD d.toNat (0 : Int)) (b.getD d.toNat (0 : Int)) fun j => br (!j) (g false (a.getD d.toNat (0 : Int)) (b.getD d.toNat (0 : Int)) (0 : Int) (0 : Int) c a b e f) (br (decide (a.getD d.toNat (0 : Int) > (10 : Int))) (g false (a.getD d.toNat (0 : Int)) (b.getD d.toNat (0 : Int)) (0 : Int) (0 : Int) c a b e f) (nx (IntKind.i64.wrap (h + a.getD d.toNat (0 : Int))) (IntKind.i64.wrap (d + (1 : Int))) c a b e f)))) none) none) (i h d c a b e f)
abbrev bjj := Int × Int × Nat × (List Int) × (List Int) × (List Int) × (List Int)
abbrev blh := (Int × Int × Nat × (List Int) × (List Int) × (List Int) × (List Int)) ⊕ (Bool × Int × Int × Int × Int × Nat × (List Int) × (List Int) × (List Int) × (List Int))
def bml {ρ : Type} (f : bjj → Option ρ) : bka ρ := fun g h a b c d e => f (g, h, a, b, c, d, e)
def bge {ρ : Type} : ag8 bjj blh ρ := fun (h, i, a, b, c, d, e) next ex => adl h i a b c d e (bml next) (fun h i a b c d e => ex (.inl (h, i, a, b, c, d, e))) (fun l j k f g a b c d e => ex (.inr (l, j, k, f, g, a, b, c, d, e)))
def bkw {ρ : Type} := shut (lp (bge (ρ := ρ)))
theorem bnm {ρ : Type} : bkw (ρ := ρ) = lp bge := bg _
def bij {ρ : Type} (f : ag2 bjj blh ρ) (g h : Int) (a : Nat) (b c d e : List Int) (i : bka ρ) (j : Bool → Int → Int → Int → Int → Nat → (List Int) → (List Int) → (List Int) → (List Int) → Option ρ) : Option ρ := f (g, h, a, b, c, d, e) (Sum.elim (fun (g, h, a, b, c, d, e) => i g h a b c d e) (fun x => j x.1 x.2.1 x.2.2.1 x.2.2.2.1 x.2.2.2.2.1 x.2.2.2.2.2.1 x.2.2.2.2.2.2.1 x.2.2.2.2.2.2.2.1 x.2.2.2.2.2.2.2.2.1 x.2.2.2.2.2.2.2.2.2))
def akv {ρ : Type} := bij (lp (bge (ρ := ρ)))
def aph {ρ : Type} := bij (bkw (ρ := ρ))
theorem ai2 {ρ : Type} : aph (ρ := ρ) = akv := congrArg bij bnm
def afh {ρ : Type} (a : Nat) (b c e d : List Int) (k : Bool → Option ρ) : Option ρ := aph 0 0 a b c e d (fun f s g t u h i => br (decide ((↑g : Int) ≥ 1)) (br (decide (f ≤ 60)) (br ((↑h.length : Int) == 16) (k ((↑i.length : Int) == 32)) (k false)) (k false)) (k false)) fun j v w l m n o p q r => k j
def aau {ρ : Type} := shut (afh (ρ := ρ))
theorem akt {ρ : Type} (a : Nat) (b : List Int) (c : List Int) (e : List Int) (d : List Int) (k : Bool → Option ρ) : aau a b c e d k = afh a b c e d k := by unfold aau; rw [bg]

abbrev bm4 (ρ : Type) := Int → Int → Nat → (List Int) → (List Int) → (List Int) → (List Int) → Option ρ
def af0 {ρ : Type} (g c : Int) (a : Nat) (b d e f : List Int) (nx h : bm4 ρ) : Option ρ := br (decide (c < (↑a : Int))) (br (decide ((0 : Int) ≤ c)) (br (decide (c < (↑a : Int))) (br (decide (b.getD c.toNat (0 : Int) < (0 : Int))) none (nx (IntKind.u64.wrap (g * (2 : Int) ^ min (b.getD c.toNat (0 : Int)).toNat 64)) (IntKind.i64.wrap (c + (1 : Int))) a b d e f)) none) none) (h g c a b d e f)
abbrev bhb := Int × Int × Nat × (List Int) × (List Int) × (List Int) × (List Int)
abbrev bmy := bhb
def bkc {ρ : Type} (f : bhb → Option ρ) : bm4 ρ := fun g h a b c d e => f (g, h, a, b, c, d, e)
def bg8 {ρ : Type} : ag8 bhb bmy ρ := fun (f, g, a, b, c, d, e) next ex => af0 f g a b c d e (bkc next) (bkc ex)
def bku {ρ : Type} := shut (lp (bg8 (ρ := ρ)))
theorem bn4 {ρ : Type} : bku (ρ := ρ) = lp bg8 := bg _
def bjl {ρ : Type} (f : ag2 bhb bmy ρ) (g h : Int) (a : Nat) (b c d e : List Int) (i : bm4 ρ) : Option ρ := f (g, h, a, b, c, d, e) (fun (g, h, a, b, c, d, e) => i g h a b c d e)
def ajy {ρ : Type} := bjl (lp (bg8 (ρ := ρ)))
def ajg {ρ : Type} := bjl (bku (ρ := ρ))
theorem al2 {ρ : Type} : ajg (ρ := ρ) = ajy := congrArg bjl bn4
def ab8 {ρ : Type} (a : Nat) (b c e d : List Int) (k : Int → Option ρ) : Option ρ := aau a b c e d fun f => br (!f) (k 0) (ajg 1 0 a b c e d fun g h i j l m n => k g)
def ql {ρ : Type} := shut (ab8 (ρ := ρ))
theorem afo {ρ : Type} (a : Nat) (b : List Int) (c : List Int) (e : List Int) (d : List Int) (k : Int → Option ρ) : ql a b c e d k = ab8 a b c e d k := by unfold ql; rw [bg]

abbrev bld (ρ : Type) := Int → Int → Nat → (List Int) → (List Int) → (List Int) → (List Int) → (List Int) → Option ρ
def afu {ρ : Type} (g b : Int) (c : Nat) (a d e f h : List Int) (nx i : bld ρ) : Option ρ := br (decide (b ≥ (0 : Int))) (br (decide ((0 : Int) ≤ b)) (br (decide (b < (↑c : Int))) (br (decide (a.getD b.toNat (0 : Int) < (0 : Int))) none (br (decide (IntKind.u64.wrap ((1 : Int) * (2 : Int) ^ min (a.getD b.toNat (0 : Int)).toNat 64) = (0 : Int))) none (br (decide ((0 : Int) ≤ b)) (br (decide (b < (↑h.length : Int))) (br (decide ((0 : Int) ≤ b)) (br (decide (b < (↑c : Int))) (br (decide (a.getD b.toNat (0 : Int) < (0 : Int))) none (nx (g.fdiv ((2 : Int) ^ min (a.getD b.toNat (0 : Int)).toNat 64)) (IntKind.i64.wrap (b - (1 : Int))) c a d e f (h.set b.toNat (IntKind.u32.wrap (g.tmod (IntKind.u64.wrap ((1 : Int) * (2 : Int) ^ min (a.getD b.toNat (0 : Int)).toNat 64))))))) none) none) none) none))) none) none) (i g b c a d e f h)
abbrev bgl := Int × Int × Nat × (List Int) × (List Int) × (List Int) × (List Int) × (List Int)
abbrev bmr := bgl
def bl0 {ρ : Type} (f : bgl → Option ρ) : bld ρ := fun g h a b c d e i => f (g, h, a, b, c, d, e, i)
def bhe {ρ : Type} : ag8 bgl bmr ρ := fun (f, g, a, b, c, d, e, h) next ex => afu f g a b c d e h (bl0 next) (bl0 ex)
def bl8 {ρ : Type} := shut (lp (bhe (ρ := ρ)))
theorem bn8 {ρ : Type} : bl8 (ρ := ρ) = lp bhe := bg _
def biv {ρ : Type} (f : ag2 bgl bmr ρ) (g h : Int) (a : Nat) (b c d e i : List Int) (j : bld ρ) : Option ρ := f (g, h, a, b, c, d, e, i) (fun (g, h, a, b, c, d, e, i) => j g h a b c d e i)
def ajc {ρ : Type} := biv (lp (bhe (ρ := ρ)))
def ai3 {ρ : Type} := biv (bl8 (ρ := ρ))
theorem al1 {ρ : Type} : ai3 (ρ := ρ) = ajc := congrArg biv bn8
def aaw {ρ : Type} (a : Nat) (b c e d : List Int) (f : Int) (k : (List Int) → Int → Option ρ) : Option ρ := aau a b c e d fun g => br (!g) (k [] 10) (ql a b c e d fun h => br (decide (f ≥ h)) (k [] 13) (br (decide ((↑a : Int) ≤ (↑a : Int))) (br (decide ((↑a : Int) * (↑4 : Int) ≤ (↑140737488355328 : Int))) (ai3 f (IntKind.i64.wrap ((↑a : Int) - 1)) a b c e d (List.replicate (↑a : Int).toNat (0 : Int)) fun j l m n o p q i => k i 0) none) none))
def vw {ρ : Type} := shut (aaw (ρ := ρ))
theorem adg {ρ : Type} (a : Nat) (b : List Int) (c : List Int) (e : List Int) (d : List Int) (f : Int) (k : (List Int) → Int → Option ρ) : vw a b c e d f k = aaw a b c e d f k := by unfold vw; rw [bg]

abbrev bjz (ρ : Type) := (List Int) → (List Int) → Int → Option ρ
def adz {ρ : Type} (b c : List Int) (a : Int) (nx d : bjz ρ) (e : Bool → Option ρ) : Option ρ := br (decide (a < (↑b.length : Int))) (br (decide (0 ≤ a)) (br (decide (a < (↑b.length : Int))) (br (decide (0 ≤ a)) (br (decide (a < (↑c.length : Int))) (br (b.getD a.toNat 0 != c.getD a.toNat 0) (e false) (nx b c (IntKind.i64.wrap (a + 1)))) none) none) none) none) (d b c a)
abbrev bjg := (List Int) × (List Int) × Int
abbrev blx := ((List Int) × (List Int) × Int) ⊕ (Bool)
def bn0 {ρ : Type} (f : bjg → Option ρ) : bjz ρ := fun a b c => f (a, b, c)
def bg9 {ρ : Type} : ag8 bjg blx ρ := fun (a, b, c) next ex => adz a b c (bn0 next) (fun a b c => ex (.inl (a, b, c))) (fun d => ex (.inr d))
def bkg {ρ : Type} := shut (lp (bg9 (ρ := ρ)))
theorem bn6 {ρ : Type} : bkg (ρ := ρ) = lp bg9 := bg _
def bjk {ρ : Type} (f : ag2 bjg blx ρ) (a b : List Int) (c : Int) (d : bjz ρ) (e : Bool → Option ρ) : Option ρ := f (a, b, c) (Sum.elim (fun (a, b, c) => d a b c) (fun x => e x))
def agu {ρ : Type} := bjk (lp (bg9 (ρ := ρ)))
def agk {ρ : Type} := bjk (bkg (ρ := ρ))
theorem ajs {ρ : Type} : agk (ρ := ρ) = agu := congrArg bjk bn6
def ac1 {ρ : Type} (a b : List Int) (k : Bool → Option ρ) : Option ρ := br ((↑a.length : Int) != (↑b.length : Int)) (k false) (agk a b 0 (fun d e f => k true) fun c => k c)
def mh {ρ : Type} := shut (ac1 (ρ := ρ))
theorem agi {ρ : Type} (a : List Int) (b : List Int) (k : Bool → Option ρ) : mh a b k = ac1 a b k := by unfold mh; rw [bg]

def ac3 {ρ : Type} (a : Nat) (b c e d : List Int) (f : Int) (k : Bool → Option ρ) : Option ρ := br (decide ((↑a : Int) > 20)) (p9 fun j => k j) (ac4 [e, d] fun l => br (!l) (p9 fun m => k m) (qc a b c e d f fun n o => vw a b c e d f fun p q => aa7 a b c e d fun r => aau a b c e d fun s => br (r == s) (qm a b c e d fun t => ql a b c e d fun g => br (t == g) (mh n p fun h => br h (br (o == q) (p9 fun i => k i) (k false)) (k false)) (k false)) (k false)))
def uh {ρ : Type} := shut (ac3 (ρ := ρ))
theorem aga {ρ : Type} (a : Nat) (b : List Int) (c : List Int) (e : List Int) (d : List Int) (f : Int) (k : Bool → Option ρ) : uh a b c e d f k = ac3 a b c e d f k := by unfold uh; rw [bg]





















































































































end P
end
