/-
  HssOnce, part 11: an interpreter of my own over abstract values, the pure functions, the walks and the plain law.
-/

import Derived.Test.YtmipokjdajiimaaDoorHssOnceH
import Derived.Test.YtmipokjdajiimaaDoorHssOnceJ
import Derived.Test.YtmipokjdajiimaaDoorHssOnceI

noncomputable section
open Go Go.Abs
set_option linter.unusedVariables false
namespace P

def adq {ρ : Type} (a : Int) (k : Int → Option ρ) : Option ρ := br (decide (0 ≤ a)) (br (decide (a < (↑64 : Int))) (k (roots256.getD a.toNat 0)) none) none
def j6 {ρ : Type} := shut (adq (ρ := ρ))
theorem ag7 {ρ : Type} (a : Int) (k : Int → Option ρ) : j6 a k = adq a k := by unfold j6; rw [bg]

def qg {ρ : Type} (a g : Int) (b c d e : List Int) (h f : Int) (k : Int → Option ρ) : Option ρ := br (decide (f < 0)) none (br (decide (IntKind.i64.wrap (a - f) < 0)) none (k (bits BinOp.or IntKind.u32 (h.fdiv (2 ^ min f.toNat 32)) (IntKind.u32.wrap (h * 2 ^ min (IntKind.i64.wrap (a - f)).toNat 32)))))
def ak {ρ : Type} := shut (qg (ρ := ρ))
theorem yx {ρ : Type} (f : Int) (e : Int) (a : List Int) (b : List Int) (c : List Int) (d : List Int) (g : Int) (h : Int) (k : Int → Option ρ) : ak f e a b c d g h k = qg f e a b c d g h k := by unfold ak; rw [bg]

def ow {ρ : Type} (f e : Int) (a b c d : List Int) (g h : Int) (k : Int → Option ρ) : Option ρ := br (decide (h = (↑0 : Int))) (ak f e a b c d g (a.getD 0 0) fun l => ak f e a b c d g (a.getD 1 0) fun m => ak f e a b c d g (a.getD 2 0) fun n => k (bits BinOp.xor IntKind.u32 (bits BinOp.xor IntKind.u32 l m) n)) (br (decide (h = (↑1 : Int))) (ak f e a b c d g (b.getD 0 0) fun o => ak f e a b c d g (b.getD 1 0) fun p => ak f e a b c d g (b.getD 2 0) fun q => k (bits BinOp.xor IntKind.u32 (bits BinOp.xor IntKind.u32 o p) q)) (br (decide (h = (↑2 : Int))) (ak f e a b c d g (c.getD 0 0) fun r => ak f e a b c d g (c.getD 1 0) fun s => ak f e a b c d g (c.getD 2 0) fun t => k (bits BinOp.xor IntKind.u32 (bits BinOp.xor IntKind.u32 r s) t)) (br (decide (h = (↑3 : Int))) (ak f e a b c d g (d.getD 0 0) fun u => ak f e a b c d g (d.getD 1 0) fun i => ak f e a b c d g (d.getD 2 0) fun j => k (bits BinOp.xor IntKind.u32 (bits BinOp.xor IntKind.u32 u i) j)) none)))
def fu {ρ : Type} := shut (ow (ρ := ρ))
theorem ug {ρ : Type} (f : Int) (e : Int) (a : List Int) (b : List Int) (c : List Int) (d : List Int) (g : Int) (h : Int) (k : Int → Option ρ) : fu f e a b c d g h k = ow f e a b c d g h k := by unfold fu; rw [bg]

def o9 {ρ : Type} (f e : Int) (a b c d : List Int) (g h : Int) (k : Int → Option ρ) : Option ρ := br (decide (h = (↑0 : Int))) (ak f e a b c d g (a.getD 0 (0 : Int)) fun i => ak f e a b c d g (a.getD 1 (0 : Int)) fun j => br (decide (a.getD 2 (0 : Int) < (0 : Int))) none (k (bits BinOp.xor IntKind.u32 (bits BinOp.xor IntKind.u32 i j) (g.fdiv ((2 : Int) ^ min (a.getD 2 (0 : Int)).toNat 32))))) (br (decide (h = (↑1 : Int))) (ak f e a b c d g (b.getD 0 (0 : Int)) fun l => ak f e a b c d g (b.getD 1 (0 : Int)) fun m => br (decide (b.getD 2 (0 : Int) < (0 : Int))) none (k (bits BinOp.xor IntKind.u32 (bits BinOp.xor IntKind.u32 l m) (g.fdiv ((2 : Int) ^ min (b.getD 2 (0 : Int)).toNat 32))))) (br (decide (h = (↑2 : Int))) (ak f e a b c d g (c.getD 0 (0 : Int)) fun n => ak f e a b c d g (c.getD 1 (0 : Int)) fun o => br (decide (c.getD 2 (0 : Int) < (0 : Int))) none (k (bits BinOp.xor IntKind.u32 (bits BinOp.xor IntKind.u32 n o) (g.fdiv ((2 : Int) ^ min (c.getD 2 (0 : Int)).toNat 32))))) (br (decide (h = (↑3 : Int))) (ak f e a b c d g (d.getD 0 (0 : Int)) fun p => ak f e a b c d g (d.getD 1 (0 : Int)) fun q => br (decide (d.getD 2 (0 : Int) < (0 : Int))) none (k (bits BinOp.xor IntKind.u32 (bits BinOp.xor IntKind.u32 p q) (g.fdiv ((2 : Int) ^ min (d.getD 2 (0 : Int)).toNat 32))))) none)))
def iq {ρ : Type} := shut (o9 (ρ := ρ))
theorem vk {ρ : Type} (f : Int) (e : Int) (a : List Int) (b : List Int) (c : List Int) (d : List Int) (g : Int) (h : Int) (k : Int → Option ρ) : iq f e a b c d g h k = o9 f e a b c d g h k := by unfold iq; rw [bg]

abbrev bjc (ρ : Type) := (List Int) → Int → Int → Int → Int → (List Int) → (List Int) → (List Int) → (List Int) → (List Int) → (List Int) → (List Int) → Option ρ
def rz {ρ : Type} (l : List Int) (b a c d : Int) (e f g h i j k : List Int) (nx m : bjc ρ) : Option ρ := br (decide (a < 16)) (br (decide (0 ≤ IntKind.i64.wrap (a * b))) (br (decide (IntKind.i64.wrap (a * b) ≤ IntKind.i64.wrap (IntKind.i64.wrap (a + 1) * b))) (br (decide (IntKind.i64.wrap (IntKind.i64.wrap (a + 1) * b) ≤ (↑l.length : Int))) (iw (List.drop (IntKind.i64.wrap (a * b)).toNat (List.take (IntKind.i64.wrap (IntKind.i64.wrap (a + 1) * b)).toNat l)) fun n => br (decide (0 ≤ a)) (br (decide (a < (↑16 : Int))) (nx l b (IntKind.i64.wrap (a + 1)) c d e f g h i j (k.set a.toNat (IntKind.u32.wrap n))) none) none) none) none) none) (m l b a c d e f g h i j k)
abbrev bhm := (List Int) × Int × Int × Int × Int × (List Int) × (List Int) × (List Int) × (List Int) × (List Int) × (List Int) × (List Int)
abbrev bmf := bhm
def bjo {ρ : Type} (f : bhm → Option ρ) : bjc ρ := fun l m k a b c d e g h i j => f (l, m, k, a, b, c, d, e, g, h, i, j)
def bhh {ρ : Type} : ag4 bhm bmf ρ := fun (k, l, j, a, b, c, d, e, f, g, h, i) next ex => rz k l j a b c d e f g h i (bjo next) (bjo ex)
def bl9 {ρ : Type} := shut (lp (bhh (ρ := ρ)))
theorem bm9 {ρ : Type} : bl9 (ρ := ρ) = lp bhh := bg _
def bi5 {ρ : Type} (f : ag2 bhm bmf ρ) (l : List Int) (m k a b : Int) (c d e g h i j : List Int) (n : bjc ρ) : Option ρ := f (l, m, k, a, b, c, d, e, g, h, i, j) (fun (l, m, k, a, b, c, d, e, g, h, i, j) => n l m k a b c d e g h i j)
def aap {ρ : Type} := bi5 (lp (bhh (ρ := ρ)))
def sw {ρ : Type} := bi5 (bl9 (ρ := ρ))
theorem acs {ρ : Type} : sw (ρ := ρ) = aap := congrArg bi5 bm9
abbrev bjz (ρ : Type) := Int → Int → (List Int) → (List Int) → (List Int) → Int → Int → (List Int) → (List Int) → (List Int) → (List Int) → (List Int) → Option ρ
def qy {ρ : Type} (j b : Int) (c k l : List Int) (d e : Int) (f g h i a : List Int) (nx o : bjz ρ) : Option ρ := br (decide (b < j)) (br (decide (0 ≤ b.tmod 16)) (br (decide (b.tmod 16 < (↑16 : Int))) (fu d e f g h i (a.getD 4 0) 3 fun m => j6 b fun n => fu d e f g h i (a.getD 0 0) 2 fun p => br (decide (0 ≤ (IntKind.i64.wrap (b + 1)).tmod 16)) (br (decide ((IntKind.i64.wrap (b + 1)).tmod 16 < (↑16 : Int))) (iq d e f g h i (c.getD ((IntKind.i64.wrap (b + 1)).tmod 16).toNat 0) 0 fun q => br (decide (0 ≤ (IntKind.i64.wrap (b + 9)).tmod 16)) (br (decide ((IntKind.i64.wrap (b + 9)).tmod 16 < (↑16 : Int))) (br (decide (0 ≤ (IntKind.i64.wrap (b + 14)).tmod 16)) (br (decide ((IntKind.i64.wrap (b + 14)).tmod 16 < (↑16 : Int))) (iq d e f g h i (c.getD ((IntKind.i64.wrap (b + 14)).tmod 16).toNat 0) 1 fun r => br (decide (0 ≤ b.tmod 16)) (br (decide (b.tmod 16 < (↑16 : Int))) (nx j (IntKind.i64.wrap (b + 1)) (c.set (b.tmod 16).toNat (IntKind.u32.wrap (IntKind.u32.wrap (IntKind.u32.wrap (c.getD (b.tmod 16).toNat 0 + q) + c.getD ((IntKind.i64.wrap (b + 9)).tmod 16).toNat 0) + r))) k l d e f g h i ((((List.take 1 a).append (List.take 7 (List.take 7 (List.drop 0 a)) ++ List.drop (1 + min 7 (List.take 7 (List.drop 0 a)).length) a)).set 4 (IntKind.u32.wrap (((List.take 1 a).append (List.take 7 (List.take 7 (List.drop 0 a)) ++ List.drop (1 + min 7 (List.take 7 (List.drop 0 a)).length) a)).getD 4 0 + IntKind.u32.wrap (IntKind.u32.wrap (IntKind.u32.wrap (IntKind.u32.wrap (a.getD 7 0 + m) + bits BinOp.xor IntKind.u32 (a.getD 6 0) (bits BinOp.and IntKind.u32 (a.getD 4 0) (bits BinOp.xor IntKind.u32 (a.getD 5 0) (a.getD 6 0)))) + n) + c.getD (b.tmod 16).toNat 0)))).set 0 (IntKind.u32.wrap (IntKind.u32.wrap (IntKind.u32.wrap (IntKind.u32.wrap (IntKind.u32.wrap (a.getD 7 0 + m) + bits BinOp.xor IntKind.u32 (a.getD 6 0) (bits BinOp.and IntKind.u32 (a.getD 4 0) (bits BinOp.xor IntKind.u32 (a.getD 5 0) (a.getD 6 0)))) + n) + c.getD (b.tmod 16).toNat 0) + IntKind.u32.wrap (p + bits BinOp.or IntKind.u32 (bits BinOp.and IntKind.u32 (a.getD 0 0) (a.getD 1 0)) (bits BinOp.and IntKind.u32 (a.getD 2 0) (bits BinOp.or IntKind.u32 (a.getD 0 0) (a.getD 1 0)))))))) none) none) none) none) none) none) none) none) none) none) (o j b c k l d e f g h i a)
abbrev bgm := Int × Int × (List Int) × (List Int) × (List Int) × Int × Int × (List Int) × (List Int) × (List Int) × (List Int) × (List Int)
abbrev bmn := bgm
def bkm {ρ : Type} (f : bgm → Option ρ) : bjz ρ := fun l m a b c d e g h i j k => f (l, m, a, b, c, d, e, g, h, i, j, k)
def zs12 {ρ : Type} : ag4 bgm bmn ρ := fun (k, l, a, b, c, d, e, f, g, h, i, j) next ex => qy k l a b c d e f g h i j (bkm next) (bkm ex)
def blm {ρ : Type} := shut (lp (zs12 (ρ := ρ)))
theorem bnu {ρ : Type} : blm (ρ := ρ) = lp zs12 := bg _
def bij {ρ : Type} (f : ag2 bgm bmn ρ) (l m : Int) (a b c : List Int) (d e : Int) (g h i j k : List Int) (n : bjz ρ) : Option ρ := f (l, m, a, b, c, d, e, g, h, i, j, k) (fun (l, m, a, b, c, d, e, g, h, i, j, k) => n l m a b c d e g h i j k)
def zk {ρ : Type} := bij (lp (zs12 (ρ := ρ)))
def ni {ρ : Type} := bij (blm (ρ := ρ))
theorem ace {ρ : Type} : ni (ρ := ρ) = zk := congrArg bij bnu
abbrev bjy (ρ : Type) := Int → (List Int) → (List Int) → (List Int) → Option ρ
def qz {ρ : Type} (a : Int) (b d c : List Int) (nx e : bjy ρ) : Option ρ := br (decide (a < 8)) (br (decide (0 ≤ a)) (br (decide (a < (↑8 : Int))) (br (decide (0 ≤ a)) (br (decide (a < (↑8 : Int))) (br (decide (0 ≤ a)) (br (decide (a < (↑8 : Int))) (nx (IntKind.i64.wrap (a + 1)) b d (c.set a.toNat (IntKind.u32.wrap (c.getD a.toNat 0 + b.getD a.toNat 0)))) none) none) none) none) none) none) (e a b d c)
abbrev bh0 := Int × (List Int) × (List Int) × (List Int)
abbrev bjp := bh0
def bjk {ρ : Type} (f : bh0 → Option ρ) : bjy ρ := fun a b c d => f (a, b, c, d)
def bhy {ρ : Type} : ag4 bh0 bjp ρ := fun (a, b, c, d) next ex => qz a b c d (bjk next) (bjk ex)
def bmc {ρ : Type} := shut (lp (bhy (ρ := ρ)))
theorem bm3 {ρ : Type} : bmc (ρ := ρ) = lp bhy := bg _
def bic {ρ : Type} (f : ag2 bh0 bjp ρ) (a : Int) (b c d : List Int) (e : bjy ρ) : Option ρ := f (a, b, c, d) (fun (a, b, c, d) => e a b c d)
def zo {ρ : Type} := bic (lp (bhy (ρ := ρ)))
def nu {ρ : Type} := bic (bmc (ρ := ρ))
theorem acn {ρ : Type} : nu (ρ := ρ) = zo := congrArg bic bm3
def qm {ρ : Type} (a f : Int) (b c d e p q : List Int) (k : (List Int) → Option ρ) : Option ρ := sw q (IntKind.i64.wrap (a.tdiv 8)) 0 a f b c d e p [0, 0, 0, 0, 0, 0, 0, 0] [0, 0, 0, 0, 0, 0, 0, 0, 0, 0, 0, 0, 0, 0, 0, 0] fun N O Q r g s t u v h i j => ni g 0 j i h r g s t u v h fun w y z l m A B C F G H n => nu 0 m l n fun I J M o => k o
def jf {ρ : Type} := shut (qm (ρ := ρ))
theorem aan {ρ : Type} (f : Int) (e : Int) (a : List Int) (b : List Int) (c : List Int) (d : List Int) (g : List Int) (h : List Int) (k : (List Int) → Option ρ) : jf f e a b c d g h k = qm f e a b c d g h k := by unfold jf; rw [bg]

abbrev blc (ρ : Type) := (List Int) → (List Int) → Int → Int → Int → (List Int) → (List Int) → (List Int) → (List Int) → (List Int) → (List Int) → (List Int) → Option ρ
def zx {ρ : Type} (l b : List Int) (a c d : Int) (e f g h i j k : List Int) (nx m : blc ρ) : Option ρ := br (decide (a < 8)) (br (decide (0 ≤ a)) (br (decide (a < (↑8 : Int))) (br (decide (0 ≤ a)) (br (decide (a < (↑8 : Int))) (nx l b (IntKind.i64.wrap (a + 1)) c d e f g h i j (k.set a.toNat (IntKind.u32.wrap (b.getD a.toNat 0)))) none) none) none) none) (m l b a c d e f g h i j k)
abbrev bg5 := (List Int) × (List Int) × Int × Int × Int × (List Int) × (List Int) × (List Int) × (List Int) × (List Int) × (List Int) × (List Int)
abbrev bl6 := bg5
def bl5 {ρ : Type} (f : bg5 → Option ρ) : blc ρ := fun m k l a b c d e g h i j => f (m, k, l, a, b, c, d, e, g, h, i, j)
def bhq {ρ : Type} : ag4 bg5 bl6 ρ := fun (l, j, k, a, b, c, d, e, f, g, h, i) next ex => zx l j k a b c d e f g h i (bl5 next) (bl5 ex)
def bkb {ρ : Type} := shut (lp (bhq (ρ := ρ)))
theorem bmt {ρ : Type} : bkb (ρ := ρ) = lp bhq := bg _
def bh5 {ρ : Type} (f : ag2 bg5 bl6 ρ) (m k : List Int) (l a b : Int) (c d e g h i j : List Int) (n : blc ρ) : Option ρ := f (m, k, l, a, b, c, d, e, g, h, i, j) (fun (m, k, l, a, b, c, d, e, g, h, i, j) => n m k l a b c d e g h i j)
def acd {ρ : Type} := bh5 (lp (bhq (ρ := ρ)))
def zy {ρ : Type} := bh5 (bkb (ρ := ρ))
theorem aey {ρ : Type} : zy (ρ := ρ) = acd := congrArg bh5 bmt
abbrev bko (ρ : Type) := (List Int) → Int → (List Int) → (List Int) → (List Int) → Int → Int → (List Int) → (List Int) → (List Int) → (List Int) → Option ρ
def zh {ρ : Type} (b : List Int) (a : Int) (i j k : List Int) (c d : Int) (e f g h : List Int) (nx l : bko ρ) : Option ρ := br (decide ((↑b.length : Int) ≥ a)) (br (decide (0 ≤ a)) (br (decide (a ≤ (↑b.length : Int))) (jf c d e f g h i (List.drop 0 (List.take a.toNat b)) fun m => br (decide (0 ≤ a)) (br (decide (a ≤ (↑b.length : Int))) (br (decide ((↑b.length : Int) ≤ (↑b.length : Int))) (nx (List.drop a.toNat (List.take (↑b.length : Int).toNat b)) a m j k c d e f g h) none) none) none) none) none) (l b a i j k c d e f g h)
abbrev bg2 := (List Int) × Int × (List Int) × (List Int) × (List Int) × Int × Int × (List Int) × (List Int) × (List Int) × (List Int)
abbrev bk4 := bg2
def blg {ρ : Type} (f : bg2 → Option ρ) : bko ρ := fun l k a b c d e g h i j => f (l, k, a, b, c, d, e, g, h, i, j)
def bf8 {ρ : Type} : ag4 bg2 bk4 ρ := fun (k, j, a, b, c, d, e, f, g, h, i) next ex => zh k j a b c d e f g h i (blg next) (blg ex)
def blo {ρ : Type} := shut (lp (bf8 (ρ := ρ)))
theorem bm2 {ρ : Type} : blo (ρ := ρ) = lp bf8 := bg _
def bh7 {ρ : Type} (f : ag2 bg2 bk4 ρ) (l : List Int) (k : Int) (a b c : List Int) (d e : Int) (g h i j : List Int) (m : bko ρ) : Option ρ := f (l, k, a, b, c, d, e, g, h, i, j) (fun (l, k, a, b, c, d, e, g, h, i, j) => m l k a b c d e g h i j)
def aco {ρ : Type} := bh7 (lp (bf8 (ρ := ρ)))
def y9 {ρ : Type} := bh7 (blo (ρ := ρ))
theorem ae4 {ρ : Type} : y9 (ρ := ρ) = aco := congrArg bh7 bm2
abbrev bmd (ρ : Type) := (List Int) → (List Int) → Int → (List Int) → (List Int) → Option ρ
def yg {ρ : Type} (e b : List Int) (a : Int) (c d : List Int) (nx f : bmd ρ) : Option ρ := br (decide (a < 8)) (br (decide (0 ≤ a)) (br (decide (a < (↑8 : Int))) (br (decide (0 ≤ a)) (br (decide (a < (↑8 : Int))) (nx e b (IntKind.i64.wrap (a + 1)) (c.set a.toNat (IntKind.u64.wrap (b.getD a.toNat 0))) d) none) none) none) none) (f e b a c d)
abbrev bf5 := (List Int) × (List Int) × Int × (List Int) × (List Int)
abbrev bjq := bf5
def bkj {ρ : Type} (f : bf5 → Option ρ) : bmd ρ := fun e c d a b => f (e, c, d, a, b)
def bf4 {ρ : Type} : ag4 bf5 bjq ρ := fun (e, c, d, a, b) next ex => yg e c d a b (bkj next) (bkj ex)
def bkc {ρ : Type} := shut (lp (bf4 (ρ := ρ)))
theorem bni {ρ : Type} : bkc (ρ := ρ) = lp bf4 := bg _
def biv {ρ : Type} (f : ag2 bf5 bjq ρ) (e c : List Int) (d : Int) (a b : List Int) (g : bmd ρ) : Option ρ := f (e, c, d, a, b) (fun (e, c, d, a, b) => g e c d a b)
def abj {ρ : Type} := biv (lp (bf4 (ρ := ρ)))
def yh {ρ : Type} := biv (bkc (ρ := ρ))
theorem aej {ρ : Type} : yh (ρ := ρ) = abj := congrArg biv bni
def yc {ρ : Type} (f e : Int) (a b c d g r : List Int) (k : (List Int) → (List Int) → Option ρ) : Option ρ := zy r g 0 f e a b c d g [0, 0, 0, 0, 0, 0, 0, 0] [0, 0, 0, 0, 0, 0, 0, 0] fun s O Q h t u v w y z i j => y9 s (IntKind.i64.wrap (h * 2)) j i z h t u v w y fun l A m n o B C F G H I => yh l m 0 o n fun p J M q N => k q p
def ku {ρ : Type} := shut (yc (ρ := ρ))
theorem ab8 {ρ : Type} (f : Int) (e : Int) (a : List Int) (b : List Int) (c : List Int) (d : List Int) (g : List Int) (h : List Int) (k : (List Int) → (List Int) → Option ρ) : ku f e a b c d g h k = yc f e a b c d g h k := by unfold ku; rw [bg]

def aiy {ρ : Type} (k : Int → Int → (List Int) → (List Int) → (List Int) → (List Int) → Option ρ) : Option ρ := k 32 64 [7, 18, 3] [17, 19, 10] [2, 13, 22] [6, 11, 25]
def zl {ρ : Type} := shut (aiy (ρ := ρ))
theorem akw {ρ : Type}  (k : Int → Int → (List Int) → (List Int) → (List Int) → (List Int) → Option ρ) : zl  k = aiy  k := by unfold zl; rw [bg]

def adf {ρ : Type} (a : Int) (k : Int → Option ρ) : Option ρ := br (decide (0 ≤ a)) (br (decide (a < (↑80 : Int))) (k (roots512.getD a.toNat 0)) none) none
def j5 {ρ : Type} := shut (adf (ρ := ρ))
theorem ag8 {ρ : Type} (a : Int) (k : Int → Option ρ) : j5 a k = adf a k := by unfold j5; rw [bg]

def qd {ρ : Type} (a g : Int) (b c d e : List Int) (h f : Int) (k : Int → Option ρ) : Option ρ := br (decide (f < 0)) none (br (decide (IntKind.i64.wrap (a - f) < 0)) none (k (bits BinOp.or IntKind.u64 (h.fdiv (2 ^ min f.toNat 64)) (IntKind.u64.wrap (h * 2 ^ min (IntKind.i64.wrap (a - f)).toNat 64)))))
def aj {ρ : Type} := shut (qd (ρ := ρ))
theorem y5 {ρ : Type} (f : Int) (e : Int) (a : List Int) (b : List Int) (c : List Int) (d : List Int) (g : Int) (h : Int) (k : Int → Option ρ) : aj f e a b c d g h k = qd f e a b c d g h k := by unfold aj; rw [bg]

def ou {ρ : Type} (f e : Int) (a b c d : List Int) (g h : Int) (k : Int → Option ρ) : Option ρ := br (decide (h = (↑0 : Int))) (aj f e a b c d g (a.getD 0 0) fun l => aj f e a b c d g (a.getD 1 0) fun m => aj f e a b c d g (a.getD 2 0) fun n => k (bits BinOp.xor IntKind.u64 (bits BinOp.xor IntKind.u64 l m) n)) (br (decide (h = (↑1 : Int))) (aj f e a b c d g (b.getD 0 0) fun o => aj f e a b c d g (b.getD 1 0) fun p => aj f e a b c d g (b.getD 2 0) fun q => k (bits BinOp.xor IntKind.u64 (bits BinOp.xor IntKind.u64 o p) q)) (br (decide (h = (↑2 : Int))) (aj f e a b c d g (c.getD 0 0) fun r => aj f e a b c d g (c.getD 1 0) fun s => aj f e a b c d g (c.getD 2 0) fun t => k (bits BinOp.xor IntKind.u64 (bits BinOp.xor IntKind.u64 r s) t)) (br (decide (h = (↑3 : Int))) (aj f e a b c d g (d.getD 0 0) fun u => aj f e a b c d g (d.getD 1 0) fun i => aj f e a b c d g (d.getD 2 0) fun j => k (bits BinOp.xor IntKind.u64 (bits BinOp.xor IntKind.u64 u i) j)) none)))
def gq {ρ : Type} := shut (ou (ρ := ρ))
theorem uj {ρ : Type} (f : Int) (e : Int) (a : List Int) (b : List Int) (c : List Int) (d : List Int) (g : Int) (h : Int) (k : Int → Option ρ) : gq f e a b c d g h k = ou f e a b c d g h k := by unfold gq; rw [bg]

def o8 {ρ : Type} (f e : Int) (a b c d : List Int) (g h : Int) (k : Int → Option ρ) : Option ρ := br (decide (h = (↑0 : Int))) (aj f e a b c d g (a.getD 0 (0 : Int)) fun i => aj f e a b c d g (a.getD 1 (0 : Int)) fun j => br (decide (a.getD 2 (0 : Int) < (0 : Int))) none (k (bits BinOp.xor IntKind.u64 (bits BinOp.xor IntKind.u64 i j) (g.fdiv ((2 : Int) ^ min (a.getD 2 (0 : Int)).toNat 64))))) (br (decide (h = (↑1 : Int))) (aj f e a b c d g (b.getD 0 (0 : Int)) fun l => aj f e a b c d g (b.getD 1 (0 : Int)) fun m => br (decide (b.getD 2 (0 : Int) < (0 : Int))) none (k (bits BinOp.xor IntKind.u64 (bits BinOp.xor IntKind.u64 l m) (g.fdiv ((2 : Int) ^ min (b.getD 2 (0 : Int)).toNat 64))))) (br (decide (h = (↑2 : Int))) (aj f e a b c d g (c.getD 0 (0 : Int)) fun n => aj f e a b c d g (c.getD 1 (0 : Int)) fun o => br (decide (c.getD 2 (0 : Int) < (0 : Int))) none (k (bits BinOp.xor IntKind.u64 (bits BinOp.xor IntKind.u64 n o) (g.fdiv ((2 : Int) ^ min (c.getD 2 (0 : Int)).toNat 64))))) (br (decide (h = (↑3 : Int))) (aj f e a b c d g (d.getD 0 (0 : Int)) fun p => aj f e a b c d g (d.getD 1 (0 : Int)) fun q => br (decide (d.getD 2 (0 : Int) < (0 : Int))) none (k (bits BinOp.xor IntKind.u64 (bits BinOp.xor IntKind.u64 p q) (g.fdiv ((2 : Int) ^ min (d.getD 2 (0 : Int)).toNat 64))))) none)))
def ig {ρ : Type} := shut (o8 (ρ := ρ))
theorem uy {ρ : Type} (f : Int) (e : Int) (a : List Int) (b : List Int) (c : List Int) (d : List Int) (g : Int) (h : Int) (k : Int → Option ρ) : ig f e a b c d g h k = o8 f e a b c d g h k := by unfold ig; rw [bg]

abbrev bl7 (ρ : Type) := (List Int) → Int → Int → Int → Int → (List Int) → (List Int) → (List Int) → (List Int) → (List Int) → (List Int) → (List Int) → Option ρ
def sj {ρ : Type} (l : List Int) (b a c d : Int) (e f g h i j k : List Int) (nx m : bl7 ρ) : Option ρ := br (decide (a < 16)) (br (decide (0 ≤ IntKind.i64.wrap (a * b))) (br (decide (IntKind.i64.wrap (a * b) ≤ IntKind.i64.wrap (IntKind.i64.wrap (a + 1) * b))) (br (decide (IntKind.i64.wrap (IntKind.i64.wrap (a + 1) * b) ≤ (↑l.length : Int))) (iw (List.drop (IntKind.i64.wrap (a * b)).toNat (List.take (IntKind.i64.wrap (IntKind.i64.wrap (a + 1) * b)).toNat l)) fun n => br (decide (0 ≤ a)) (br (decide (a < (↑16 : Int))) (nx l b (IntKind.i64.wrap (a + 1)) c d e f g h i j (k.set a.toNat n)) none) none) none) none) none) (m l b a c d e f g h i j k)
abbrev bf3 := (List Int) × Int × Int × Int × Int × (List Int) × (List Int) × (List Int) × (List Int) × (List Int) × (List Int) × (List Int)
abbrev bj6 := bf3
def bl3 {ρ : Type} (f : bf3 → Option ρ) : bl7 ρ := fun l m k a b c d e g h i j => f (l, m, k, a, b, c, d, e, g, h, i, j)
def bg3 {ρ : Type} : ag4 bf3 bj6 ρ := fun (k, l, j, a, b, c, d, e, f, g, h, i) next ex => sj k l j a b c d e f g h i (bl3 next) (bl3 ex)
def bli {ρ : Type} := shut (lp (bg3 (ρ := ρ)))
theorem bmr {ρ : Type} : bli (ρ := ρ) = lp bg3 := bg _
def bi7 {ρ : Type} (f : ag2 bf3 bj6 ρ) (l : List Int) (m k a b : Int) (c d e g h i j : List Int) (n : bl7 ρ) : Option ρ := f (l, m, k, a, b, c, d, e, g, h, i, j) (fun (l, m, k, a, b, c, d, e, g, h, i, j) => n l m k a b c d e g h i j)
def aam {ρ : Type} := bi7 (lp (bg3 (ρ := ρ)))
def su {ρ : Type} := bi7 (bli (ρ := ρ))
theorem acv {ρ : Type} : su (ρ := ρ) = aam := congrArg bi7 bmr
abbrev bjt (ρ : Type) := Int → Int → (List Int) → (List Int) → (List Int) → Int → Int → (List Int) → (List Int) → (List Int) → (List Int) → (List Int) → Option ρ
def ql {ρ : Type} (j b : Int) (c k l : List Int) (d e : Int) (f g h i a : List Int) (nx o : bjt ρ) : Option ρ := br (decide (b < j)) (br (decide (0 ≤ b.tmod 16)) (br (decide (b.tmod 16 < (↑16 : Int))) (gq d e f g h i (a.getD 4 0) 3 fun m => j5 b fun n => gq d e f g h i (a.getD 0 0) 2 fun p => br (decide (0 ≤ (IntKind.i64.wrap (b + 1)).tmod 16)) (br (decide ((IntKind.i64.wrap (b + 1)).tmod 16 < (↑16 : Int))) (ig d e f g h i (c.getD ((IntKind.i64.wrap (b + 1)).tmod 16).toNat 0) 0 fun q => br (decide (0 ≤ (IntKind.i64.wrap (b + 9)).tmod 16)) (br (decide ((IntKind.i64.wrap (b + 9)).tmod 16 < (↑16 : Int))) (br (decide (0 ≤ (IntKind.i64.wrap (b + 14)).tmod 16)) (br (decide ((IntKind.i64.wrap (b + 14)).tmod 16 < (↑16 : Int))) (ig d e f g h i (c.getD ((IntKind.i64.wrap (b + 14)).tmod 16).toNat 0) 1 fun r => br (decide (0 ≤ b.tmod 16)) (br (decide (b.tmod 16 < (↑16 : Int))) (nx j (IntKind.i64.wrap (b + 1)) (c.set (b.tmod 16).toNat (IntKind.u64.wrap (IntKind.u64.wrap (IntKind.u64.wrap (c.getD (b.tmod 16).toNat 0 + q) + c.getD ((IntKind.i64.wrap (b + 9)).tmod 16).toNat 0) + r))) k l d e f g h i ((((List.take 1 a).append (List.take 7 (List.take 7 (List.drop 0 a)) ++ List.drop (1 + min 7 (List.take 7 (List.drop 0 a)).length) a)).set 4 (IntKind.u64.wrap (((List.take 1 a).append (List.take 7 (List.take 7 (List.drop 0 a)) ++ List.drop (1 + min 7 (List.take 7 (List.drop 0 a)).length) a)).getD 4 0 + IntKind.u64.wrap (IntKind.u64.wrap (IntKind.u64.wrap (IntKind.u64.wrap (a.getD 7 0 + m) + bits BinOp.xor IntKind.u64 (a.getD 6 0) (bits BinOp.and IntKind.u64 (a.getD 4 0) (bits BinOp.xor IntKind.u64 (a.getD 5 0) (a.getD 6 0)))) + n) + c.getD (b.tmod 16).toNat 0)))).set 0 (IntKind.u64.wrap (IntKind.u64.wrap (IntKind.u64.wrap (IntKind.u64.wrap (IntKind.u64.wrap (a.getD 7 0 + m) + bits BinOp.xor IntKind.u64 (a.getD 6 0) (bits BinOp.and IntKind.u64 (a.getD 4 0) (bits BinOp.xor IntKind.u64 (a.getD 5 0) (a.getD 6 0)))) + n) + c.getD (b.tmod 16).toNat 0) + IntKind.u64.wrap (p + bits BinOp.or IntKind.u64 (bits BinOp.and IntKind.u64 (a.getD 0 0) (a.getD 1 0)) (bits BinOp.and IntKind.u64 (a.getD 2 0) (bits BinOp.or IntKind.u64 (a.getD 0 0) (a.getD 1 0)))))))) none) none) none) none) none) none) none) none) none) none) (o j b c k l d e f g h i a)
abbrev bg0 := Int × Int × (List Int) × (List Int) × (List Int) × Int × Int × (List Int) × (List Int) × (List Int) × (List Int) × (List Int)
abbrev bjb := bg0
def bmh {ρ : Type} (f : bg0 → Option ρ) : bjt ρ := fun l m a b c d e g h i j k => f (l, m, a, b, c, d, e, g, h, i, j, k)
def bgv {ρ : Type} : ag4 bg0 bjb ρ := fun (k, l, a, b, c, d, e, f, g, h, i, j) next ex => ql k l a b c d e f g h i j (bmh next) (bmh ex)
def bkr {ρ : Type} := shut (lp (bgv (ρ := ρ)))
theorem bnc {ρ : Type} : bkr (ρ := ρ) = lp bgv := bg _
def biu {ρ : Type} (f : ag2 bg0 bjb ρ) (l m : Int) (a b c : List Int) (d e : Int) (g h i j k : List Int) (n : bjt ρ) : Option ρ := f (l, m, a, b, c, d, e, g, h, i, j, k) (fun (l, m, a, b, c, d, e, g, h, i, j, k) => n l m a b c d e g h i j k)
def y8 {ρ : Type} := biu (lp (bgv (ρ := ρ)))
def og {ρ : Type} := biu (bkr (ρ := ρ))
theorem ab7 {ρ : Type} : og (ρ := ρ) = y8 := congrArg biu bnc
abbrev bje (ρ : Type) := Int → (List Int) → (List Int) → (List Int) → Option ρ
def qj {ρ : Type} (a : Int) (b d c : List Int) (nx e : bje ρ) : Option ρ := br (decide (a < 8)) (br (decide (0 ≤ a)) (br (decide (a < (↑8 : Int))) (br (decide (0 ≤ a)) (br (decide (a < (↑8 : Int))) (br (decide (0 ≤ a)) (br (decide (a < (↑8 : Int))) (nx (IntKind.i64.wrap (a + 1)) b d (c.set a.toNat (IntKind.u64.wrap (c.getD a.toNat 0 + b.getD a.toNat 0)))) none) none) none) none) none) none) (e a b d c)
abbrev bhn := Int × (List Int) × (List Int) × (List Int)
abbrev blp := bhn
def bk6 {ρ : Type} (f : bhn → Option ρ) : bje ρ := fun a b c d => f (a, b, c, d)
def bga {ρ : Type} : ag4 bhn blp ρ := fun (a, b, c, d) next ex => qj a b c d (bk6 next) (bk6 ex)
def bj8 {ρ : Type} := shut (lp (bga (ρ := ρ)))
theorem bmu {ρ : Type} : bj8 (ρ := ρ) = lp bga := bg _
def bi8 {ρ : Type} (f : ag2 bhn blp ρ) (a : Int) (b c d : List Int) (e : bje ρ) : Option ρ := f (a, b, c, d) (fun (a, b, c, d) => e a b c d)
def aad {ρ : Type} := bi8 (lp (bga (ρ := ρ)))
def nk {ρ : Type} := bi8 (bj8 (ρ := ρ))
theorem acf {ρ : Type} : nk (ρ := ρ) = aad := congrArg bi8 bmu
def qw {ρ : Type} (a f : Int) (b c d e p q : List Int) (k : (List Int) → Option ρ) : Option ρ := su q (IntKind.i64.wrap (a.tdiv 8)) 0 a f b c d e p [0, 0, 0, 0, 0, 0, 0, 0] [0, 0, 0, 0, 0, 0, 0, 0, 0, 0, 0, 0, 0, 0, 0, 0] fun N O Q r g s t u v h i j => og g 0 j i h r g s t u v h fun w y z l m A B C F G H n => nk 0 m l n fun I J M o => k o
def je {ρ : Type} := shut (qw (ρ := ρ))
theorem aao {ρ : Type} (f : Int) (e : Int) (a : List Int) (b : List Int) (c : List Int) (d : List Int) (g : List Int) (h : List Int) (k : (List Int) → Option ρ) : je f e a b c d g h k = qw f e a b c d g h k := by unfold je; rw [bg]

abbrev bj5 (ρ : Type) := (List Int) → (List Int) → Int → Int → Int → (List Int) → (List Int) → (List Int) → (List Int) → (List Int) → (List Int) → (List Int) → Option ρ
def zf {ρ : Type} (l b : List Int) (a c d : Int) (e f g h i j k : List Int) (nx m : bj5 ρ) : Option ρ := br (decide (a < 8)) (br (decide (0 ≤ a)) (br (decide (a < (↑8 : Int))) (br (decide (0 ≤ a)) (br (decide (a < (↑8 : Int))) (nx l b (IntKind.i64.wrap (a + 1)) c d e f g h i j (k.set a.toNat (b.getD a.toNat 0))) none) none) none) none) (m l b a c d e f g h i j k)
abbrev bhr := (List Int) × (List Int) × Int × Int × Int × (List Int) × (List Int) × (List Int) × (List Int) × (List Int) × (List Int) × (List Int)
abbrev bml := bhr
def bk9 {ρ : Type} (f : bhr → Option ρ) : bj5 ρ := fun m k l a b c d e g h i j => f (m, k, l, a, b, c, d, e, g, h, i, j)
def bgj {ρ : Type} : ag4 bhr bml ρ := fun (l, j, k, a, b, c, d, e, f, g, h, i) next ex => zf l j k a b c d e f g h i (bk9 next) (bk9 ex)
def bld {ρ : Type} := shut (lp (bgj (ρ := ρ)))
theorem bm5 {ρ : Type} : bld (ρ := ρ) = lp bgj := bg _
def biw {ρ : Type} (f : ag2 bhr bml ρ) (m k : List Int) (l a b : Int) (c d e g h i j : List Int) (n : bj5 ρ) : Option ρ := f (m, k, l, a, b, c, d, e, g, h, i, j) (fun (m, k, l, a, b, c, d, e, g, h, i, j) => n m k l a b c d e g h i j)
def acg {ρ : Type} := biw (lp (bgj (ρ := ρ)))
def z8 {ρ : Type} := biw (bld (ρ := ρ))
theorem ae5 {ρ : Type} : z8 (ρ := ρ) = acg := congrArg biw bm5
abbrev bjn (ρ : Type) := (List Int) → Int → (List Int) → (List Int) → (List Int) → Int → Int → (List Int) → (List Int) → (List Int) → (List Int) → Option ρ
def ze {ρ : Type} (b : List Int) (a : Int) (i j k : List Int) (c d : Int) (e f g h : List Int) (nx l : bjn ρ) : Option ρ := br (decide ((↑b.length : Int) ≥ a)) (br (decide (0 ≤ a)) (br (decide (a ≤ (↑b.length : Int))) (je c d e f g h i (List.drop 0 (List.take a.toNat b)) fun m => br (decide (0 ≤ a)) (br (decide (a ≤ (↑b.length : Int))) (br (decide ((↑b.length : Int) ≤ (↑b.length : Int))) (nx (List.drop a.toNat (List.take (↑b.length : Int).toNat b)) a m j k c d e f g h) none) none) none) none) none) (l b a i j k c d e f g h)
abbrev bg4 := (List Int) × Int × (List Int) × (List Int) × (List Int) × Int × Int × (List Int) × (List Int) × (List Int) × (List Int)
abbrev bkp := bg4
def blh {ρ : Type} (f : bg4 → Option ρ) : bjn ρ := fun l k a b c d e g h i j => f (l, k, a, b, c, d, e, g, h, i, j)
def bgq {ρ : Type} : ag4 bg4 bkp ρ := fun (k, j, a, b, c, d, e, f, g, h, i) next ex => ze k j a b c d e f g h i (blh next) (blh ex)
def blb {ρ : Type} := shut (lp (bgq (ρ := ρ)))
theorem bnb {ρ : Type} : blb (ρ := ρ) = lp bgq := bg _
def bh8 {ρ : Type} (f : ag2 bg4 bkp ρ) (l : List Int) (k : Int) (a b c : List Int) (d e : Int) (g h i j : List Int) (m : bjn ρ) : Option ρ := f (l, k, a, b, c, d, e, g, h, i, j) (fun (l, k, a, b, c, d, e, g, h, i, j) => m l k a b c d e g h i j)
def ab6 {ρ : Type} := bh8 (lp (bgq (ρ := ρ)))
def zw {ρ : Type} := bh8 (blb (ρ := ρ))
theorem ae0 {ρ : Type} : zw (ρ := ρ) = ab6 := congrArg bh8 bnb
abbrev bku (ρ : Type) := (List Int) → (List Int) → Int → (List Int) → (List Int) → Option ρ
def xu {ρ : Type} (e b : List Int) (a : Int) (c d : List Int) (nx f : bku ρ) : Option ρ := br (decide (a < 8)) (br (decide (0 ≤ a)) (br (decide (a < (↑8 : Int))) (br (decide (0 ≤ a)) (br (decide (a < (↑8 : Int))) (nx e b (IntKind.i64.wrap (a + 1)) (c.set a.toNat (b.getD a.toNat 0)) d) none) none) none) none) (f e b a c d)
abbrev bh3 := (List Int) × (List Int) × Int × (List Int) × (List Int)
abbrev bj7 := bh3
def bkx {ρ : Type} (f : bh3 → Option ρ) : bku ρ := fun e c d a b => f (e, c, d, a, b)
def bgx {ρ : Type} : ag4 bh3 bj7 ρ := fun (e, c, d, a, b) next ex => xu e c d a b (bkx next) (bkx ex)
def bjg {ρ : Type} := shut (lp (bgx (ρ := ρ)))
theorem bnk {ρ : Type} : bjg (ρ := ρ) = lp bgx := bg _
def bir {ρ : Type} (f : ag2 bh3 bj7 ρ) (e c : List Int) (d : Int) (a b : List Int) (g : bku ρ) : Option ρ := f (e, c, d, a, b) (fun (e, c, d, a, b) => g e c d a b)
def abh {ρ : Type} := bir (lp (bgx (ρ := ρ)))
def x9 {ρ : Type} := bir (bjg (ρ := ρ))
theorem aef {ρ : Type} : x9 (ρ := ρ) = abh := congrArg bir bnk
def yj {ρ : Type} (f e : Int) (a b c d g r : List Int) (k : (List Int) → (List Int) → Option ρ) : Option ρ := z8 r g 0 f e a b c d g [0, 0, 0, 0, 0, 0, 0, 0] [0, 0, 0, 0, 0, 0, 0, 0] fun s O Q h t u v w y z i j => zw s (IntKind.i64.wrap (h * 2)) j i z h t u v w y fun l A m n o B C F G H I => x9 l m 0 o n fun p J M q N => k q p
def kr {ρ : Type} := shut (yj (ρ := ρ))
theorem ach {ρ : Type} (f : Int) (e : Int) (a : List Int) (b : List Int) (c : List Int) (d : List Int) (g : List Int) (h : List Int) (k : (List Int) → (List Int) → Option ρ) : kr f e a b c d g h k = yj f e a b c d g h k := by unfold kr; rw [bg]

def ajd {ρ : Type} (k : Int → Int → (List Int) → (List Int) → (List Int) → (List Int) → Option ρ) : Option ρ := k 64 80 [1, 8, 7] [19, 61, 6] [28, 34, 39] [14, 18, 41]
def zm {ρ : Type} := shut (ajd (ρ := ρ))
theorem akt {ρ : Type}  (k : Int → Int → (List Int) → (List Int) → (List Int) → (List Int) → Option ρ) : zm  k = ajd  k := by unfold zm; rw [bg]

def ko {ρ : Type} (a : List Int) (k : (List Int) → Option ρ) : Option ρ := br (decide (a.length * 1 ≤ 140737488355328)) (k a) none

def aho {ρ : Type} (a : Int) (b d : List Int) (c : Int) (e : List Int) (k : Int → (List Int) → (List Int) → Int → Option ρ) : Option ρ := eu [d, e] fun f => br (a == 1) (zl fun q r s t u v => ku q r s t u v b f fun w y => ko y fun z => k a w z (IntKind.u64.wrap (c + IntKind.u64.wrap (↑e.length : Int)))) (zm fun g h i j l m => kr g h i j l m b f fun n o => ko o fun p => k a n p (IntKind.u64.wrap (c + IntKind.u64.wrap (↑e.length : Int))))
def uh {ρ : Type} := shut (aho (ρ := ρ))
theorem apw {ρ : Type} (b : Int) (a : List Int) (c : List Int) (d : Int) (e : List Int) (k : Int → (List Int) → (List Int) → Int → Option ρ) : uh b a c d e k = aho b a c d e k := by unfold uh; rw [bg]

def abt {ρ : Type} (a : Int) (k : Int → Option ρ) : Option ρ := br (a == 1) (k 64) (k 128)
def ng {ρ : Type} := shut (abt (ρ := ρ))
theorem afs {ρ : Type} (a : Int) (k : Int → Option ρ) : ng a k = abt a k := by unfold ng; rw [bg]

abbrev bkz (ρ : Type) := Int → (List Int) → Int → (List Int) → Int → (List Int) → Int → (List Int) → Option ρ
def aic {ρ : Type} (g : Int) (b : List Int) (a : Int) (c : List Int) (d : Int) (e : List Int) (f : Int) (h : List Int) (nx j : bkz ρ) : Option ρ := br (decide (a < 8)) (br (decide (0 ≤ a)) (br (decide (a < (↑8 : Int))) (mo (b.getD a.toNat 0) (IntKind.i64.wrap (g.tdiv 16)) fun i => br (decide ((c.length + i.length) * 1 ≤ 140737488355328)) (nx g b (IntKind.i64.wrap (a + 1)) (c ++ i) d e f h) none) none) none) (j g b a c d e f h)
abbrev bgl := Int × (List Int) × Int × (List Int) × Int × (List Int) × Int × (List Int)
abbrev bks := bgl
def bkf {ρ : Type} (f : bgl → Option ρ) : bkz ρ := fun h d e g a b c i => f (h, d, e, g, a, b, c, i)
def bhd {ρ : Type} : ag4 bgl bks ρ := fun (g, d, e, f, a, b, c, h) next ex => aic g d e f a b c h (bkf next) (bkf ex)
def bls {ρ : Type} := shut (lp (bhd (ρ := ρ)))
theorem bms {ρ : Type} : bls (ρ := ρ) = lp bhd := bg _
def bi2 {ρ : Type} (f : ag2 bgl bks ρ) (h : Int) (d : List Int) (e : Int) (g : List Int) (a : Int) (b : List Int) (c : Int) (i : List Int) (j : bkz ρ) : Option ρ := f (h, d, e, g, a, b, c, i) (fun (h, d, e, g, a, b, c, i) => j h d e g a b c i)
def ang {ρ : Type} := bi2 (lp (bhd (ρ := ρ)))
def ah4 {ρ : Type} := bi2 (bls (ρ := ρ))
theorem an8 {ρ : Type} : ah4 (ρ := ρ) = ang := congrArg bi2 bms
def ahr {ρ : Type} (c : Int) (e a : List Int) (d : Int) (k : (List Int) → Option ρ) : Option ρ := ng c fun b => br (decide (1 ≤ b)) (br (decide (b * (↑1 : Int) ≤ (↑140737488355328 : Int))) (br (decide (b = 0)) none (br (decide (0 ≤ IntKind.i64.wrap (IntKind.i64.wrap ((IntKind.i64.wrap (IntKind.i64.wrap (IntKind.i64.wrap (IntKind.i64.wrap (2 * b) - 1) - IntKind.i64.wrap (b.tdiv 8)) - (↑a.length : Int))).tmod b + IntKind.i64.wrap (b.tdiv 8)) - 8))) (br (decide ((1 + (IntKind.i64.wrap (IntKind.i64.wrap ((IntKind.i64.wrap (IntKind.i64.wrap (IntKind.i64.wrap (IntKind.i64.wrap (2 * b) - 1) - IntKind.i64.wrap (b.tdiv 8)) - (↑a.length : Int))).tmod b + IntKind.i64.wrap (b.tdiv 8)) - 8)).toNat) * 1 ≤ 140737488355328)) (mo (IntKind.u64.wrap (d * 2 ^ 3)) 8 fun g => br (decide ((((List.replicate (IntKind.i64.wrap (IntKind.i64.wrap ((IntKind.i64.wrap (IntKind.i64.wrap (IntKind.i64.wrap (IntKind.i64.wrap (2 * b) - 1) - IntKind.i64.wrap (b.tdiv 8)) - (↑a.length : Int))).tmod b + IntKind.i64.wrap (b.tdiv 8)) - 8)).toNat (0 : Int)).length.add 0).succ + g.length) * 1 ≤ 140737488355328)) (uh c e a d ((List.replicate 1 (0 : Int)).set 0 128 ++ List.replicate (IntKind.i64.wrap (IntKind.i64.wrap ((IntKind.i64.wrap (IntKind.i64.wrap (IntKind.i64.wrap (IntKind.i64.wrap (2 * b) - 1) - IntKind.i64.wrap (b.tdiv 8)) - (↑a.length : Int))).tmod b + IntKind.i64.wrap (b.tdiv 8)) - 8)).toNat (0 : Int) ++ g) fun j h l m => ah4 b h 0 [] j h m l fun q r s f i n o p => br (i == 2) (br (decide (48 ≤ (↑f.length : Int))) (k (List.take ((48 : Int) - (0 : Int)).toNat f)) none) (k f)) none) none) none)) none) none
def aa7 {ρ : Type} := shut (ahr (ρ := ρ))
theorem aoq {ρ : Type} (b : Int) (a : List Int) (c : List Int) (d : Int) (k : (List Int) → Option ρ) : aa7 b a c d k = ahr b a c d k := by unfold aa7; rw [bg]

def ahl {ρ : Type} (i : List Int) (j l : Int) (m : List (List Int)) (k : (List Int) → Option ρ) : Option ρ := abb 1 fun n o p q w => mo j 4 fun r => mo l 2 fun s => jv [i, r, s] fun t => uh n o p q t fun u v a b => jv m fun c => uh u v a b c fun d e f g => aa7 d e f g fun h => k h
def yu {ρ : Type} := shut (ahl (ρ := ρ))
theorem aow {ρ : Type} (a : List Int) (b : Int) (c : Int) (d : List (List Int)) (k : (List Int) → Option ρ) : yu a b c d k = ahl a b c d k := by unfold yu; rw [bg]

def aee {ρ : Type} (o : Int) (d : List Int) (e a b c p : Int) (q : List (List Int)) (k : (List Int) → Option ρ) : Option ρ := abb 1 fun r s t u B => mo (IntKind.u64.wrap e) 4 fun v => mo p 2 fun w => jv [d, v, w] fun y => uh r s t u y fun z A f g => jv q fun h => uh z A f g h fun i j l m => aa7 i j l m fun n => k n
def jq {ρ : Type} := shut (aee (ρ := ρ))
theorem akk {ρ : Type} (e : Int) (d : List Int) (f : Int) (a : Int) (b : Int) (c : Int) (g : Int) (h : List (List Int)) (k : (List Int) → Option ρ) : jq e d f a b c g h k = aee e d f a b c g h k := by unfold jq; rw [bg]

def aik {ρ : Type} (c : List Int) (a b : Int) (k : Bool → Option ρ) : Option ρ := br (decide (a ≥ 1)) (br (decide (a ≤ 24)) (br (decide (b ≥ 0)) (br (decide (a = 0)) none (k (decide (b ≤ IntKind.i64.wrap ((IntKind.i64.wrap ((↑c.length : Int) * 8)).tdiv a))))) (k false)) (k false)) (k false)
def aac {ρ : Type} := shut (aik (ρ := ρ))
theorem ale {ρ : Type} (a : List Int) (b : Int) (c : Int) (k : Bool → Option ρ) : aac a b c k = aik a b c k := by unfold aac; rw [bg]

abbrev bjl (ρ : Type) := (List Int) → Int → Int → Int → Int → Int → Int → (List Int) → Option ρ
def aep {ρ : Type} (a : List Int) (e g f b c d : Int) (h : List Int) (nx i : bjl ρ) : Option ρ := br (decide (f < e)) (br (decide (0 < (↑a.length : Int))) (br (decide (1 ≤ (↑a.length : Int))) (br (decide ((↑a.length : Int) ≤ (↑a.length : Int))) (nx (List.drop 1 (List.take (↑a.length : Int).toNat a)) e (bits BinOp.or IntKind.u64 (IntKind.u64.wrap (g * 2 ^ 8)) (IntKind.u64.wrap (a.getD 0 0))) (IntKind.i64.wrap (f + 8)) b c d h) none) none) none) (i a e g f b c d h)
abbrev bhs := (List Int) × Int × Int × Int × Int × Int × Int × (List Int)
abbrev bka := bhs
def bma {ρ : Type} (f : bhs → Option ρ) : bjl ρ := fun d e g h a b c i => f (d, e, g, h, a, b, c, i)
def bhx {ρ : Type} : ag4 bhs bka ρ := fun (d, e, f, g, a, b, c, h) next ex => aep d e f g a b c h (bma next) (bma ex)
def bk8 {ρ : Type} := shut (lp (bhx (ρ := ρ)))
theorem bmz {ρ : Type} : bk8 (ρ := ρ) = lp bhx := bg _
def bh6 {ρ : Type} (f : ag2 bhs bka ρ) (d : List Int) (e g h a b c : Int) (i : List Int) (j : bjl ρ) : Option ρ := f (d, e, g, h, a, b, c, i) (fun (d, e, g, h, a, b, c, i) => j d e g h a b c i)
def ag9 {ρ : Type} := bh6 (lp (bhx (ρ := ρ)))
def ahf {ρ : Type} := bh6 (bk8 (ρ := ρ))
theorem akn {ρ : Type} : ahf (ρ := ρ) = ag9 := congrArg bh6 bmz
abbrev bjr (ρ : Type) := (List Int) → Int → Int → Int → Int → Int → (List Int) → Option ρ
def aen {ρ : Type} (f : List Int) (g h i c a : Int) (j : List Int) (nx m : bjr ρ) : Option ρ := br (decide (a < c)) (ahf f g h i a c a j fun n b k d e o p l => br (decide (IntKind.i64.wrap (d - b) < 0)) none (br (decide (b < 0)) none (br (decide (0 ≤ e)) (br (decide (e < (↑l.length : Int))) (nx n b k (IntKind.i64.wrap (d - b)) o (IntKind.i64.wrap (p + 1)) (l.set e.toNat (IntKind.u32.wrap (bits BinOp.and IntKind.u64 (k.fdiv (2 ^ min (IntKind.i64.wrap (d - b)).toNat 64)) (IntKind.u64.wrap (IntKind.u64.wrap (1 * 2 ^ min b.toNat 64) - 1)))))) none) none))) (m f g h i c a j)
abbrev bhb := (List Int) × Int × Int × Int × Int × Int × (List Int)
abbrev bmi := bhb
def bja {ρ : Type} (f : bhb → Option ρ) : bjr ρ := fun c d e g a b h => f (c, d, e, g, a, b, h)
def bhc {ρ : Type} : ag4 bhb bmi ρ := fun (c, d, e, f, a, b, g) next ex => aen c d e f a b g (bja next) (bja ex)
def bjx {ρ : Type} := shut (lp (bhc (ρ := ρ)))
theorem bmx {ρ : Type} : bjx (ρ := ρ) = lp bhc := bg _
def bi4 {ρ : Type} (f : ag2 bhb bmi ρ) (c : List Int) (d e g a b : Int) (h : List Int) (i : bjr ρ) : Option ρ := f (c, d, e, g, a, b, h) (fun (c, d, e, g, a, b, h) => i c d e g a b h)
def ahg {ρ : Type} := bi4 (lp (bhc (ρ := ρ)))
def ahc {ρ : Type} := bi4 (bjx (ρ := ρ))
theorem aj1 {ρ : Type} : ahc (ρ := ρ) = ahg := congrArg bi4 bmx
def adt {ρ : Type} (b : List Int) (c a : Int) (k : (List Int) → Option ρ) : Option ρ := aac b c a fun d => br (!d) (k []) (br (decide (0 ≤ a)) (br (decide (a ≤ a)) (br (decide (a * (↑4 : Int) ≤ (↑140737488355328 : Int))) (ahc b c 0 0 (↑(List.replicate a.toNat (0 : Int)).length : Int) 0 (List.replicate a.toNat (0 : Int)) fun f g h i j l e => k e) none) none) none)
def qo {ρ : Type} := shut (adt (ρ := ρ))
theorem ahb {ρ : Type} (a : List Int) (b : Int) (c : Int) (k : (List Int) → Option ρ) : qo a b c k = adt a b c k := by unfold qo; rw [bg]

abbrev bki (ρ : Type) := Int → Int → Int → Int → Int → Int → Int → (List Int) → Option ρ
def anu {ρ : Type} (g h b a c d e : Int) (f : List Int) (nx i : bki ρ) : Option ρ := br (decide (a < b)) (br (decide (0 ≤ a)) (br (decide (a < (↑f.length : Int))) (nx g (IntKind.u64.wrap (h - IntKind.u64.wrap (f.getD a.toNat 0))) b (IntKind.i64.wrap (a + 1)) c d e f) none) none) (i g h b a c d e f)
abbrev bgr := Int × Int × Int × Int × Int × Int × Int × (List Int)
abbrev bjd := bgr
def bm4 {ρ : Type} (f : bgr → Option ρ) : bki ρ := fun g h d e a b c i => f (g, h, d, e, a, b, c, i)
def bh9 {ρ : Type} : ag4 bgr bjd ρ := fun (f, g, d, e, a, b, c, h) next ex => anu f g d e a b c h (bm4 next) (bm4 ex)
def bj0 {ρ : Type} := shut (lp (bh9 (ρ := ρ)))
theorem bm8 {ρ : Type} : bj0 (ρ := ρ) = lp bh9 := bg _
def bk7 {ρ : Type} (f : ag2 bgr bjd ρ) (g h d e a b c : Int) (i : List Int) (j : bki ρ) : Option ρ := f (g, h, d, e, a, b, c, i) (fun (g, h, d, e, a, b, c, i) => j g h d e a b c i)
def am5 {ρ : Type} := bk7 (lp (bh9 (ρ := ρ)))
def aga {ρ : Type} := bk7 (bj0 (ρ := ρ))
theorem awn {ρ : Type} : aga (ρ := ρ) = am5 := congrArg bk7 bm8
def afr {ρ : Type} (a : Int) (f : List Int) (k : (List Int) → Int → Option ρ) : Option ρ := l6 a fun h i j l => br (!l) (k [] 9) (br ((↑f.length : Int) != 32) (k [] 14) (br (decide (a = 0)) none (qo f a (IntKind.i64.wrap (Int.tdiv 256 a)) fun e => br (decide (a < 0)) none (aga a (IntKind.u64.wrap (IntKind.u64.wrap (↑e.length : Int) * IntKind.u64.wrap (IntKind.u64.wrap (1 * 2 ^ min a.toNat 64) - 1))) (↑e.length : Int) 0 h i j e fun m n q r o c p b => br (decide (c < 0)) none (mo (IntKind.u64.wrap (n * 2 ^ min c.toNat 64)) 2 fun g => qo g m (IntKind.i64.wrap (o - (↑b.length : Int))) fun d => br (decide ((b.length + d.length) * 4 ≤ 140737488355328)) (k (b ++ d) 0) none)))))
def vv {ρ : Type} := shut (afr (ρ := ρ))
theorem anr {ρ : Type} (a : Int) (b : List Int) (k : (List Int) → Int → Option ρ) : vv a b k = afr a b k := by unfold vv; rw [bg]

def abe {ρ : Type} (d : Int) (e : List Int) (f a b c : Int) (g h : List Int) (k : (List Int) → Option ρ) : Option ρ := jq d e f a b c 33153 [g, h] fun i => vv d i fun j l => k j
def l5 {ρ : Type} := shut (abe (ρ := ρ))
theorem afw {ρ : Type} (e : Int) (d : List Int) (f : Int) (a : Int) (b : Int) (c : Int) (g : List Int) (h : List Int) (k : (List Int) → Option ρ) : l5 e d f a b c g h k = abe e d f a b c g h k := by unfold l5; rw [bg]

abbrev bmo (ρ : Type) := Int → Int → (List Int) → Int → Int → Int → (List Int) → Int → Int → Int → Int → Option ρ
def ahm {ρ : Type} (i j : Int) (k : List Int) (h g a : Int) (b : List Int) (c d e f : Int) (nx l : bmo ρ) : Option ρ := br (decide (g < h)) (jq a b c d e f (IntKind.u64.wrap i) [[IntKind.u8.wrap (IntKind.u32.wrap (j + g))], k] fun m => nx i j m h (IntKind.u32.wrap (g + 1)) a b c d e f) (l i j k h g a b c d e f)
abbrev bg8 := Int × Int × (List Int) × Int × Int × Int × (List Int) × Int × Int × Int × Int
abbrev bmj := bg8
def bnp {ρ : Type} (f : bg8 → Option ρ) : bmo ρ := fun j k l h i a b c d e g => f (j, k, l, h, i, a, b, c, d, e, g)
def bik {ρ : Type} : ag4 bg8 bmj ρ := fun (i, j, k, g, h, a, b, c, d, e, f) next ex => ahm i j k g h a b c d e f (bnp next) (bnp ex)
def bk3 {ρ : Type} := shut (lp (bik (ρ := ρ)))
theorem bnh {ρ : Type} : bk3 (ρ := ρ) = lp bik := bg _
def bj2 {ρ : Type} (f : ag2 bg8 bmj ρ) (j k : Int) (l : List Int) (h i a : Int) (b : List Int) (c d e g : Int) (m : bmo ρ) : Option ρ := f (j, k, l, h, i, a, b, c, d, e, g) (fun (j, k, l, h, i, a, b, c, d, e, g) => m j k l h i a b c d e g)
def ah1 {ρ : Type} := bj2 (lp (bik (ρ := ρ)))
def adk {ρ : Type} := bj2 (bk3 (ρ := ρ))
theorem ark {ρ : Type} : adk (ρ := ρ) = ah1 := congrArg bj2 bnh
def acz {ρ : Type} (e : Int) (d : List Int) (f a b c g h i : Int) (j : List Int) (k : (List Int) → Option ρ) : Option ρ := adk g h j i 0 e d f a b c fun n o l p q r s t u v m => k l
def om {ρ : Type} := shut (acz (ρ := ρ))
theorem ahq {ρ : Type} (e : Int) (d : List Int) (f : Int) (a : Int) (b : Int) (c : Int) (g : Int) (h : Int) (i : Int) (j : List Int) (k : (List Int) → Option ρ) : om e d f a b c g h i j k = acz e d f a b c g h i j k := by unfold om; rw [bg]

def ac0 {ρ : Type} (c : Int) (e : List Int) (f a b d : Int) (k : Int → Option ρ) : Option ρ := br (decide (c < 0)) none (k (IntKind.u32.wrap (IntKind.u32.wrap (1 * 2 ^ min c.toNat 32) - 1)))
def oo {ρ : Type} := shut (ac0 (ρ := ρ))
theorem aib {ρ : Type} (e : Int) (d : List Int) (f : Int) (a : Int) (b : Int) (c : Int) (k : Int → Option ρ) : oo e d f a b c k = ac0 e d f a b c k := by unfold oo; rw [bg]

def af3 {ρ : Type} (a : Int) (b : List Int) (c : Int) (k : Int → (List Int) → Int → Int → Int → Int → Int → Option ρ) : Option ρ := l6 a fun d e f g => br (!g) (k 0 [] 0 0 0 0 9) (br ((↑b.length : Int) != 16) (k 0 [] 0 0 0 0 14) (k a b c d e f 0))
def zq {ρ : Type} := shut (af3 (ρ := ρ))
theorem aof {ρ : Type} (a : Int) (b : List Int) (c : Int) (k : Int → (List Int) → Int → Int → Int → Int → Int → Option ρ) : zq a b c k = af3 a b c k := by unfold zq; rw [bg]

abbrev bkd (ρ : Type) := (List Int) → Int → Int → (List Int) → Int → (List Int) → Int → Int → Int → Int → (List Int) → Option ρ
def ajs {ρ : Type} (a : List Int) (i b : Int) (k : List Int) (c : Int) (d : List Int) (e f g h : Int) (j : List Int) (nx m : bkd ρ) : Option ρ := br (decide (b < i)) (br (decide (0 ≤ b)) (br (decide (b < (↑j.length : Int))) (oo c d e f g h fun n => br (decide (32 ≤ (↑a.length : Int))) (om c d e f g h b (j.getD b.toNat 0) (IntKind.u32.wrap (n - j.getD b.toNat 0)) (List.drop 0 (List.take (Int.toNat 32) a)) fun l => br (decide ((k.length + l.length) * 1 ≤ 140737488355328)) (br (decide (32 ≤ (↑a.length : Int))) (br (decide ((↑a.length : Int) ≤ (↑a.length : Int))) (nx (List.drop 32 (List.take (↑a.length : Int).toNat a)) i (IntKind.i64.wrap (b + 1)) (k ++ l) c d e f g h j) none) none) none) none) none) none) (m a i b k c d e f g h j)
abbrev bgp := (List Int) × Int × Int × (List Int) × Int × (List Int) × Int × Int × Int × Int × (List Int)
abbrev blr := bgp
def bna {ρ : Type} (f : bgp → Option ρ) : bkd ρ := fun h i j k a b c d e g l => f (h, i, j, k, a, b, c, d, e, g, l)
def bi1 {ρ : Type} : ag4 bgp blr ρ := fun (g, h, i, j, a, b, c, d, e, f, k) next ex => ajs g h i j a b c d e f k (bna next) (bna ex)
def bl1 {ρ : Type} := shut (lp (bi1 (ρ := ρ)))
theorem bns {ρ : Type} : bl1 (ρ := ρ) = lp bi1 := bg _
def bjv {ρ : Type} (f : ag2 bgp blr ρ) (h : List Int) (i j : Int) (k : List Int) (a : Int) (b : List Int) (c d e g : Int) (l : List Int) (m : bkd ρ) : Option ρ := f (h, i, j, k, a, b, c, d, e, g, l) (fun (h, i, j, k, a, b, c, d, e, g, l) => m h i j k a b c d e g l)
def ajj {ρ : Type} := bjv (lp (bi1 (ρ := ρ)))
def aeb {ρ : Type} := bjv (bl1 (ρ := ρ))
theorem atc {ρ : Type} : aeb (ρ := ρ) = ajj := congrArg bjv bns
def adi {ρ : Type} (c : Int) (t : List Int) (u : Int) (v a : List Int) (k : (List Int) → Int → Option ρ) : Option ρ := zq c t u fun d e f g h b i => br (i != 0) (k [] i) (jg c fun w => br ((↑a.length : Int) != w) (k [] 1) (br (decide (4 ≤ (↑a.length : Int))) (iw (List.drop 0 (List.take (Int.toNat 4) a)) fun y => br (y != IntKind.u64.wrap b) (k [] 1) (br (decide (36 ≤ (↑a.length : Int))) (br (decide ((↑a.length : Int) ≤ (↑a.length : Int))) (br (decide (36 ≤ (↑a.length : Int))) (l5 d e f g h b (List.drop 4 (List.take (Int.toNat 36) a)) v fun j => aeb (List.drop 36 (List.take (↑a.length : Int).toNat a)) (↑j.length : Int) 0 [] d e f g h b j fun z A B l m n o p q r C => jq m n o p q r 32896 [l] fun s => k s 0) none) none) none)) none))
def ji {ρ : Type} := shut (adi (ρ := ρ))
theorem ajh {ρ : Type} (a : Int) (b : List Int) (c : Int) (d : List Int) (e : List Int) (k : (List Int) → Int → Option ρ) : ji a b c d e k = adi a b c d e k := by unfold ji; rw [bg]

abbrev bjm (ρ : Type) := Int → (List Int) → (List Int) → (List Int) → (List Int) → Option ρ
def aqa {ρ : Type} (c : Int) (b e d a : List Int) (nx f : bjm ρ) : Option ρ := br (decide (c > (1 : Int))) (br (decide ((32 : Int) ≤ (↑a.length : Int))) (br (c.tmod (2 : Int) == (1 : Int)) (yu b (IntKind.u64.wrap (c.tdiv (2 : Int))) (33667 : Int) [List.drop 0 (List.take (Int.toNat (32 : Int)) a), d] fun g => br (decide ((32 : Int) ≤ (↑a.length : Int))) (br (decide ((↑a.length : Int) ≤ (↑a.length : Int))) (nx (IntKind.u64.wrap (c.tdiv (2 : Int))) b e g (List.drop 32 (List.take (↑a.length : Int).toNat a))) none) none) (yu b (IntKind.u64.wrap (c.tdiv (2 : Int))) (33667 : Int) [d, List.drop 0 (List.take (Int.toNat (32 : Int)) a)] fun h => br (decide ((32 : Int) ≤ (↑a.length : Int))) (br (decide ((↑a.length : Int) ≤ (↑a.length : Int))) (nx (IntKind.u64.wrap (c.tdiv (2 : Int))) b e h (List.drop 32 (List.take (↑a.length : Int).toNat a))) none) none)) none) (f c b e d a)
abbrev bgf := Int × (List Int) × (List Int) × (List Int) × (List Int)
abbrev bjh := bgf
def bnl {ρ : Type} (f : bgf → Option ρ) : bjm ρ := fun d a e b c => f (d, a, e, b, c)
def biq {ρ : Type} : ag4 bgf bjh ρ := fun (d, a, e, b, c) next ex => aqa d a e b c (bnl next) (bnl ex)
def bk0 {ρ : Type} := shut (lp (biq (ρ := ρ)))
theorem bnj {ρ : Type} : bk0 (ρ := ρ) = lp biq := bg _
def bmb {ρ : Type} (f : ag2 bgf bjh ρ) (d : Int) (a e b c : List Int) (g : bjm ρ) : Option ρ := f (d, a, e, b, c) (fun (d, a, e, b, c) => g d a e b c)
def ap1 {ρ : Type} := bmb (lp (biq (ρ := ρ)))
def aij {ρ : Type} := bmb (bk0 (ρ := ρ))
theorem aye {ρ : Type} : aij (ρ := ρ) = ap1 := congrArg bmb bnj
def alc {ρ : Type} (a d : Int) (e h b : List Int) (k : (List Int) → Option ρ) : Option ρ := br (decide (4 ≤ (↑b.length : Int))) (iw (List.drop 0 (List.take (Int.toNat 4) b)) fun f => jg d fun c => br (decide (4 ≤ IntKind.i64.wrap (4 + c))) (br (decide (IntKind.i64.wrap (4 + c) ≤ (↑b.length : Int))) (ji d e (IntKind.u32.wrap f) h (List.drop 4 (List.take (IntKind.i64.wrap (4 + c)).toNat b)) fun i l => br (decide (a < 0)) none (yu e (IntKind.u64.wrap (IntKind.u64.wrap (1 * 2 ^ min a.toNat 64) + IntKind.u64.wrap (IntKind.u32.wrap f))) 33410 [i] fun g => br (decide (0 ≤ IntKind.i64.wrap (IntKind.i64.wrap (4 + c) + 4))) (br (decide (IntKind.i64.wrap (IntKind.i64.wrap (4 + c) + 4) ≤ (↑b.length : Int))) (br (decide ((↑b.length : Int) ≤ (↑b.length : Int))) (br (decide (a < 0)) none (aij (IntKind.u64.wrap (IntKind.u64.wrap (1 * 2 ^ min a.toNat 64) + IntKind.u64.wrap (IntKind.u32.wrap f))) e g g (List.drop (IntKind.i64.wrap (IntKind.i64.wrap (4 + c) + 4)).toNat (List.take (↑b.length : Int).toNat b)) fun m n o j p => k j)) none) none) none)) none) none) none
def ad4 {ρ : Type} := shut (alc (ρ := ρ))
theorem auz {ρ : Type} (a : Int) (b : Int) (c : List Int) (d : List Int) (e : List Int) (k : (List Int) → Option ρ) : ad4 a b c d e k = alc a b c d e k := by unfold ad4; rw [bg]

def ahd {ρ : Type} (a j b : List Int) (k : Int → Option ρ) : Option ρ := br ((↑a.length : Int) != 56) (k 10) (br (decide (4 ≤ (↑a.length : Int))) (iw (List.drop 0 (List.take (Int.toNat 4) a)) fun l => qc l fun m => br (m == 0) (k 10) (br (decide (8 ≤ (↑a.length : Int))) (iw (List.drop 4 (List.take (Int.toNat 8) a)) fun n => uf n fun o => br (o == 0) (k 10) (abz b fun r c d p e => br (e != 0) (k e) (br (decide ((↑p.length : Int) > 0)) (k 1) (aea c d fun q => br (decide (8 ≤ (↑a.length : Int))) (zi q (List.drop 0 (List.take (Int.toNat 8) a)) fun f => br (!f) (k 1) (br (decide (4 ≤ (↑b.length : Int))) (iw (List.drop 0 (List.take (Int.toNat 4) b)) fun g => br (decide (c < 0)) none (br (g.fdiv (2 ^ min c.toNat 64) != 0) (k 13) (br (decide (24 ≤ (↑a.length : Int))) (ad4 c d (List.drop 8 (List.take (Int.toNat 24) a)) j b fun h => br (decide (24 ≤ (↑a.length : Int))) (br (decide ((↑a.length : Int) ≤ (↑a.length : Int))) (zi h (List.drop 24 (List.take (↑a.length : Int).toNat a)) fun i => br (!i) (k 11) (k 0)) none) none) none))) none)) none)))) none)) none)
def aak {ρ : Type} := shut (ahd (ρ := ρ))
theorem aqk {ρ : Type} (a : List Int) (b : List Int) (c : List Int) (k : Int → Option ρ) : aak a b c k = ahd a b c k := by unfold aak; rw [bg]

def ald {ρ : Type} (b e f : List Int) (g : Bool) (k : (List Int) → (List Int) → Int → Option ρ) : Option ρ := abz f fun c j l a d => br (d != 0) (k [] [] d) (br g (br (decide ((↑a.length : Int) > 0)) (k [] [] 1) (aak b e c fun h => k [] [] h)) (br (decide ((↑a.length : Int) < 56)) (k [] [] 1) (br (decide (56 ≤ (↑a.length : Int))) (br (decide (56 ≤ (↑a.length : Int))) (br (decide ((↑a.length : Int) ≤ (↑a.length : Int))) (aak b (List.take ((56 : Int) - (0 : Int)).toNat (List.drop 0 a)) c fun i => k (List.take ((56 : Int) - (0 : Int)).toNat (List.drop 0 a)) (List.take ((↑a.length : Int) - 56).toNat (List.drop 56 a)) i) none) none) none)))
def ad6 {ρ : Type} := shut (ald (ρ := ρ))
theorem auw {ρ : Type} (a : List Int) (b : List Int) (c : List Int) (d : Bool) (k : (List Int) → (List Int) → Int → Option ρ) : ad6 a b c d k = ald a b c d k := by unfold ad6; rw [bg]

abbrev bju (ρ : Type) := (List Int) → Int → (List Int) → (List Int) → Option ρ
def ap6 {ρ : Type} (b : List Int) (a : Int) (c d : List Int) (nx f : bju ρ) (g : Int → Option ρ) : Option ρ := br (decide (a > 0)) (ad6 c b d (a == 1) fun h i e => br (e != 0) (g e) (nx b (IntKind.u64.wrap (a - 1)) h i)) (f b a c d)
abbrev bi6 := (List Int) × Int × (List Int) × (List Int)
abbrev bjw := ((List Int) × Int × (List Int) × (List Int)) ⊕ (Int)
def zu30 {ρ : Type} (f : bi6 → Option ρ) : bju ρ := fun a b c d => f (a, b, c, d)
def bii {ρ : Type} : ag4 bi6 bjw ρ := fun (a, b, c, d) next ex => ap6 a b c d (zu30 next) (fun a b c d => ex (.inl (a, b, c, d))) (fun e => ex (.inr e))
def bln {ρ : Type} := shut (lp (bii (ρ := ρ)))
theorem bmp {ρ : Type} : bln (ρ := ρ) = lp bii := bg _
def bkn {ρ : Type} (f : ag2 bi6 bjw ρ) (a : List Int) (b : Int) (c d : List Int) (e : bju ρ) (g : Int → Option ρ) : Option ρ := f (a, b, c, d) (Sum.elim (fun (a, b, c, d) => e a b c d) (fun x => g x))
def aqi {ρ : Type} := bkn (lp (bii (ρ := ρ)))
def ajr {ρ : Type} := bkn (bln (ρ := ρ))
theorem ayd {ρ : Type} : ajr (ρ := ρ) = aqi := congrArg bkn bmp
def aew {ρ : Type} (a d b : List Int) (k : Int → Option ρ) : Option ρ := br ((↑a.length : Int) != 60) (k 10) (br (decide (4 ≤ (↑a.length : Int))) (iw (List.drop 0 (List.take (Int.toNat 4) a)) fun c => br (decide (c < 1)) (k 10) (br (decide (c > 8)) (k 10) (br (decide ((↑b.length : Int) < 4)) (k 1) (br (decide (4 ≤ (↑b.length : Int))) (iw (List.drop 0 (List.take (Int.toNat 4) b)) fun e => br (e != IntKind.u64.wrap (c - 1)) (k 1) (br (decide (4 ≤ (↑a.length : Int))) (br (decide ((↑a.length : Int) ≤ (↑a.length : Int))) (br (decide (4 ≤ (↑b.length : Int))) (br (decide ((↑b.length : Int) ≤ (↑b.length : Int))) (ajr d c (List.drop 4 (List.take (↑a.length : Int).toNat a)) (List.drop 4 (List.take (↑b.length : Int).toNat b)) (fun g h i j => k 0) fun f => k f) none) none) none) none)) none)))) none)
def aai {ρ : Type} := shut (aew (ρ := ρ))
theorem ajl {ρ : Type} (a : List Int) (b : List Int) (c : List Int) (k : Int → Option ρ) : aai a b c k = aew a b c k := by unfold aai; rw [bg]

def afg {ρ : Type} (k : Bool → Option ρ) : Option ρ := oz 2 [(2 : Int), (3 : Int)] [(1 : Int), (1 : Int)] (List.replicate 16 (0 : Int)) (List.replicate 32 (0 : Int)) (9 : Int) fun a b => tq 2 [(2 : Int), (3 : Int)] [(1 : Int), (1 : Int)] (List.replicate 16 (0 : Int)) (List.replicate 32 (0 : Int)) fun c => br (c == (32 : Int)) (br (b == (0 : Int)) (br ((↑a.length : Int) == (2 : Int)) (br (decide ((0 : Int) < (↑a.length : Int))) (br (a.getD 0 (0 : Int) == (1 : Int)) (br (decide ((1 : Int) < (↑a.length : Int))) (br (a.getD 1 (0 : Int) == (1 : Int)) (aai [] [] [] fun d => k (d == (10 : Int))) (k false)) none) (k false)) none) (k false)) (k false)) (k false)
def p8 {ρ : Type} := shut (afg (ρ := ρ))
theorem alh {ρ : Type}  (k : Bool → Option ρ) : p8  k = afg  k := by unfold p8; rw [bg]

def ad1 {ρ : Type} (a : Int) (k : Int → Option ρ) : Option ρ := br (decide (a ≥ (1 : Int))) (br (decide (a ≤ (4 : Int))) (k (IntKind.u64.wrap ((3758096384 : Int) + IntKind.u64.wrap a))) (br (decide (a ≥ (5 : Int))) (br (decide (a ≤ (25 : Int))) (br (a.tmod (5 : Int) == (0 : Int)) (k (IntKind.u64.wrap (IntKind.i64.wrap ((4 : Int) + IntKind.i64.wrap (a.tdiv (5 : Int)))))) (k (0 : Int))) (k (0 : Int))) (k (0 : Int)))) (br (decide (a ≥ (5 : Int))) (br (decide (a ≤ (25 : Int))) (br (a.tmod (5 : Int) == (0 : Int)) (k (IntKind.u64.wrap (IntKind.i64.wrap ((4 : Int) + IntKind.i64.wrap (a.tdiv (5 : Int)))))) (k (0 : Int))) (k (0 : Int))) (k (0 : Int)))
def aav {ρ : Type} := shut (ad1 (ρ := ρ))
theorem ahh {ρ : Type} (a : Int) (k : Int → Option ρ) : aav a k = ad1 a k := by unfold aav; rw [bg]

def af8 {ρ : Type} (a : Int) (k : Int → Int → Int → Option ρ) : Option ρ := br (a == 1) (k 265 7 1) (br (a == 2) (k 133 6 2) (br (a == 4) (k 67 4 3) (br (a == 8) (k 34 0 4) (k 0 0 0))))
def aau {ρ : Type} := shut (af8 (ρ := ρ))
theorem abu {ρ : Type} (a : Int) (k : Int → Int → Int → Option ρ) : aau a k = af8 a k := by unfold aau; rw [bg]

def ad3 {ρ : Type} (b : Int) (k : Int → Option ρ) : Option ρ := aau b fun a c d => br (a == 0) (k 0) (k (IntKind.i64.wrap (36 + IntKind.i64.wrap (32 * a))))
def aaw {ρ : Type} := shut (ad3 (ρ := ρ))
theorem ah2 {ρ : Type} (a : Int) (k : Int → Option ρ) : aaw a k = ad3 a k := by unfold aaw; rw [bg]

def ah5 {ρ : Type} (a b : Int) (k : Bool → Option ρ) : Option ρ := aav a fun c => br (c != 0) (aaw b fun d => k (d != 0)) (k false)
def aeu {ρ : Type} := shut (ah5 (ρ := ρ))
theorem apx {ρ : Type} (a : Int) (b : Int) (k : Bool → Option ρ) : aeu a b k = ah5 a b k := by unfold aeu; rw [bg]

abbrev bl2 (ρ : Type) := Int → Int → Nat → (List Int) → (List Int) → (List Int) → (List Int) → Option ρ
def ac6 {ρ : Type} (h d : Int) (c : Nat) (a b e f : List Int) (nx i : bl2 ρ) (g : Bool → Int → Int → Int → Int → Nat → (List Int) → (List Int) → (List Int) → (List Int) → Option ρ) : Option ρ := br (decide (d < (↑c : Int))) (br (decide ((0 : Int) ≤ d)) (br (decide (d < (↑c : Int))) (br (decide (d ≥ (8 : Int))) (g false (a.getD d.toNat (0 : Int)) (b.getD d.toNat (0 : Int)) (0 : Int) (0 : Int) c a b e f) (aeu (a.getD d.toNat (0 : Int)) (b.getD d.toNat (0 : Int)) fun j => br (!j) (g false (a.getD d.toNat (0 : Int)) (b.getD d.toNat (0 : Int)) (0 : Int) (0 : Int) c a b e f) (br (decide (a.getD d.toNat (0 : Int) > (10 : Int))) (g false (a.getD d.toNat (0 : Int)) (b.getD d.toNat (0 : Int)) (0 : Int) (0 : Int) c a b e f) (nx (IntKind.i64.wrap (h + a.getD d.toNat (0 : Int))) (IntKind.i64.wrap (d + (1 : Int))) c a b e f)))) none) none) (i h d c a b e f)
abbrev bi0 := Int × Int × Nat × (List Int) × (List Int) × (List Int) × (List Int)
abbrev bk5 := (Int × Int × Nat × (List Int) × (List Int) × (List Int) × (List Int)) ⊕ (Bool × Int × Int × Int × Int × Nat × (List Int) × (List Int) × (List Int) × (List Int))
def blz {ρ : Type} (f : bi0 → Option ρ) : bl2 ρ := fun g h a b c d e => f (g, h, a, b, c, d, e)
def bf0 {ρ : Type} : ag4 bi0 bk5 ρ := fun (h, i, a, b, c, d, e) next ex => ac6 h i a b c d e (blz next) (fun h i a b c d e => ex (.inl (h, i, a, b, c, d, e))) (fun l j k f g a b c d e => ex (.inr (l, j, k, f, g, a, b, c, d, e)))
def bkh {ρ : Type} := shut (lp (bf0 (ρ := ρ)))
theorem bnm {ρ : Type} : bkh (ρ := ρ) = lp bf0 := bg _
def bhu {ρ : Type} (f : ag2 bi0 bk5 ρ) (g h : Int) (a : Nat) (b c d e : List Int) (i : bl2 ρ) (j : Bool → Int → Int → Int → Int → Nat → (List Int) → (List Int) → (List Int) → (List Int) → Option ρ) : Option ρ := f (g, h, a, b, c, d, e) (Sum.elim (fun (g, h, a, b, c, d, e) => i g h a b c d e) (fun x => j x.1 x.2.1 x.2.2.1 x.2.2.2.1 x.2.2.2.2.1 x.2.2.2.2.2.1 x.2.2.2.2.2.2.1 x.2.2.2.2.2.2.2.1 x.2.2.2.2.2.2.2.2.1 x.2.2.2.2.2.2.2.2.2))
def ajz {ρ : Type} := bhu (lp (bf0 (ρ := ρ)))
def ao2 {ρ : Type} := bhu (bkh (ρ := ρ))
theorem ajo {ρ : Type} : ao2 (ρ := ρ) = ajz := congrArg bhu bnm
def afj {ρ : Type} (a : Nat) (b c e d : List Int) (k : Bool → Option ρ) : Option ρ := ao2 0 0 a b c e d (fun f s g t u h i => br (decide ((↑g : Int) ≥ 1)) (br (decide (f ≤ 60)) (br ((↑h.length : Int) == 16) (k ((↑i.length : Int) == 32)) (k false)) (k false)) (k false)) fun j v w l m n o p q r => k j
def ael {ρ : Type} := shut (afj (ρ := ρ))
theorem akg {ρ : Type} (a : Nat) (b : List Int) (c : List Int) (e : List Int) (d : List Int) (k : Bool → Option ρ) : ael a b c e d k = afj a b c e d k := by unfold ael; rw [bg]

abbrev bj4 (ρ : Type) := (List Int) → (List Int) → Int → Option ρ
def adu {ρ : Type} (b c : List Int) (a : Int) (nx d : bj4 ρ) (e : Bool → Option ρ) : Option ρ := br (decide (a < (↑b.length : Int))) (br (decide (0 ≤ a)) (br (decide (a < (↑b.length : Int))) (br (decide (0 ≤ a)) (br (decide (a < (↑c.length : Int))) (br (b.getD a.toNat 0 != c.getD a.toNat 0) (e false) (nx b c (IntKind.i64.wrap (a + 1)))) none) none) none) none) (d b c a)
abbrev biz := (List Int) × (List Int) × Int
abbrev bl4 := ((List Int) × (List Int) × Int) ⊕ (Bool)
def bmw {ρ : Type} (f : biz → Option ρ) : bj4 ρ := fun a b c => f (a, b, c)
def bgo {ρ : Type} : ag4 biz bl4 ρ := fun (a, b, c) next ex => adu a b c (bmw next) (fun a b c => ex (.inl (a, b, c))) (fun d => ex (.inr d))
def blf {ρ : Type} := shut (lp (bgo (ρ := ρ)))
theorem bno {ρ : Type} : blf (ρ := ρ) = lp bgo := bg _
def bix {ρ : Type} (f : ag2 biz bl4 ρ) (a b : List Int) (c : Int) (d : bj4 ρ) (e : Bool → Option ρ) : Option ρ := f (a, b, c) (Sum.elim (fun (a, b, c) => d a b c) (fun x => e x))
def af4 {ρ : Type} := bix (lp (bgo (ρ := ρ)))
def af5 {ρ : Type} := bix (blf (ρ := ρ))
theorem ajn {ρ : Type} : af5 (ρ := ρ) = af4 := congrArg bix bno
def acy {ρ : Type} (a b : List Int) (k : Bool → Option ρ) : Option ρ := br ((↑a.length : Int) != (↑b.length : Int)) (k false) (af5 a b 0 (fun d e f => k true) fun c => k c)
def pz {ρ : Type} := shut (acy (ρ := ρ))
theorem agk {ρ : Type} (a : List Int) (b : List Int) (k : Bool → Option ρ) : pz a b k = acy a b k := by unfold pz; rw [bg]

abbrev bmg (ρ : Type) := Int → Int → Int → Int → Int → Nat → (List Int) → (List Int) → (List Int) → (List Int) → (List Int) → Option ρ
def adp {ρ : Type} (j k i h a : Int) (c : Nat) (b d e f g : List Int) (nx l : bmg ρ) (m : Bool → Nat → (List Int) → (List Int) → (List Int) → (List Int) → (List Int) → Option ρ) : Option ρ := br (decide (a < h)) (br (decide ((0 : Int) ≤ a)) (br (decide (a < (↑g.length : Int))) (br (decide ((0 : Int) ≤ a)) (br (decide (a < (↑c : Int))) (br (decide (b.getD a.toNat (0 : Int) < (0 : Int))) none (br (decide (g.getD a.toNat (0 : Int) ≥ IntKind.u32.wrap ((1 : Int) * (2 : Int) ^ min (b.getD a.toNat (0 : Int)).toNat 32))) (m false c b d e f g) (br (decide ((0 : Int) ≤ a)) (br (decide (a < (↑c : Int))) (br (decide (b.getD a.toNat (0 : Int) < (0 : Int))) none (nx j k (IntKind.u64.wrap (IntKind.u64.wrap (i * (2 : Int) ^ min (b.getD a.toNat (0 : Int)).toNat 64) + IntKind.u64.wrap (g.getD a.toNat (0 : Int)))) h (IntKind.i64.wrap (a + (1 : Int))) c b d e f g)) none) none))) none) none) none) none) (l j k i h a c b d e f g)
abbrev bie := Int × Int × Int × Int × Int × Nat × (List Int) × (List Int) × (List Int) × (List Int) × (List Int)
abbrev bji := (Int × Int × Int × Int × Int × Nat × (List Int) × (List Int) × (List Int) × (List Int) × (List Int)) ⊕ (Bool × Nat × (List Int) × (List Int) × (List Int) × (List Int) × (List Int))
def bnq {ρ : Type} (f : bie → Option ρ) : bmg ρ := fun j k g h i a b c d e l => f (j, k, g, h, i, a, b, c, d, e, l)
def bgc {ρ : Type} : ag4 bie bji ρ := fun (j, k, f, g, h, a, b, c, d, e, i) next ex => adp j k f g h a b c d e i (bnq next) (fun j k f g h a b c d e i => ex (.inl (j, k, f, g, h, a, b, c, d, e, i))) (fun l a b c d e i => ex (.inr (l, a, b, c, d, e, i)))
def bly {ρ : Type} := shut (lp (bgc (ρ := ρ)))
theorem bm1 {ρ : Type} : bly (ρ := ρ) = lp bgc := bg _
def bi9 {ρ : Type} (f : ag2 bie bji ρ) (j k g h i : Int) (a : Nat) (b c d e l : List Int) (m : bmg ρ) (n : Bool → Nat → (List Int) → (List Int) → (List Int) → (List Int) → (List Int) → Option ρ) : Option ρ := f (j, k, g, h, i, a, b, c, d, e, l) (Sum.elim (fun (j, k, g, h, i, a, b, c, d, e, l) => m j k g h i a b c d e l) (fun x => n x.1 x.2.1 x.2.2.1 x.2.2.2.1 x.2.2.2.2.1 x.2.2.2.2.2.1 x.2.2.2.2.2.2))
def agd {ρ : Type} := bi9 (lp (bgc (ρ := ρ)))
def afz {ρ : Type} := bi9 (bly (ρ := ρ))
theorem ai8 {ρ : Type} : afz (ρ := ρ) = agd := congrArg bi9 bm1
def adw {ρ : Type} (a : Nat) (b c e d : List Int) (h j : Int) (k : Bool → Option ρ) : Option ρ := br (decide ((↑a : Int) > 20)) (p8 fun t => k t) (acw [e, d] fun u => br (!u) (p8 fun v => k v) (ael a b c e d fun w => br (!w) (p8 fun y => k y) (tq a b c e d fun f => br (f == 0) (k false) (br (decide (f = 0)) none (oz a b c e d (h.tmod f) fun i z => br (decide (f = 0)) none (oz a b c e d (j.tmod f) fun A B => oz a b c e d f fun C l => br (z != 0) (k false) (br (B != 0) (k false) (br (l != 13) (k false) (pz i A fun m => br (decide (f = 0)) none (br (decide (f = 0)) none (br (!m == (h.tmod f == j.tmod f)) (k false) (afz h f 0 (↑i.length : Int) 0 a b c e d i (fun n g o F G p H I J M q => br (decide (g = 0)) none (br (o == n.tmod g) (br ((↑q.length : Int) == (↑p : Int)) (p8 fun r => k r) (k false)) (k false))) fun s N O Q U W Z => k s))))))))))))
def wm {ρ : Type} := shut (adw (ρ := ρ))
theorem ahe {ρ : Type} (a : Nat) (b : List Int) (c : List Int) (e : List Int) (d : List Int) (f : Int) (g : Int) (k : Bool → Option ρ) : wm a b c e d f g k = adw a b c e d f g k := by unfold wm; rw [bg]

























































































































end P
end
