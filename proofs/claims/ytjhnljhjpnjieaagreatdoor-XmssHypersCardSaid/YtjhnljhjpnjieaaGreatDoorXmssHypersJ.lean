/-
  XmssHypers, part 10: an interpreter of my own over abstract values, the pure functions, the walks and the plain law.
-/

import Derived.Test.YtjhnljhjpnjieaaGreatDoorXmssHypersG
import Derived.Test.YtjhnljhjpnjieaaGreatDoorXmssHypersI
import Derived.Test.YtjhnljhjpnjieaaGreatDoorXmssHypersH

noncomputable section
open Go Go.Abs
set_option linter.unusedVariables false
namespace P

abbrev b5r (ρ : Type) := (List Int) → (List Int) → Int → (List (List Int)) → Int → Int → Int → Int → Int → Bool → (List Int) → (List Int) → Option ρ
def aha {ρ : Type} (j k : List Int) (b : Int) (l : List (List Int)) (a c d e f : Int) (g : Bool) (h i : List Int) (nx m : b5r ρ) : Option ρ := br (decide (b < (↑i.length : Int))) (br (decide (0 ≤ IntKind.i64.wrap (a * b))) (br (decide (IntKind.i64.wrap (a * b) ≤ IntKind.i64.wrap (IntKind.i64.wrap (a * b) + a))) (br (decide (IntKind.i64.wrap (IntKind.i64.wrap (a * b) + a) ≤ (↑j.length : Int))) (br (decide (0 ≤ b)) (br (decide (b < (↑i.length : Int))) (ji h 4 (IntKind.u64.wrap b) fun n => sw a c d e f g (List.drop (IntKind.i64.wrap (a * b)).toNat (List.take (IntKind.i64.wrap (IntKind.i64.wrap (a * b) + a)).toNat j)) (i.getD b.toNat 0) 15 k n fun o => br (decide ((l.length + 1) * 24 ≤ 140737488355328)) (nx j k (IntKind.i64.wrap (b + 1)) (l ++ [o]) a c d e f g h i) none) none) none) none) none) none) (m j k b l a c d e f g h i)
abbrev bzz := (List Int) × (List Int) × Int × (List (List Int)) × Int × Int × Int × Int × Int × Bool × (List Int) × (List Int)
abbrev car := bzz
def b84 {ρ : Type} (f : bzz → Option ρ) : b5r ρ := fun j k i l a b c d e g h m => f (j, k, i, l, a, b, c, d, e, g, h, m)
def bwa {ρ : Type} : ab3 bzz car ρ := fun (i, j, h, k, a, b, c, d, e, f, g, l) next ex => aha i j h k a b c d e f g l (b84 next) (b84 ex)
def cau {ρ : Type} := shut (lp (bwa (ρ := ρ)))
theorem cda {ρ : Type} : cau (ρ := ρ) = lp bwa := bq _
def b2l {ρ : Type} (f : ab8 bzz car ρ) (j k : List Int) (i : Int) (l : List (List Int)) (a b c d e : Int) (g : Bool) (h m : List Int) (n : b5r ρ) : Option ρ := f (j, k, i, l, a, b, c, d, e, g, h, m) (fun (j, k, i, l, a, b, c, d, e, g, h, m) => n j k i l a b c d e g h m)
def amv {ρ : Type} := b2l (lp (bwa (ρ := ρ)))
def amt {ρ : Type} := b2l (cau (ρ := ρ))
theorem ars {ρ : Type} : amt (ρ := ρ) = amv := congrArg b2l cda
def afy {ρ : Type} (a c d e f : Int) (b : Bool) (g h i o : List Int) (k : (List Int) → Option ρ) : Option ρ := u7 a c d e f b h i fun p => br p (k []) (br ((↑g.length : Int) != IntKind.i64.wrap (a * IntKind.i64.wrap (IntKind.i64.wrap (2 * a) + 3))) (k []) (xk a h fun q => amt g i 0 [] a c d e f b o q fun z r A s t u v w j l m y => aed t u v w j l s r m fun n => k n))
def uy {ρ : Type} := shut (afy (ρ := ρ))
theorem am0 {ρ : Type} (b : Int) (c : Int) (d : Int) (e : Int) (f : Int) (a : Bool) (g : List Int) (h : List Int) (i : List Int) (j : List Int) (k : (List Int) → Option ρ) : uy b c d e f a g h i j k = afy b c d e f a g h i j k := by unfold uy; rw [bq]

abbrev cba (ρ : Type) := (List Int) → (List Int) → Int → Int → (List Int) → Int → Int → Int → Int → Int → Int → Bool → (List Int) → Option ρ
def ahe {ρ : Type} (j l : List Int) (k c : Int) (m : List Int) (b a e d f g : Int) (h : Bool) (i : List Int) (nx n : cba ρ) : Option ρ := br (decide (d = (0 : Int))) none (br (decide (b < IntKind.i64.wrap (e.tdiv d))) (br (decide ((0 : Int) ≤ IntKind.i64.wrap (c + IntKind.i64.wrap (a * b)))) (br (decide (IntKind.i64.wrap (c + IntKind.i64.wrap (a * b)) ≤ IntKind.i64.wrap (IntKind.i64.wrap (c + IntKind.i64.wrap (a * b)) + a))) (br (decide (IntKind.i64.wrap (IntKind.i64.wrap (c + IntKind.i64.wrap (a * b)) + a) ≤ (↑j.length : Int))) (br (decide (b < (0 : Int))) none (br ((k.fdiv ((2 : Int) ^ min b.toNat 64)).tmod (2 : Int) == (0 : Int)) (br (decide (IntKind.i64.wrap (b + (1 : Int)) < (0 : Int))) none (aaw a e d f g h l i (IntKind.i64.wrap (b + (1 : Int))) (k.fdiv ((2 : Int) ^ min (IntKind.i64.wrap (b + (1 : Int))).toNat 64)) m (List.drop (IntKind.i64.wrap (c + IntKind.i64.wrap (a * b))).toNat (List.take (IntKind.i64.wrap (IntKind.i64.wrap (c + IntKind.i64.wrap (a * b)) + a)).toNat j)) fun o => nx j l k c o (IntKind.i64.wrap (b + (1 : Int))) a e d f g h i)) (br (decide (IntKind.i64.wrap (b + (1 : Int)) < (0 : Int))) none (aaw a e d f g h l i (IntKind.i64.wrap (b + (1 : Int))) (k.fdiv ((2 : Int) ^ min (IntKind.i64.wrap (b + (1 : Int))).toNat 64)) (List.drop (IntKind.i64.wrap (c + IntKind.i64.wrap (a * b))).toNat (List.take (IntKind.i64.wrap (IntKind.i64.wrap (c + IntKind.i64.wrap (a * b)) + a)).toNat j)) m fun p => nx j l k c p (IntKind.i64.wrap (b + (1 : Int))) a e d f g h i)))) none) none) none) (n j l k c m b a e d f g h i))
abbrev bxq := (List Int) × (List Int) × Int × Int × (List Int) × Int × Int × Int × Int × Int × Int × Bool × (List Int)
abbrev b6j := bxq
def b39 {ρ : Type} (f : bxq → Option ρ) : cba ρ := fun l m n i j k a b c d e g h => f (l, m, n, i, j, k, a, b, c, d, e, g, h)
def bx8 {ρ : Type} : ab3 bxq b6j ρ := fun (k, l, m, h, i, j, a, b, c, d, e, f, g) next ex => ahe k l m h i j a b c d e f g (b39 next) (b39 ex)
def b37 {ρ : Type} := shut (lp (bx8 (ρ := ρ)))
theorem cd3 {ρ : Type} : b37 (ρ := ρ) = lp bx8 := bq _
def b23 {ρ : Type} (f : ab8 bxq b6j ρ) (l m : List Int) (n i : Int) (j : List Int) (k a b c d e : Int) (g : Bool) (h : List Int) (o : cba ρ) : Option ρ := f (l, m, n, i, j, k, a, b, c, d, e, g, h) (fun (l, m, n, i, j, k, a, b, c, d, e, g, h) => o l m n i j k a b c d e g h)
def amm {ρ : Type} := b23 (lp (bx8 (ρ := ρ)))
def amr {ρ : Type} := b23 (b37 (ρ := ρ))
theorem aqw {ρ : Type} : amr (ρ := ρ) = amm := congrArg b23 cd3
def agd {ρ : Type} (a d c e f : Int) (b : Bool) (g j h l : List Int) (i : Int) (k : (List Int) → Option ρ) : Option ρ := p8 a d c e f b fun m => br (!m) (k []) (br ((↑h.length : Int) != a) (k []) (br ((↑j.length : Int) != a) (k []) (aam a d c e f b fun n => br ((↑g.length : Int) != n) (k []) (br (decide (c = 0)) none (br (decide (IntKind.i64.wrap (d.tdiv c) < 0)) none (br (decide (i ≥ IntKind.u64.wrap (1 * 2 ^ min (IntKind.i64.wrap (d.tdiv c)).toNat 64))) (k []) (br (decide (0 ≤ IntKind.i64.wrap (a * IntKind.i64.wrap (IntKind.i64.wrap (2 * a) + 3)))) (br (decide (IntKind.i64.wrap (a * IntKind.i64.wrap (IntKind.i64.wrap (2 * a) + 3)) ≤ (↑g.length : Int))) (zh l i fun o => uy a d c e f b (List.drop 0 (List.take (IntKind.i64.wrap (a * IntKind.i64.wrap (IntKind.i64.wrap (2 * a) + 3))).toNat g)) j h o fun p => amr g h i (IntKind.i64.wrap (a * IntKind.i64.wrap (IntKind.i64.wrap (2 * a) + 3))) p 0 a d c e f b l fun z A B C q F r s t u v w y => k q) none) none)))))))
def pz {ρ : Type} := shut (agd (ρ := ρ))
theorem amz {ρ : Type} (b : Int) (c : Int) (d : Int) (e : Int) (f : Int) (a : Bool) (g : List Int) (h : List Int) (i : List Int) (j : List Int) (l : Int) (k : (List Int) → Option ρ) : pz b c d e f a g h i j l k = agd b c d e f a g h i j l k := by unfold pz; rw [bq]

def an5 {ρ : Type} (d a b e f : Int) (c : Bool) (g h : Int) (k : Bool → Option ρ) : Option ρ := p8 d a b e f c fun i => br i (br (decide (b = 0)) none (br (decide (IntKind.i64.wrap (a.tdiv b) < 0)) none (br (decide (h < IntKind.u64.wrap (1 * 2 ^ min (IntKind.i64.wrap (a.tdiv b)).toNat 64))) (br (decide (b = 0)) none (br (decide (IntKind.i64.wrap (a - IntKind.i64.wrap (a.tdiv b)) ≥ 64)) (k true) (br (decide (b = 0)) none (br (decide (IntKind.i64.wrap (a - IntKind.i64.wrap (a.tdiv b)) < 0)) none (k (decide (g < IntKind.u64.wrap (1 * 2 ^ min (IntKind.i64.wrap (a - IntKind.i64.wrap (a.tdiv b))).toNat 64)))))))) (k false)))) (k false)
def uh {ρ : Type} := shut (an5 (ρ := ρ))
theorem axu {ρ : Type} (b : Int) (c : Int) (d : Int) (e : Int) (f : Int) (a : Bool) (g : Int) (h : Int) (k : Bool → Option ρ) : uh b c d e f a g h k = an5 b c d e f a g h k := by unfold uh; rw [bq]

def alz {ρ : Type} (a b : Int) (k : (List Int) → Option ρ) : Option ρ := ji [0, 0, 0, 0, 0, 0, 0, 0, 0, 0, 0, 0, 0, 0, 0, 0, 0, 0, 0, 0, 0, 0, 0, 0, 0, 0, 0, 0, 0, 0, 0, 0] 0 (IntKind.u64.wrap a) fun c => ji c 1 b fun d => k d
def z8 {ρ : Type} := shut (alz (ρ := ρ))
theorem avc {ρ : Type} (a : Int) (b : Int) (k : (List Int) → Option ρ) : z8 a b k = alz a b k := by unfold z8; rw [bq]

abbrev b6g (ρ : Type) := (List Int) → (List Int) → (List Int) → Int → Int → Int → (List (List Int)) → Int → Int → Int → Int → Int → Bool → Option ρ
def ana {ρ : Type} (j k h : List Int) (i l g : Int) (m : List (List Int)) (c b a d e : Int) (f : Bool) (nx p : b6g ρ) : Option ρ := br (decide (g < a)) (z8 g i fun n => ae1 c b a d e f j k h n l fun o => br (decide ((m.length + 1) * 24 ≤ 140737488355328)) (pz c b a d e f o j h n l fun q => br (decide (a = 0)) none (br (decide (IntKind.i64.wrap (b.tdiv a) < 0)) none (br (decide (IntKind.u64.wrap (1 * 2 ^ min (IntKind.i64.wrap (b.tdiv a)).toNat 64) = 0)) none (br (decide (a = 0)) none (br (decide (IntKind.i64.wrap (b.tdiv a) < 0)) none (nx q k h (i.fdiv (2 ^ min (IntKind.i64.wrap (b.tdiv a)).toNat 64)) (i.tmod (IntKind.u64.wrap (1 * 2 ^ min (IntKind.i64.wrap (b.tdiv a)).toNat 64))) (IntKind.i64.wrap (g + 1)) (m ++ [o]) c b a d e f)))))) none) (p j k h i l g m c b a d e f)
abbrev bxk := (List Int) × (List Int) × (List Int) × Int × Int × Int × (List (List Int)) × Int × Int × Int × Int × Int × Bool
abbrev b94 := bxk
def b49 {ρ : Type} (f : bxk → Option ρ) : b6g ρ := fun i j k l m h n a b c d e g => f (i, j, k, l, m, h, n, a, b, c, d, e, g)
def b08 {ρ : Type} : ab3 bxk b94 ρ := fun (h, i, j, k, l, g, m, a, b, c, d, e, f) next ex => ana h i j k l g m a b c d e f (b49 next) (b49 ex)
def b4b {ρ : Type} := shut (lp (b08 (ρ := ρ)))
theorem cdj {ρ : Type} : b4b (ρ := ρ) = lp b08 := bq _
def b1t {ρ : Type} (f : ab8 bxk b94 ρ) (i j k : List Int) (l m h : Int) (n : List (List Int)) (a b c d e : Int) (g : Bool) (o : b6g ρ) : Option ρ := f (i, j, k, l, m, h, n, a, b, c, d, e, g) (fun (i, j, k, l, m, h, n, a, b, c, d, e, g) => o i j k l m h n a b c d e g)
def avp {ρ : Type} := b1t (lp (b08 (ρ := ρ)))
def avz {ρ : Type} := b1t (b4b (ρ := ρ))
theorem azo {ρ : Type} : avz (ρ := ρ) = avp := congrArg b1t cdj
def abn {ρ : Type} (a c d e f : Int) (b : Bool) (g h i : List Int) (j l : Int) (k : (List Int) → Option ρ) : Option ρ := uh a c d e f b j l fun n => br (!n) (k []) (br ((↑h.length : Int) != a) (k []) (br ((↑i.length : Int) != a) (k []) (br ((↑g.length : Int) != a) (k []) (avz g h i j l 0 [] a c d e f b fun t u v w y z o A B p q r s => ko o fun m => k m))))
def aby {ρ : Type} := shut (abn (ρ := ρ))
theorem aem {ρ : Type} (b : Int) (c : Int) (d : Int) (e : Int) (f : Int) (a : Bool) (g : List Int) (h : List Int) (i : List Int) (j : Int) (l : Int) (k : (List Int) → Option ρ) : aby b c d e f a g h i j l k = abn b c d e f a g h i j l k := by unfold aby; rw [bq]

abbrev caf (ρ : Type) := (List Int) → (List Int) → Int → Int → Int → Option ρ
def anj {ρ : Type} (c d : List Int) (e b a : Int) (nx f : caf ρ) : Option ρ := br (decide (a < b)) (br (decide (0 ≤ a)) (br (decide (a < (↑c.length : Int))) (br (decide (0 ≤ a)) (br (decide (a < (↑d.length : Int))) (nx c d (bits BinOp.or IntKind.u8 e (bits BinOp.xor IntKind.u8 (c.getD a.toNat 0) (d.getD a.toNat 0))) b (IntKind.i64.wrap (a + 1))) none) none) none) none) (f c d e b a)
abbrev b0a := (List Int) × (List Int) × Int × Int × Int
abbrev b7f := b0a
def b35 {ρ : Type} (f : b0a → Option ρ) : caf ρ := fun c d e a b => f (c, d, e, a, b)
def bv6 {ρ : Type} : ab3 b0a b7f ρ := fun (c, d, e, a, b) next ex => anj c d e a b (b35 next) (b35 ex)
def b83 {ρ : Type} := shut (lp (bv6 (ρ := ρ)))
theorem cbz {ρ : Type} : b83 (ρ := ρ) = lp bv6 := bq _
def b3a {ρ : Type} (f : ab8 b0a b7f ρ) (c d : List Int) (e a b : Int) (g : caf ρ) : Option ρ := f (c, d, e, a, b) (fun (c, d, e, a, b) => g c d e a b)
def avq {ρ : Type} := b3a (lp (bv6 (ρ := ρ)))
def avd {ρ : Type} := b3a (b83 (ρ := ρ))
theorem ay3 {ρ : Type} : avd (ρ := ρ) = avq := congrArg b3a cbz
def amh {ρ : Type} (a b : List Int) (k : Bool → Option ρ) : Option ρ := br ((↑a.length : Int) != (↑b.length : Int)) (k false) (avd a b 0 (↑a.length : Int) 0 fun d e c f g => k (c == 0))
def yj {ρ : Type} := shut (amh (ρ := ρ))
theorem avy {ρ : Type} (a : List Int) (b : List Int) (k : Bool → Option ρ) : yj a b k = amh a b k := by unfold yj; rw [bq]

abbrev b6m (ρ : Type) := (List Int) → Int → Int → Int → Int → Int → Int → Int → Bool → (List Int) → (List Int) → (List Int) → Int → Int → Int → Int → Int → Bool → Int → Int → Option ρ
def ahg {ρ : Type} (p : List Int) (t s b c d e f : Int) (g : Bool) (q a o : List Int) (h i j k l : Int) (m : Bool) (n r : Int) (nx z : b6m ρ) : Option ρ := br (decide (s < t)) (ig [0, 0, 0, 0, 0, 0, 0, 0, 0, 0, 0, 0, 0, 0, 0, 0, 0, 0, 0, 0, 0, 0, 0, 0, 0, 0, 0, 0, 0, 0, 0, 0] 0 (IntKind.u64.wrap s) fun A => ig A 1 n fun B => mg b c d e f g fun u => br (decide (0 ≤ u)) (br (decide (u ≤ (↑a.length : Int))) (jc b c d e f g (List.drop 0 (List.take u.toNat a)) q o B r fun C => mg b c d e f g fun v => br (decide (0 ≤ v)) (br (decide (v ≤ (↑a.length : Int))) (br (decide ((↑a.length : Int) ≤ (↑a.length : Int))) (iy h i j k l m fun w => br (decide (w < 0)) none (iy h i j k l m fun y => br (decide (y < 0)) none (nx p t (IntKind.i64.wrap (s + 1)) b c d e f g C (List.drop v.toNat (List.take (↑a.length : Int).toNat a)) o h i j k l m (n.fdiv (2 ^ min y.toNat 64)) (bits BinOp.and IntKind.u64 n (IntKind.u64.wrap (IntKind.u64.wrap (1 * 2 ^ min w.toNat 64) - 1)))))) none) none) none) none) none) (z p t s b c d e f g q a o h i j k l m n r)
abbrev by6 := (List Int) × Int × Int × Int × Int × Int × Int × Int × Bool × (List Int) × (List Int) × (List Int) × Int × Int × Int × Int × Int × Bool × Int × Int
abbrev b9g := by6
def b9c {ρ : Type} (f : by6 → Option ρ) : b6m ρ := fun a t u b c d e g h i j k l m n o p q r s => f (a, t, u, b, c, d, e, g, h, i, j, k, l, m, n, o, p, q, r, s)
def b0k {ρ : Type} : ab3 by6 b9g ρ := fun (a, s, t, b, c, d, e, f, g, h, i, j, k, l, m, n, o, p, q, r) next ex => ahg a s t b c d e f g h i j k l m n o p q r (b9c next) (b9c ex)
def b5m {ρ : Type} := shut (lp (b0k (ρ := ρ)))
theorem cce {ρ : Type} : b5m (ρ := ρ) = lp b0k := bq _
def b2f {ρ : Type} (f : ab8 by6 b9g ρ) (a : List Int) (t u b c d e g : Int) (h : Bool) (i j k : List Int) (l m n o p : Int) (q : Bool) (r s : Int) (v : b6m ρ) : Option ρ := f (a, t, u, b, c, d, e, g, h, i, j, k, l, m, n, o, p, q, r, s) (fun (a, t, u, b, c, d, e, g, h, i, j, k, l, m, n, o, p, q, r, s) => v a t u b c d e g h i j k l m n o p q r s)
def amk {ρ : Type} := b2f (lp (b0k (ρ := ρ)))
def amw {ρ : Type} := b2f (b5m (ρ := ρ))
theorem arn {ρ : Type} : amw (ρ := ρ) = amk := congrArg b2f cce
def yt {ρ : Type} (c d b e f : Int) (a : Bool) (h i j g : List Int) (l m : Int) (k : Bool → Option ρ) : Option ρ := ku c d b e f a [h, j, g] fun p => br (!p) (k false) (mg c d b e f a fun q => br ((↑i.length : Int) != IntKind.i64.wrap (b * q)) (k false) (jy c d b e f a l m fun r => br (!r) (k false) (amw g b 0 c d b e f a h i j c d b e f a l m fun H I J M N O Q s t n u v w y z A B C F G => yj n g fun o => k o)))
def y5 {ρ : Type} := shut (yt (ρ := ρ))
theorem aay {ρ : Type} (b : Int) (c : Int) (d : Int) (e : Int) (f : Int) (a : Bool) (g : List Int) (h : List Int) (i : List Int) (j : List Int) (l : Int) (m : Int) (k : Bool → Option ρ) : y5 b c d e f a g h i j l m k = yt b c d e f a g h i j l m k := by unfold y5; rw [bq]

abbrev b3h (ρ : Type) := (List Int) → (List Int) → (List Int) → (List Int) → Int → Int → Int → Int → Int → Int → Int → Int → Int → Bool → Option ρ
def alk {ρ : Type} (l i k m : List Int) (j n b d e c a f g : Int) (h : Bool) (nx o : b3h ρ) : Option ρ := br (decide (d < a)) (br (decide (0 ≤ IntKind.i64.wrap (b * d))) (br (decide (IntKind.i64.wrap (b * d) ≤ IntKind.i64.wrap (IntKind.i64.wrap (b * d) + b))) (br (decide (IntKind.i64.wrap (IntKind.i64.wrap (b * d) + b) ≤ (↑i.length : Int))) (z8 d j fun p => pz e c a f g h (List.drop (IntKind.i64.wrap (b * d)).toNat (List.take (IntKind.i64.wrap (IntKind.i64.wrap (b * d) + b)).toNat i)) l k p n fun q => br (decide (a = 0)) none (br (decide (IntKind.i64.wrap (c.tdiv a) < 0)) none (br (decide (IntKind.u64.wrap (1 * 2 ^ min (IntKind.i64.wrap (c.tdiv a)).toNat 64) = 0)) none (br (decide (a = 0)) none (br (decide (IntKind.i64.wrap (c.tdiv a) < 0)) none (nx q i k m (j.fdiv (2 ^ min (IntKind.i64.wrap (c.tdiv a)).toNat 64)) (j.tmod (IntKind.u64.wrap (1 * 2 ^ min (IntKind.i64.wrap (c.tdiv a)).toNat 64))) b (IntKind.i64.wrap (d + 1)) e c a f g h)))))) none) none) none) (o l i k m j n b d e c a f g h)
abbrev bxh := (List Int) × (List Int) × (List Int) × (List Int) × Int × Int × Int × Int × Int × Int × Int × Int × Int × Bool
abbrev b9l := bxh
def b59 {ρ : Type} (f : bxh → Option ρ) : b3h ρ := fun j k l m n o h i a b c d e g => f (j, k, l, m, n, o, h, i, a, b, c, d, e, g)
def bzp {ρ : Type} : ab3 bxh b9l ρ := fun (i, j, k, l, m, n, g, h, a, b, c, d, e, f) next ex => alk i j k l m n g h a b c d e f (b59 next) (b59 ex)
def b40 {ρ : Type} := shut (lp (bzp (ρ := ρ)))
theorem ccw {ρ : Type} : b40 (ρ := ρ) = lp bzp := bq _
def b1e {ρ : Type} (f : ab8 bxh b9l ρ) (j k l m : List Int) (n o h i a b c d e : Int) (g : Bool) (p : b3h ρ) : Option ρ := f (j, k, l, m, n, o, h, i, a, b, c, d, e, g) (fun (j, k, l, m, n, o, h, i, a, b, c, d, e, g) => p j k l m n o h i a b c d e g)
def asx {ρ : Type} := b1e (lp (bzp (ρ := ρ)))
def ate {ρ : Type} := b1e (b40 (ρ := ρ))
theorem aww {ρ : Type} : ate (ρ := ρ) = asx := congrArg b1e ccw
def zl {ρ : Type} (b d c e f : Int) (a : Bool) (g h i j : List Int) (l m : Int) (k : Bool → Option ρ) : Option ρ := uh b d c e f a l m fun o => br (!o) (k false) (br ((↑i.length : Int) != b) (k false) (br ((↑g.length : Int) != b) (k false) (br ((↑j.length : Int) != b) (k false) (aam b d c e f a fun p => br ((↑h.length : Int) != IntKind.i64.wrap (c * p)) (k false) (aam b d c e f a fun q => ate g h i j l m q 0 b d c e f a fun r B C s F G H t u v w y z A => abq r s fun n => k n)))))
def aas {ρ : Type} := shut (zl (ρ := ρ))
theorem abv {ρ : Type} (b : Int) (c : Int) (d : Int) (e : Int) (f : Int) (a : Bool) (g : List Int) (h : List Int) (i : List Int) (j : List Int) (l : Int) (m : Int) (k : Bool → Option ρ) : aas b c d e f a g h i j l m k = zl b c d e f a g h i j l m k := by unfold aas; rw [bq]

def afg {ρ : Type} (b c d e f : Int) (a : Bool) (l g h m : List Int) (i j : Int) (n : List Int) (k : Bool → Option ρ) : Option ρ := abd b c d e f a fun p => br (!p) (u6 fun q => k q) (ag6 [l, g, h, m] fun r => br (!r) (u6 fun s => k s) (br (decide ((↑n.length : Int) > 6000)) (u6 fun t => k t) (aat b c d e f a h l g i j fun u => aby b c d e f a h l g i j fun v => abq u v fun w => br w (y5 b c d e f a h n g m i j fun y => aas b c d e f a h n g m i j fun z => br (y == z) (u6 fun o => k o) (k false)) (k false))))
def yc {ρ : Type} := shut (afg (ρ := ρ))
theorem akm {ρ : Type} (b : Int) (c : Int) (d : Int) (e : Int) (f : Int) (a : Bool) (g : List Int) (h : List Int) (i : List Int) (j : List Int) (l : Int) (m : Int) (n : List Int) (k : Bool → Option ρ) : yc b c d e f a g h i j l m n k = afg b c d e f a g h i j l m n k := by unfold yc; rw [bq]

end P
end
