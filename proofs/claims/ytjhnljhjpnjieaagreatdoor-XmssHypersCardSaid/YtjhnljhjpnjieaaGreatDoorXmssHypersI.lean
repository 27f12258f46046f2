/-
  XmssHypers, part 9: an interpreter of my own over abstract values, the pure functions, the walks and the plain law.
-/

import Derived.Test.YtjhnljhjpnjieaaGreatDoorXmssHypersG
import Derived.Test.YtjhnljhjpnjieaaGreatDoorXmssHypersH

noncomputable section
open Go Go.Abs
set_option linter.unusedVariables false
namespace P

def ah3 {ρ : Type} (b c d e f : Int) (a : Bool) (h i m : List Int) (g j : Int) (k : (List Int) → Option ρ) : Option ρ := ku b c d e f a [h, i] fun n => br (!n) (k []) (br (decide (g < 0)) (k []) (iy b c d e f a fun o => br (decide (g > o)) (k []) (iy b c d e f a fun l => br (decide (IntKind.i64.wrap (l - g) < 0)) none (br (j.fdiv (2 ^ min (IntKind.i64.wrap (l - g)).toNat 64) != 0) (k []) (ow (g.toNat + 1) b c d e f a h i m g j fun p => k p)))))
def ad9 {ρ : Type} := shut (ah3 (ρ := ρ))
theorem aoc {ρ : Type} (b : Int) (c : Int) (d : Int) (e : Int) (f : Int) (a : Bool) (g : List Int) (h : List Int) (i : List Int) (j : Int) (l : Int) (k : (List Int) → Option ρ) : ad9 b c d e f a g h i j l k = ah3 b c d e f a g h i j l k := by unfold ad9; rw [bq]

def al4 {ρ : Type} (k : Bool → Option ρ) : Option ρ := mg 16 2 1 1 1 false fun a => br (a == 592) (ad9 16 2 1 1 1 false (List.replicate 16 (0 : Int)) (List.replicate 16 (0 : Int)) [0, 0, 0, 0, 0, 0, 0, 0, 0, 0, 0, 0, 0, 0, 0, 0, 0, 0, 0, 0, 0, 0, 0, 0, 0, 0, 0, 0, 0, 0, 0, 0] 3 0 fun b => k ((↑b.length : Int) == 0)) (k false)
def u6 {ρ : Type} := shut (al4 (ρ := ρ))
theorem avu {ρ : Type}  (k : Bool → Option ρ) : u6  k = al4  k := by unfold u6; rw [bq]

def asb {ρ : Type} (c : List Int) (a b : Int) (k : Bool → Option ρ) : Option ρ := br (decide (a ≥ 1)) (br (decide (a ≤ 24)) (br (decide (b ≥ 0)) (br (decide (a = 0)) none (k (decide (b ≤ IntKind.i64.wrap ((IntKind.i64.wrap ((↑c.length : Int) * 8)).tdiv a))))) (k false)) (k false)) (k false)
def adg {ρ : Type} := shut (asb (ρ := ρ))
theorem awh {ρ : Type} (a : List Int) (b : Int) (c : Int) (k : Bool → Option ρ) : adg a b c k = asb a b c k := by unfold adg; rw [bq]

abbrev b5s (ρ : Type) := (List Int) → Int → Int → Int → Int → Int → Int → (List Int) → Option ρ
def aki {ρ : Type} (a : List Int) (e g f b c d : Int) (h : List Int) (nx i : b5s ρ) : Option ρ := br (decide (f < e)) (br (decide (0 < (↑a.length : Int))) (br (decide (1 ≤ (↑a.length : Int))) (br (decide ((↑a.length : Int) ≤ (↑a.length : Int))) (nx (List.drop 1 (List.take (↑a.length : Int).toNat a)) e (bits BinOp.or IntKind.u64 (IntKind.u64.wrap (g * 2 ^ 8)) (IntKind.u64.wrap (a.getD 0 0))) (IntKind.i64.wrap (f + 8)) b c d h) none) none) none) (i a e g f b c d h)
abbrev bxj := (List Int) × Int × Int × Int × Int × Int × Int × (List Int)
abbrev b4t := bxj
def b7b {ρ : Type} (f : bxj → Option ρ) : b5s ρ := fun d e g h a b c i => f (d, e, g, h, a, b, c, i)
def bx7 {ρ : Type} : ab3 bxj b4t ρ := fun (d, e, f, g, a, b, c, h) next ex => aki d e f g a b c h (b7b next) (b7b ex)
def b6l {ρ : Type} := shut (lp (bx7 (ρ := ρ)))
theorem cdm {ρ : Type} : b6l (ρ := ρ) = lp bx7 := bq _
def b3e {ρ : Type} (f : ab8 bxj b4t ρ) (d : List Int) (e g h a b c : Int) (i : List Int) (j : b5s ρ) : Option ρ := f (d, e, g, h, a, b, c, i) (fun (d, e, g, h, a, b, c, i) => j d e g h a b c i)
def apm {ρ : Type} := b3e (lp (bx7 (ρ := ρ)))
def apo {ρ : Type} := b3e (b6l (ρ := ρ))
theorem au3 {ρ : Type} : apo (ρ := ρ) = apm := congrArg b3e cdm
abbrev b72 (ρ : Type) := (List Int) → Int → Int → Int → Int → Int → (List Int) → Option ρ
def aj5 {ρ : Type} (f : List Int) (g h i c a : Int) (j : List Int) (nx m : b72 ρ) : Option ρ := br (decide (a < c)) (apo f g h i a c a j fun n b k d e o p l => br (decide (IntKind.i64.wrap (d - b) < 0)) none (br (decide (b < 0)) none (br (decide (0 ≤ e)) (br (decide (e < (↑l.length : Int))) (nx n b k (IntKind.i64.wrap (d - b)) o (IntKind.i64.wrap (p + 1)) (l.set e.toNat (IntKind.u32.wrap (bits BinOp.and IntKind.u64 (k.fdiv (2 ^ min (IntKind.i64.wrap (d - b)).toNat 64)) (IntKind.u64.wrap (IntKind.u64.wrap (1 * 2 ^ min b.toNat 64) - 1)))))) none) none))) (m f g h i c a j)
abbrev by2 := (List Int) × Int × Int × Int × Int × Int × (List Int)
abbrev b4r := by2
def b5w {ρ : Type} (f : by2 → Option ρ) : b72 ρ := fun c d e g a b h => f (c, d, e, g, a, b, h)
def bv7 {ρ : Type} : ab3 by2 b4r ρ := fun (c, d, e, f, a, b, g) next ex => aj5 c d e f a b g (b5w next) (b5w ex)
def b69 {ρ : Type} := shut (lp (bv7 (ρ := ρ)))
theorem cd7 {ρ : Type} : b69 (ρ := ρ) = lp bv7 := bq _
def b2r {ρ : Type} (f : ab8 by2 b4r ρ) (c : List Int) (d e g a b : Int) (h : List Int) (i : b72 ρ) : Option ρ := f (c, d, e, g, a, b, h) (fun (c, d, e, g, a, b, h) => i c d e g a b h)
def ap4 {ρ : Type} := b2r (lp (bv7 (ρ := ρ)))
def apt {ρ : Type} := b2r (b69 (ρ := ρ))
theorem aug {ρ : Type} : apt (ρ := ρ) = ap4 := congrArg b2r cd7
def ai7 {ρ : Type} (b : List Int) (c a : Int) (k : (List Int) → Option ρ) : Option ρ := adg b c a fun d => br (!d) (k []) (br (decide (0 ≤ a)) (br (decide (a ≤ a)) (br (decide (a * (↑4 : Int) ≤ (↑140737488355328 : Int))) (apt b c 0 0 (↑(List.replicate a.toNat (0 : Int)).length : Int) 0 (List.replicate a.toNat (0 : Int)) fun f g h i j l e => k e) none) none) none)
def vw {ρ : Type} := shut (ai7 (ρ := ρ))
theorem ap8 {ρ : Type} (a : List Int) (b : Int) (c : Int) (k : (List Int) → Option ρ) : vw a b c k = ai7 a b c k := by unfold vw; rw [bq]

abbrev b6x (ρ : Type) := Int → Int → Int → (List Int) → Option ρ
def aj4 {ρ : Type} (d b a : Int) (c : List Int) (nx e : b6x ρ) : Option ρ := br (decide (a < b)) (br (decide (0 ≤ a)) (br (decide (a < (↑c.length : Int))) (nx (IntKind.u32.wrap (d - c.getD a.toNat 0)) b (IntKind.i64.wrap (a + 1)) c) none) none) (e d b a c)
abbrev bvv := Int × Int × Int × (List Int)
abbrev b5x := bvv
def b5j {ρ : Type} (f : bvv → Option ρ) : b6x ρ := fun c a b d => f (c, a, b, d)
def bzw {ρ : Type} : ab3 bvv b5x ρ := fun (c, a, b, d) next ex => aj4 c a b d (b5j next) (b5j ex)
def cax {ρ : Type} := shut (lp (bzw (ρ := ρ)))
theorem cdu {ρ : Type} : cax (ρ := ρ) = lp bzw := bq _
def b1l {ρ : Type} (f : ab8 bvv b5x ρ) (c a b : Int) (d : List Int) (e : b6x ρ) : Option ρ := f (c, a, b, d) (fun (c, a, b, d) => e c a b d)
def apu {ρ : Type} := b1l (lp (bzw (ρ := ρ)))
def ab2 {ρ : Type} := b1l (cax (ρ := ρ))
theorem atz {ρ : Type} : ab2 (ρ := ρ) = apu := congrArg b1l cdu
def aia {ρ : Type} (a : Int) (c : List Int) (k : (List Int) → Option ρ) : Option ρ := br (a != 16) (br (a != 24) (br (a != 32) (k []) (br ((↑c.length : Int) != a) (k []) (vw c 4 (IntKind.i64.wrap (2 * a)) fun h => ab2 (IntKind.u32.wrap (IntKind.i64.wrap (15 * (↑h.length : Int)))) (↑h.length : Int) 0 h fun d o p j => br (decide ((j.length + ([bits BinOp.and IntKind.u32 (d.fdiv ((2 : Int) ^ 4)) (15 : Int), bits BinOp.and IntKind.u32 d (15 : Int)].length.add 0).succ) * 4 ≤ 140737488355328)) (k (j ++ [d.fdiv (2 ^ 8), bits BinOp.and IntKind.u32 (d.fdiv (2 ^ 4)) 15, bits BinOp.and IntKind.u32 d 15])) none))) (br ((↑c.length : Int) != a) (k []) (vw c 4 (IntKind.i64.wrap (2 * a)) fun i => ab2 (IntKind.u32.wrap (IntKind.i64.wrap (15 * (↑i.length : Int)))) (↑i.length : Int) 0 i fun e q r l => br (decide ((l.length + ([bits BinOp.and IntKind.u32 (e.fdiv ((2 : Int) ^ 4)) (15 : Int), bits BinOp.and IntKind.u32 e (15 : Int)].length.add 0).succ) * 4 ≤ 140737488355328)) (k (l ++ [e.fdiv (2 ^ 8), bits BinOp.and IntKind.u32 (e.fdiv (2 ^ 4)) 15, bits BinOp.and IntKind.u32 e 15])) none))) (br ((↑c.length : Int) != a) (k []) (vw c 4 (IntKind.i64.wrap (2 * a)) fun f => ab2 (IntKind.u32.wrap (IntKind.i64.wrap (15 * (↑f.length : Int)))) (↑f.length : Int) 0 f fun b m n g => br (decide ((g.length + ([bits BinOp.and IntKind.u32 (b.fdiv ((2 : Int) ^ 4)) (15 : Int), bits BinOp.and IntKind.u32 b (15 : Int)].length.add 0).succ) * 4 ≤ 140737488355328)) (k (g ++ [b.fdiv (2 ^ 8), bits BinOp.and IntKind.u32 (b.fdiv (2 ^ 4)) 15, bits BinOp.and IntKind.u32 b 15])) none))
def ug {ρ : Type} := shut (aia (ρ := ρ))
theorem apr {ρ : Type} (a : Int) (b : List Int) (k : (List Int) → Option ρ) : ug a b k = aia a b k := by unfold ug; rw [bq]

abbrev ca6 (ρ : Type) := (List Int) → Int → Int → (List Int) → (List Int) → Int → Int → Int → Int → Int → Bool → Nat → Int → (List Int) → Int → Bool → Int → Int → (List Int) → (List Int) → Int → Int → Int → (List Int) → (List Int) → Int → (List Int) → Option ρ
def anf {ρ : Type} (B : List Int) (y o : Int) (z p : List Int) (q r s t u : Int) (v : Bool) (w : Nat) (a : Int) (b : List Int) (c : Int) (d : Bool) (e f : Int) (g h : List Int) (i j k : Int) (l m : List Int) (n : Int) (A : List Int) (nx F : ca6 ρ) : Option ρ := br (decide (o < y)) (br (decide (0 ≤ o)) (br (decide (o < (↑A.length : Int))) (ig p 4 (IntKind.u64.wrap o) fun G => ny q r s t u v w a b c d e f g h i j k l m n B p o fun H => kr q r s t u v w a b c d e f g h i j k l m n G H 0 (A.getD o.toNat 0) fun C => br (decide ((z.length + C.length) * 1 ≤ 140737488355328)) (nx B y (IntKind.i64.wrap (o + 1)) (z ++ C) p q r s t u v w a b c d e f g h i j k l m n A) none) none) none) (F B y o z p q r s t u v w a b c d e f g h i j k l m n A)
abbrev by9 := (List Int) × Int × Int × (List Int) × (List Int) × Int × Int × Int × Int × Int × Bool × Nat × Int × (List Int) × Int × Bool × Int × Int × (List Int) × (List Int) × Int × Int × Int × (List Int) × (List Int) × Int × (List Int)
abbrev cak := by9
def b63 {ρ : Type} (f : by9 → Option ρ) : ca6 ρ := fun B y z A p q r s t u v w a b c d e g h i j k l m n o C => f (B, y, z, A, p, q, r, s, t, u, v, w, a, b, c, d, e, g, h, i, j, k, l, m, n, o, C)
def b04 {ρ : Type} : ab3 by9 cak ρ := fun (A, w, y, z, o, p, q, r, s, t, u, v, a, b, c, d, e, f, g, h, i, j, k, l, m, n, B) next ex => anf A w y z o p q r s t u v a b c d e f g h i j k l m n B (b63 next) (b63 ex)
def b5o {ρ : Type} := shut (lp (b04 (ρ := ρ)))
theorem cdn {ρ : Type} : b5o (ρ := ρ) = lp b04 := bq _
def b26 {ρ : Type} (f : ab8 by9 cak ρ) (B : List Int) (y z : Int) (A p : List Int) (q r s t u : Int) (v : Bool) (w : Nat) (a : Int) (b : List Int) (c : Int) (d : Bool) (e g : Int) (h i : List Int) (j k l : Int) (m n : List Int) (o : Int) (C : List Int) (F : ca6 ρ) : Option ρ := f (B, y, z, A, p, q, r, s, t, u, v, w, a, b, c, d, e, g, h, i, j, k, l, m, n, o, C) (fun (B, y, z, A, p, q, r, s, t, u, v, w, a, b, c, d, e, g, h, i, j, k, l, m, n, o, C) => F B y z A p q r s t u v w a b c d e g h i j k l m n o C)
def avg {ρ : Type} := b26 (lp (b04 (ρ := ρ)))
def avi {ρ : Type} := b26 (b5o (ρ := ρ))
theorem ayd {ρ : Type} : avi (ρ := ρ) = avg := congrArg b26 cdn
def als {ρ : Type} (a d e f g : Int) (b : Bool) (h i y z : List Int) (k : (List Int) → Option ρ) : Option ρ := qy a d e f g b y fun A B C F G H I J M N j l m n o p q r s t u v => br (!v) (k []) (br ((↑i.length : Int) != a) (k []) (br ((↑h.length : Int) != a) (k []) (ug a h fun c => avi i (↑c.length : Int) 0 [] z A B C F G H I J M N j l m n o p q r s t u c fun O Q U w W Z aa ab ac ad ae af ag ah ai aj ak al am an ao ap aq ar au av aw => k w)))
def ac4 {ρ : Type} := shut (als (ρ := ρ))
theorem awd {ρ : Type} (b : Int) (c : Int) (d : Int) (e : Int) (f : Int) (a : Bool) (g : List Int) (h : List Int) (i : List Int) (j : List Int) (k : (List Int) → Option ρ) : ac4 b c d e f a g h i j k = als b c d e f a g h i j k := by unfold ac4; rw [bq]

abbrev b3t (ρ : Type) := Int → Int → Int → (List Int) → Int → Int → Int → Int → Int → Bool → (List Int) → (List Int) → (List Int) → Option ρ
def an8 {ρ : Type} (m k a : Int) (l : List Int) (b c d e f : Int) (g : Bool) (h i j : List Int) (nx o : b3t ρ) : Option ρ := br (decide (a < k)) (br (decide (a < 0)) none (ow (a.toNat + 1) b c d e f g h i j a (bits BinOp.xor IntKind.u64 (m.fdiv (2 ^ min a.toNat 64)) 1) fun n => br (decide ((l.length + n.length) * 1 ≤ 140737488355328)) (nx m k (IntKind.i64.wrap (a + 1)) (l ++ n) b c d e f g h i j) none)) (o m k a l b c d e f g h i j)
abbrev bwq := Int × Int × Int × (List Int) × Int × Int × Int × Int × Int × Bool × (List Int) × (List Int) × (List Int)
abbrev b5k := bwq
def b3r {ρ : Type} (f : bwq → Option ρ) : b3t ρ := fun n k l m a b c d e g h i j => f (n, k, l, m, a, b, c, d, e, g, h, i, j)
def bxs {ρ : Type} : ab3 bwq b5k ρ := fun (m, j, k, l, a, b, c, d, e, f, g, h, i) next ex => an8 m j k l a b c d e f g h i (b3r next) (b3r ex)
def b8q {ρ : Type} := shut (lp (bxs (ρ := ρ)))
theorem ccb {ρ : Type} : b8q (ρ := ρ) = lp bxs := bq _
def b2b {ρ : Type} (f : ab8 bwq b5k ρ) (n k l : Int) (m : List Int) (a b c d e : Int) (g : Bool) (h i j : List Int) (o : b3t ρ) : Option ρ := f (n, k, l, m, a, b, c, d, e, g, h, i, j) (fun (n, k, l, m, a, b, c, d, e, g, h, i, j) => o n k l m a b c d e g h i j)
def av0 {ρ : Type} := b2b (lp (bxs (ρ := ρ)))
def avr {ρ : Type} := b2b (b8q (ρ := ρ))
theorem ax5 {ρ : Type} : avr (ρ := ρ) = av0 := congrArg b2b ccb
def alb {ρ : Type} (b c d e f : Int) (a : Bool) (j g h l : List Int) (i : Int) (k : (List Int) → Option ρ) : Option ρ := ku b c d e f a [g, h, j] fun n => br (!n) (k []) (iy b c d e f a fun m => br (decide (m < 0)) none (br (i.fdiv (2 ^ min m.toNat 64) != 0) (k []) (oo b c d e f a g h l i fun o => ac4 b c d e f a j g h o fun p => iy b c d e f a fun q => avr i q 0 p b c d e f a g h l fun B C F r G s t u v w y z A => k r)))
def yh {ρ : Type} := shut (alb (ρ := ρ))
theorem avw {ρ : Type} (b : Int) (c : Int) (d : Int) (e : Int) (f : Int) (a : Bool) (g : List Int) (h : List Int) (i : List Int) (j : List Int) (l : Int) (k : (List Int) → Option ρ) : yh b c d e f a g h i j l k = alb b c d e f a g h i j l k := by unfold yh; rw [bq]

abbrev cae (ρ : Type) := (List Int) → Int → Int → (List Int) → Int → Int → Int → Int → Int → Bool → (List Int) → Int → Int → Int → Int → Int → Bool → Nat → Int → (List Int) → Int → Bool → Int → Int → (List Int) → (List Int) → Int → Int → Int → (List Int) → (List Int) → Int → (List Int) → Option ρ
def af0 {ρ : Type} (q : List Int) (A p : Int) (J : List Int) (a B C F G : Int) (H : Bool) (r : List Int) (s t u v w : Int) (y : Bool) (z : Nat) (b : Int) (c : List Int) (d : Int) (e : Bool) (f g : Int) (h i : List Int) (j k l : Int) (m n : List Int) (o : Int) (I : List Int) (nx N : cae ρ) : Option ρ := br (decide (p < A)) (br (decide (0 ≤ p)) (br (decide (p < (↑I.length : Int))) (ig r 4 (IntKind.u64.wrap p) fun O => br (decide (0 ≤ a)) (br (decide (a ≤ (↑q.length : Int))) (kr s t u v w y z b c d e f g h i j k l m n o O (List.drop 0 (List.take a.toNat q)) (I.getD p.toNat 0) 15 fun M => br (decide ((J.length + M.length) * 1 ≤ 140737488355328)) (br (decide (0 ≤ a)) (br (decide (a ≤ (↑q.length : Int))) (br (decide ((↑q.length : Int) ≤ (↑q.length : Int))) (nx (List.drop a.toNat (List.take (↑q.length : Int).toNat q)) A (IntKind.i64.wrap (p + 1)) (J ++ M) a B C F G H r s t u v w y z b c d e f g h i j k l m n o I) none) none) none) none) none) none) none) none) (N q A p J a B C F G H r s t u v w y z b c d e f g h i j k l m n o I)
abbrev bzn := (List Int) × Int × Int × (List Int) × Int × Int × Int × Int × Int × Bool × (List Int) × Int × Int × Int × Int × Int × Bool × Nat × Int × (List Int) × Int × Bool × Int × Int × (List Int) × (List Int) × Int × Int × Int × (List Int) × (List Int) × Int × (List Int)
abbrev cbh := bzn
def b4k {ρ : Type} (f : bzn → Option ρ) : cae ρ := fun I G H J p q r s t u v w y z A B C F a b c d e g h i j k l m n o M => f (I, G, H, J, p, q, r, s, t, u, v, w, y, z, A, B, C, F, a, b, c, d, e, g, h, i, j, k, l, m, n, o, M)
def bzf {ρ : Type} : ab3 bzn cbh ρ := fun (H, F, G, I, o, p, q, r, s, t, u, v, w, y, z, A, B, C, a, b, c, d, e, f, g, h, i, j, k, l, m, n, J) next ex => af0 H F G I o p q r s t u v w y z A B C a b c d e f g h i j k l m n J (b4k next) (b4k ex)
def b9r {ρ : Type} := shut (lp (bzf (ρ := ρ)))
theorem cc4 {ρ : Type} : b9r (ρ := ρ) = lp bzf := bq _
def b2z {ρ : Type} (f : ab8 bzn cbh ρ) (I : List Int) (G H : Int) (J : List Int) (p q r s t : Int) (u : Bool) (v : List Int) (w y z A B : Int) (C : Bool) (F : Nat) (a : Int) (b : List Int) (c : Int) (d : Bool) (e g : Int) (h i : List Int) (j k l : Int) (m n : List Int) (o : Int) (M : List Int) (N : cae ρ) : Option ρ := f (I, G, H, J, p, q, r, s, t, u, v, w, y, z, A, B, C, F, a, b, c, d, e, g, h, i, j, k, l, m, n, o, M) (fun (I, G, H, J, p, q, r, s, t, u, v, w, y, z, A, B, C, F, a, b, c, d, e, g, h, i, j, k, l, m, n, o, M) => N I G H J p q r s t u v w y z A B C F a b c d e g h i j k l m n o M)
def ak9 {ρ : Type} := b2z (lp (bzf (ρ := ρ)))
def ak6 {ρ : Type} := b2z (b9r (ρ := ρ))
theorem apf {ρ : Type} : ak6 (ρ := ρ) = ak9 := congrArg b2z cc4
def aes {ρ : Type} (a c d e f : Int) (b : Bool) (t u a3 a4 : List Int) (k : (List Int) → Option ρ) : Option ρ := qy a c d e f b a3 fun v w y z A B C F G H g h i j l m n o p q r I => br (!I) (k []) (br ((↑u.length : Int) != a) (k []) (nk v w y z A B C F G H g h i j l m n o p q r fun J => br ((↑t.length : Int) != IntKind.i64.wrap (a * J)) (k []) (ug a u fun s => ak6 t (↑s.length : Int) 0 [] a c d e f b a4 v w y z A B C F G H g h i j l m n o p q r s fun ar au av M aw ax ay az a0 a5 N O Q U W Z aa ab ac ad ae af ag ah ai aj ak al am an ao ap a6 => qd O Q U W Z aa ab ac ad ae af ag ah ai aj ak al am an ao ap M N fun aq => k aq)))
def sj {ρ : Type} := shut (aes (ρ := ρ))
theorem ak5 {ρ : Type} (b : Int) (c : Int) (d : Int) (e : Int) (f : Int) (a : Bool) (g : List Int) (h : List Int) (i : List Int) (j : List Int) (k : (List Int) → Option ρ) : sj b c d e f a g h i j k = aes b c d e f a g h i j k := by unfold sj; rw [bq]

abbrev b7o (ρ : Type) := Int → (List Int) → (List Int) → Int → Int → Int → Int → Int → Int → Int → Bool → Int → Int → Int → Int → Int → Bool → (List Int) → (List Int) → Option ρ
def af5 {ρ : Type} (r : Int) (s b : List Int) (q c a l m n o : Int) (p : Bool) (d e f g h : Int) (i : Bool) (j k : List Int) (nx t : b7o ρ) : Option ρ := br (decide (c < q)) (br (decide ((0 : Int) ≤ a)) (br (decide (a ≤ (↑b.length : Int))) (br (decide (c < (0 : Int))) none (br (bits BinOp.and IntKind.u64 (r.fdiv ((2 : Int) ^ min c.toNat 64)) (1 : Int) == (1 : Int)) (br (decide (IntKind.i64.wrap (c + (1 : Int)) < (0 : Int))) none (qh d e f g h i [] j k (IntKind.i64.wrap (c + (1 : Int))) (r.fdiv ((2 : Int) ^ min (IntKind.i64.wrap (c + (1 : Int))).toNat 64)) (List.drop 0 (List.take a.toNat b)) s fun u => br (decide ((0 : Int) ≤ a)) (br (decide (a ≤ (↑b.length : Int))) (br (decide ((↑b.length : Int) ≤ (↑b.length : Int))) (nx r u (List.drop a.toNat (List.take (↑b.length : Int).toNat b)) q (IntKind.i64.wrap (c + (1 : Int))) a l m n o p d e f g h i j k) none) none) none)) (br (decide (IntKind.i64.wrap (c + (1 : Int)) < (0 : Int))) none (qh d e f g h i [] j k (IntKind.i64.wrap (c + (1 : Int))) (r.fdiv ((2 : Int) ^ min (IntKind.i64.wrap (c + (1 : Int))).toNat 64)) s (List.drop 0 (List.take a.toNat b)) fun v => br (decide ((0 : Int) ≤ a)) (br (decide (a ≤ (↑b.length : Int))) (br (decide ((↑b.length : Int) ≤ (↑b.length : Int))) (nx r v (List.drop a.toNat (List.take (↑b.length : Int).toNat b)) q (IntKind.i64.wrap (c + (1 : Int))) a l m n o p d e f g h i j k) none) none) none)))) none) none) (t r s b q c a l m n o p d e f g h i j k)
abbrev bzd := Int × (List Int) × (List Int) × Int × Int × Int × Int × Int × Int × Int × Bool × Int × Int × Int × Int × Int × Bool × (List Int) × (List Int)
abbrev b7p := bzd
def b4v {ρ : Type} (f : bzd → Option ρ) : b7o ρ := fun t p q r s a b c d e g h i j k l m n o => f (t, p, q, r, s, a, b, c, d, e, g, h, i, j, k, l, m, n, o)
def bxz {ρ : Type} : ab3 bzd b7p ρ := fun (s, o, p, q, r, a, b, c, d, e, f, g, h, i, j, k, l, m, n) next ex => af5 s o p q r a b c d e f g h i j k l m n (b4v next) (b4v ex)
def cah {ρ : Type} := shut (lp (bxz (ρ := ρ)))
theorem ccu {ρ : Type} : cah (ρ := ρ) = lp bxz := bq _
def b3d {ρ : Type} (f : ab8 bzd b7p ρ) (t : Int) (p q : List Int) (r s a b c d e : Int) (g : Bool) (h i j k l : Int) (m : Bool) (n o : List Int) (u : b7o ρ) : Option ρ := f (t, p, q, r, s, a, b, c, d, e, g, h, i, j, k, l, m, n, o) (fun (t, p, q, r, s, a, b, c, d, e, g, h, i, j, k, l, m, n, o) => u t p q r s a b c d e g h i j k l m n o)
def akw {ρ : Type} := b3d (lp (bxz (ρ := ρ)))
def ala {ρ : Type} := b3d (cah (ρ := ρ))
theorem apj {ρ : Type} : ala (ρ := ρ) = akw := congrArg b3d ccu
def afm {ρ : Type} (b c d e f : Int) (a : Bool) (g l i m : List Int) (j : Int) (k : (List Int) → Option ρ) : Option ρ := ku b c d e f a [i, l] fun o => br (!o) (k []) (mg b c d e f a fun p => br ((↑g.length : Int) != p) (k []) (iy b c d e f a fun n => br (decide (n < 0)) none (br (j.fdiv (2 ^ min n.toNat 64) != 0) (k []) (iy b c d e f a fun h => br (decide (0 ≤ IntKind.i64.wrap ((↑g.length : Int) - IntKind.i64.wrap (b * h)))) (br (decide (IntKind.i64.wrap ((↑g.length : Int) - IntKind.i64.wrap (b * h)) ≤ (↑g.length : Int))) (oo b c d e f a [] i m j fun q => sj b c d e f a (List.drop 0 (List.take (IntKind.i64.wrap ((↑g.length : Int) - IntKind.i64.wrap (b * h))).toNat g)) l i q fun r => br (decide (0 ≤ IntKind.i64.wrap ((↑g.length : Int) - IntKind.i64.wrap (b * h)))) (br (decide (IntKind.i64.wrap ((↑g.length : Int) - IntKind.i64.wrap (b * h)) ≤ (↑g.length : Int))) (br (decide ((↑g.length : Int) ≤ (↑g.length : Int))) (iy b c d e f a fun s => ala j r (List.drop (IntKind.i64.wrap ((↑g.length : Int) - IntKind.i64.wrap (b * h))).toNat (List.take (↑g.length : Int).toNat g)) s 0 b c d e f a b c d e f a i m fun Q t U u v w y z A B C F G H I J M N O => k t) none) none) none) none) none))))
def jc {ρ : Type} := shut (afm (ρ := ρ))
theorem akp {ρ : Type} (b : Int) (c : Int) (d : Int) (e : Int) (f : Int) (a : Bool) (g : List Int) (h : List Int) (i : List Int) (j : List Int) (l : Int) (k : (List Int) → Option ρ) : jc b c d e f a g h i j l k = afm b c d e f a g h i j l k := by unfold jc; rw [bq]

def afe {ρ : Type} (c b d e f : Int) (a : Bool) (i j : Int) (k : Bool → Option ρ) : Option ρ := iy c b d e f a fun g => br (decide (IntKind.i64.wrap (b - g) < 0)) none (br (i.fdiv (2 ^ min (IntKind.i64.wrap (b - g)).toNat 64) == 0) (iy c b d e f a fun h => br (decide (h < 0)) none (k (j.fdiv (2 ^ min h.toNat 64) == 0))) (k false))
def jy {ρ : Type} := shut (afe (ρ := ρ))
theorem aj2 {ρ : Type} (b : Int) (c : Int) (d : Int) (e : Int) (f : Int) (a : Bool) (g : Int) (h : Int) (k : Bool → Option ρ) : jy b c d e f a g h k = afe b c d e f a g h k := by unfold jy; rw [bq]

abbrev b3m (ρ : Type) := Int → Int → (List Int) → Int → Int → Int → Int → Int → Bool → (List Int) → (List Int) → (List Int) → Int → Int → Int → Int → Int → Bool → Int → Int → Option ρ
def ai2 {ρ : Type} (t s : Int) (o : List Int) (a b c d e : Int) (f : Bool) (p q g : List Int) (h i j k l : Int) (m : Bool) (n r : Int) (nx z : b3m ρ) : Option ρ := br (decide (s < t)) (ig [0, 0, 0, 0, 0, 0, 0, 0, 0, 0, 0, 0, 0, 0, 0, 0, 0, 0, 0, 0, 0, 0, 0, 0, 0, 0, 0, 0, 0, 0, 0, 0] 0 (IntKind.u64.wrap s) fun A => ig A 1 n fun v => yh a b c d e f p q g v r fun u => br (decide ((o.length + u.length) * 1 ≤ 140737488355328)) (jc a b c d e f u p g v r fun B => iy h i j k l m fun w => br (decide (w < 0)) none (iy h i j k l m fun y => br (decide (y < 0)) none (nx t (IntKind.i64.wrap (s + 1)) (o ++ u) a b c d e f B q g h i j k l m (n.fdiv (2 ^ min y.toNat 64)) (bits BinOp.and IntKind.u64 n (IntKind.u64.wrap (IntKind.u64.wrap (1 * 2 ^ min w.toNat 64) - 1)))))) none) (z t s o a b c d e f p q g h i j k l m n r)
abbrev bzj := Int × Int × (List Int) × Int × Int × Int × Int × Int × Bool × (List Int) × (List Int) × (List Int) × Int × Int × Int × Int × Int × Bool × Int × Int
abbrev b7k := bzj
def b82 {ρ : Type} (f : bzj → Option ρ) : b3m ρ := fun t u a b c d e g h i j k l m n o p q r s => f (t, u, a, b, c, d, e, g, h, i, j, k, l, m, n, o, p, q, r, s)
def bvn {ρ : Type} : ab3 bzj b7k ρ := fun (s, t, a, b, c, d, e, f, g, h, i, j, k, l, m, n, o, p, q, r) next ex => ai2 s t a b c d e f g h i j k l m n o p q r (b82 next) (b82 ex)
def b7c {ρ : Type} := shut (lp (bvn (ρ := ρ)))
theorem cc2 {ρ : Type} : b7c (ρ := ρ) = lp bvn := bq _
def b25 {ρ : Type} (f : ab8 bzj b7k ρ) (t u : Int) (a : List Int) (b c d e g : Int) (h : Bool) (i j k : List Int) (l m n o p : Int) (q : Bool) (r s : Int) (v : b3m ρ) : Option ρ := f (t, u, a, b, c, d, e, g, h, i, j, k, l, m, n, o, p, q, r, s) (fun (t, u, a, b, c, d, e, g, h, i, j, k, l, m, n, o, p, q, r, s) => v t u a b c d e g h i j k l m n o p q r s)
def anc {ρ : Type} := b25 (lp (bvn (ρ := ρ)))
def aov {ρ : Type} := b25 (b7c (ρ := ρ))
theorem asn {ρ : Type} : aov (ρ := ρ) = anc := congrArg b25 cc2
def aax {ρ : Type} (c d b e f : Int) (a : Bool) (g h i : List Int) (j l : Int) (k : (List Int) → Option ρ) : Option ρ := ku c d b e f a [g, h, i] fun m => br (!m) (k []) (jy c d b e f a j l fun n => br (!n) (k []) (aov b 0 [] c d b e f a g h i c d b e f a j l fun C F o G H I J M p q r s t u v w y z A B => k o))
def aat {ρ : Type} := shut (aax (ρ := ρ))
theorem ads {ρ : Type} (b : Int) (c : Int) (d : Int) (e : Int) (f : Int) (a : Bool) (g : List Int) (h : List Int) (i : List Int) (j : Int) (l : Int) (k : (List Int) → Option ρ) : aat b c d e f a g h i j l k = aax b c d e f a g h i j l k := by unfold aat; rw [bq]

abbrev b7t (ρ : Type) := Int → (List Int) → Int → (List Int) → (List Int) → Option ρ
def auk {ρ : Type} (b : Int) (c : List Int) (a : Int) (d e : List Int) (nx f : b7t ρ) : Option ρ := br (decide (a < (↑c.length : Int))) (br (decide (0 ≤ a)) (br (decide (a < (↑c.length : Int))) (br (decide (0 ≤ IntKind.i64.wrap (b + a))) (br (decide (IntKind.i64.wrap (b + a) < (↑32 : Int))) (nx b c (IntKind.i64.wrap (a + 1)) (d.set (IntKind.i64.wrap (b + a)).toNat (c.getD a.toNat 0)) e) none) none) none) none) (f b c a d e)
abbrev byp := Int × (List Int) × Int × (List Int) × (List Int)
abbrev b3w := byp
def cbe {ρ : Type} (f : byp → Option ρ) : b7t ρ := fun c d e a b => f (c, d, e, a, b)
def bys {ρ : Type} : ab3 byp b3w ρ := fun (c, d, e, a, b) next ex => auk c d e a b (cbe next) (cbe ex)
def b5f {ρ : Type} := shut (lp (bys (ρ := ρ)))
theorem cdg {ρ : Type} : b5f (ρ := ρ) = lp bys := bq _
def b1d {ρ : Type} (f : ab8 byp b3w ρ) (c : Int) (d : List Int) (e : Int) (a b : List Int) (g : b7t ρ) : Option ρ := f (c, d, e, a, b) (fun (c, d, e, a, b) => g c d e a b)
def bct {ρ : Type} := b1d (lp (bys (ρ := ρ)))
def bau {ρ : Type} := b1d (b5f (ρ := ρ))
theorem bd5 {ρ : Type} : bau (ρ := ρ) = bct := congrArg b1d cdg
def aqx {ρ : Type} (a : List Int) (b : Int) (c : List Int) (k : (List Int) → Option ρ) : Option ρ := bau b c 0 a [0, 0, 0, 0, 0, 0, 0, 0, 0, 0, 0, 0, 0, 0, 0, 0, 0, 0, 0, 0, 0, 0, 0, 0, 0, 0, 0, 0, 0, 0, 0, 0] fun e f g d h => k d
def aap {ρ : Type} := shut (aqx (ρ := ρ))
theorem bb9 {ρ : Type} (a : List Int) (b : Int) (c : List Int) (k : (List Int) → Option ρ) : aap a b c k = aqx a b c k := by unfold aap; rw [bq]

abbrev b3j (ρ : Type) := Int → Int → (List Int) → Option ρ
def aw8 {ρ : Type} (b a : Int) (c : List Int) (nx d : b3j ρ) : Option ρ := br (decide (a ≥ 0)) (br (decide (0 ≤ a)) (br (decide (a < (↑c.length : Int))) (nx (b.fdiv (2 ^ 8)) (IntKind.i64.wrap (a - 1)) (c.set a.toNat (IntKind.u8.wrap (bits BinOp.and IntKind.u64 b 255)))) none) none) (d b a c)
abbrev bw2 := Int × Int × (List Int)
abbrev b44 := bw2
def b73 {ρ : Type} (f : bw2 → Option ρ) : b3j ρ := fun a b c => f (a, b, c)
def bz8 {ρ : Type} : ab3 bw2 b44 ρ := fun (a, b, c) next ex => aw8 a b c (b73 next) (b73 ex)
def b31 {ρ : Type} := shut (lp (bz8 (ρ := ρ)))
theorem cc5 {ρ : Type} : b31 (ρ := ρ) = lp bz8 := bq _
def b1k {ρ : Type} (f : ab8 bw2 b44 ρ) (a b : Int) (c : List Int) (d : b3j ρ) : Option ρ := f (a, b, c) (fun (a, b, c) => d a b c)
def bgq {ρ : Type} := b1k (lp (bz8 (ρ := ρ)))
def bgt {ρ : Type} := b1k (b31 (ρ := ρ))
theorem bfx {ρ : Type} : bgt (ρ := ρ) = bgq := congrArg b1k cc5
def auv {ρ : Type} (b a : Int) (k : (List Int) → Option ρ) : Option ρ := br (decide (a < 0)) (k []) (br (decide (a > 65536)) (k []) (br (decide (0 ≤ a)) (br (decide (a ≤ a)) (br (decide (a * (↑1 : Int) ≤ (↑140737488355328 : Int))) (bgt b (IntKind.i64.wrap (a - 1)) (List.replicate a.toNat (0 : Int)) fun d e c => k c) none) none) none))
def w9 {ρ : Type} := shut (auv (ρ := ρ))
theorem bfi {ρ : Type} (a : Int) (b : Int) (k : (List Int) → Option ρ) : w9 a b k = auv a b k := by unfold w9; rw [bq]

def ari {ρ : Type} (b : List Int) (a c : Int) (k : (List Int) → Option ρ) : Option ρ := br (a == 0) (w9 c 4 fun g => aap b 0 g fun h => k h) (br (a == 1) (w9 c 12 fun i => aap b 4 i fun j => k j) (br (a == 2) (w9 c 4 fun l => aap b 16 l fun m => aap m 20 (List.replicate 12 (0 : Int)) fun n => k n) (br (a == 3) (br (a == 3) (w9 c 4 fun o => aap b (IntKind.i64.wrap (8 + IntKind.i64.wrap (4 * a))) o fun p => k p) (k b)) (br (a == 4) (br (a == 4) (w9 c 4 fun q => aap b (IntKind.i64.wrap (8 + IntKind.i64.wrap (4 * a))) q fun d => k d) (k b)) (br (a == 5) (w9 c 4 fun e => aap b (IntKind.i64.wrap (8 + IntKind.i64.wrap (4 * a))) e fun f => k f) (k b))))))
def ji {ρ : Type} := shut (ari (ρ := ρ))
theorem bbq {ρ : Type} (a : List Int) (b : Int) (c : Int) (k : (List Int) → Option ρ) : ji a b c k = ari a b c k := by unfold ji; rw [bq]

def al8 {ρ : Type} (a c d e f : Int) (b : Bool) (g h : List Int) (k : Bool → Option ρ) : Option ρ := p8 a c d e f b fun i => br (!i) (k true) (br ((↑g.length : Int) != a) (k true) (k ((↑h.length : Int) != a)))
def u7 {ρ : Type} := shut (al8 (ρ := ρ))
theorem avk {ρ : Type} (b : Int) (c : Int) (d : Int) (e : Int) (f : Int) (a : Bool) (g : List Int) (h : List Int) (k : Bool → Option ρ) : u7 b c d e f a g h k = al8 b c d e f a g h k := by unfold u7; rw [bq]

abbrev b4e (ρ : Type) := (List (List Int)) → Int → (List Int) → Option ρ
def aqo {ρ : Type} (b : List (List Int)) (a : Int) (c : List Int) (nx d : b4e ρ) : Option ρ := br (decide (a < (↑b.length : Int))) (br (decide (0 ≤ a)) (br (decide (a < (↑b.length : Int))) (br (decide ((c.length + (b.getD a.toNat []).length) * 1 ≤ 140737488355328)) (nx b (IntKind.i64.wrap (a + 1)) (c ++ b.getD a.toNat [])) none) none) none) (d b a c)
abbrev bw9 := (List (List Int)) × Int × (List Int)
abbrev cad := bw9
def cag {ρ : Type} (f : bw9 → Option ρ) : b4e ρ := fun a b c => f (a, b, c)
def bwn {ρ : Type} : ab3 bw9 cad ρ := fun (a, b, c) next ex => aqo a b c (cag next) (cag ex)
def b8f {ρ : Type} := shut (lp (bwn (ρ := ρ)))
theorem cdo {ρ : Type} : b8f (ρ := ρ) = lp bwn := bq _
def b21 {ρ : Type} (f : ab8 bw9 cad ρ) (a : List (List Int)) (b : Int) (c : List Int) (d : b4e ρ) : Option ρ := f (a, b, c) (fun (a, b, c) => d a b c)
def ayh {ρ : Type} := b21 (lp (bwn (ρ := ρ)))
def az1 {ρ : Type} := b21 (b8f (ρ := ρ))
theorem bag {ρ : Type} : az1 (ρ := ρ) = ayh := congrArg b21 cdo
def aop {ρ : Type} (a : List (List Int)) (k : (List Int) → Option ρ) : Option ρ := az1 a 0 [] fun c d b => k b
def ko {ρ : Type} := shut (aop (ρ := ρ))
theorem azj {ρ : Type} (a : List (List Int)) (k : (List Int) → Option ρ) : ko a k = aop a k := by unfold ko; rw [bq]

def aos {ρ : Type} (a : Int) (k : Int → Option ρ) : Option ρ := br (a == 4) (br (a == 4) (k 136) (br (a == 5) (k 72) (br (a == 6) (k 168) (k 0)))) (br (a == 7) (k 136) (br (a == 5) (k 72) (br (a == 6) (k 168) (k 0))))
def abk {ρ : Type} := shut (aos (ρ := ρ))
theorem axm {ρ : Type} (a : Int) (k : Int → Option ρ) : abk a k = aos a k := by unfold abk; rw [bq]

def aqm {ρ : Type} (a : Int) (k : Int → (List Int) → Int → Bool → Int → Option ρ) : Option ρ := abk a fun b => br (b == 0) (k 0 [0, 0, 0, 0, 0, 0, 0, 0, 0, 0, 0, 0, 0, 0, 0, 0, 0, 0, 0, 0, 0, 0, 0, 0, 0] 0 false 9) (k a [0, 0, 0, 0, 0, 0, 0, 0, 0, 0, 0, 0, 0, 0, 0, 0, 0, 0, 0, 0, 0, 0, 0, 0, 0] 0 false 0)
def anw {ρ : Type} := shut (aqm (ρ := ρ))
theorem bax {ρ : Type} (a : Int) (k : Int → (List Int) → Int → Bool → Int → Option ρ) : anw a k = aqm a k := by unfold anw; rw [bq]

abbrev b4n (ρ : Type) := Int → Int → (List Int) → (List Int) → Option ρ
def aea {ρ : Type} (d a : Int) (c b : List Int) (nx e : b4n ρ) : Option ρ := br (decide (a < (168 : Int))) (br (bits BinOp.and IntKind.u64 d (1 : Int) == (1 : Int)) (br (decide ((0 : Int) ≤ IntKind.i64.wrap (a.tdiv (7 : Int)))) (br (decide (IntKind.i64.wrap (a.tdiv (7 : Int)) < (↑24 : Int))) (br (decide (a.tmod (7 : Int) < (0 : Int))) none (br (decide (IntKind.u64.wrap (IntKind.u64.wrap ((1 : Int) * (2 : Int) ^ min (a.tmod (7 : Int)).toNat 64) - (1 : Int)) < (0 : Int))) none (br (decide ((0 : Int) ≤ IntKind.i64.wrap (a.tdiv (7 : Int)))) (br (decide (IntKind.i64.wrap (a.tdiv (7 : Int)) < (↑24 : Int))) (br (decide (IntKind.u64.wrap (d * (2 : Int)) ≥ (256 : Int))) (nx (bits BinOp.xor IntKind.u64 (bits BinOp.and IntKind.u64 (IntKind.u64.wrap (d * (2 : Int))) (255 : Int)) (113 : Int)) (IntKind.i64.wrap (a + (1 : Int))) c (b.set (IntKind.i64.wrap (a.tdiv (7 : Int))).toNat (bits BinOp.or IntKind.u64 (b.getD (IntKind.i64.wrap (a.tdiv (7 : Int))).toNat (0 : Int)) (IntKind.u64.wrap ((1 : Int) * (2 : Int) ^ min (IntKind.u64.wrap (IntKind.u64.wrap ((1 : Int) * (2 : Int) ^ min (a.tmod (7 : Int)).toNat 64) - (1 : Int))).toNat 64))))) (nx (IntKind.u64.wrap (d * (2 : Int))) (IntKind.i64.wrap (a + (1 : Int))) c (b.set (IntKind.i64.wrap (a.tdiv (7 : Int))).toNat (bits BinOp.or IntKind.u64 (b.getD (IntKind.i64.wrap (a.tdiv (7 : Int))).toNat (0 : Int)) (IntKind.u64.wrap ((1 : Int) * (2 : Int) ^ min (IntKind.u64.wrap (IntKind.u64.wrap ((1 : Int) * (2 : Int) ^ min (a.tmod (7 : Int)).toNat 64) - (1 : Int))).toNat 64)))))) none) none))) none) none) (br (decide (IntKind.u64.wrap (d * (2 : Int)) ≥ (256 : Int))) (nx (bits BinOp.xor IntKind.u64 (bits BinOp.and IntKind.u64 (IntKind.u64.wrap (d * (2 : Int))) (255 : Int)) (113 : Int)) (IntKind.i64.wrap (a + (1 : Int))) c b) (nx (IntKind.u64.wrap (d * (2 : Int))) (IntKind.i64.wrap (a + (1 : Int))) c b))) (e d a c b)
abbrev by7 := Int × Int × (List Int) × (List Int)
abbrev b4w := by7
def bwj {ρ : Type} (f : by7 → Option ρ) : b4n ρ := fun c d a b => f (c, d, a, b)
def buv {ρ : Type} : ab3 by7 b4w ρ := fun (c, d, a, b) next ex => aea c d a b (bwj next) (bwj ex)
def b8g {ρ : Type} := shut (lp (buv (ρ := ρ)))
theorem cdi {ρ : Type} : b8g (ρ := ρ) = lp buv := bq _
def bu4 {ρ : Type} (f : ab8 by7 b4w ρ) (c d : Int) (a b : List Int) (e : b4n ρ) : Option ρ := f (c, d, a, b) (fun (c, d, a, b) => e c d a b)
def aeb {ρ : Type} := bu4 (lp (buv (ρ := ρ)))
def aml {ρ : Type} := bu4 (b8g (ρ := ρ))
theorem aef {ρ : Type} : aml (ρ := ρ) = aeb := congrArg bu4 cdi
def af8 {ρ : Type} (k : (List Int) → Option ρ) : Option ρ := aml 1 0 [0, 0, 0, 0, 0, 0, 0, 0, 0, 0, 0, 0, 0, 0, 0, 0, 0, 0, 0, 0, 0, 0, 0, 0] [0, 0, 0, 0, 0, 0, 0, 0, 0, 0, 0, 0, 0, 0, 0, 0, 0, 0, 0, 0, 0, 0, 0, 0] fun b c d a => k a
def y9 {ρ : Type} := shut (af8 (ρ := ρ))
theorem amy {ρ : Type}  (k : (List Int) → Option ρ) : y9  k = af8  k := by unfold y9; rw [bq]

def abj {ρ : Type} (b a : Int) (k : Int → Option ρ) : Option ρ := br (decide (a.tmod (64 : Int) < (0 : Int))) none (br (decide (IntKind.i64.wrap ((64 : Int) - a.tmod (64 : Int)) < (0 : Int))) none (k (bits BinOp.or IntKind.u64 (IntKind.u64.wrap (b * (2 : Int) ^ min (a.tmod (64 : Int)).toNat 64)) (b.fdiv ((2 : Int) ^ min (IntKind.i64.wrap ((64 : Int) - a.tmod (64 : Int))).toNat 64)))))
def ae4 {ρ : Type} := shut (abj (ρ := ρ))
theorem ael {ρ : Type} (a : Int) (b : Int) (k : Int → Option ρ) : ae4 a b k = abj a b k := by unfold ae4; rw [bq]

abbrev ca7 (ρ : Type) := Int → Int → Int → (List Int) → (List Int) → (List Int) → Option ρ
def aly {ρ : Type} (b a d : Int) (c e f : List Int) (nx g : ca7 ρ) : Option ρ := br (decide (d < 24)) (br (decide (0 ≤ IntKind.i64.wrap (b + IntKind.i64.wrap (5 * a)))) (br (decide (IntKind.i64.wrap (b + IntKind.i64.wrap (5 * a)) < (↑25 : Int))) (ae4 (c.getD (IntKind.i64.wrap (b + IntKind.i64.wrap (5 * a))).toNat 0) (IntKind.i64.wrap ((IntKind.i64.wrap (IntKind.i64.wrap (d + 1) * IntKind.i64.wrap (d + 2))).tdiv 2)) fun h => br (decide (0 ≤ IntKind.i64.wrap (a + IntKind.i64.wrap (5 * (IntKind.i64.wrap (IntKind.i64.wrap (2 * b) + IntKind.i64.wrap (3 * a))).tmod 5)))) (br (decide (IntKind.i64.wrap (a + IntKind.i64.wrap (5 * (IntKind.i64.wrap (IntKind.i64.wrap (2 * b) + IntKind.i64.wrap (3 * a))).tmod 5)) < (↑25 : Int))) (nx a ((IntKind.i64.wrap (IntKind.i64.wrap (2 * b) + IntKind.i64.wrap (3 * a))).tmod 5) (IntKind.i64.wrap (d + 1)) c e (f.set (IntKind.i64.wrap (a + IntKind.i64.wrap (5 * (IntKind.i64.wrap (IntKind.i64.wrap (2 * b) + IntKind.i64.wrap (3 * a))).tmod 5))).toNat h)) none) none) none) none) (g b a d c e f)
abbrev bv4 := Int × Int × Int × (List Int) × (List Int) × (List Int)
abbrev b30 := bv4
def b0f {ρ : Type} (f : bv4 → Option ρ) : ca7 ρ := fun d e g a b c => f (d, e, g, a, b, c)
def bus {ρ : Type} : ab3 bv4 b30 ρ := fun (d, e, f, a, b, c) next ex => aly d e f a b c (b0f next) (b0f ex)
def b7z {ρ : Type} := shut (lp (bus (ρ := ρ)))
theorem cdd {ρ : Type} : b7z (ρ := ρ) = lp bus := bq _
def bu7 {ρ : Type} (f : ab8 bv4 b30 ρ) (d e g : Int) (a b c : List Int) (h : ca7 ρ) : Option ρ := f (d, e, g, a, b, c) (fun (d, e, g, a, b, c) => h d e g a b c)
def ami {ρ : Type} := bu7 (lp (bus (ρ := ρ)))
def axe {ρ : Type} := bu7 (b7z (ρ := ρ))
theorem ajz {ρ : Type} : axe (ρ := ρ) = ami := congrArg bu7 cdd
def aok {ρ : Type} (a : List Int) (k : (List Int) → Option ρ) : Option ρ := axe 1 0 0 a [0, 0, 0, 0, 0, 0, 0, 0, 0, 0, 0, 0, 0, 0, 0, 0, 0, 0, 0, 0, 0, 0, 0, 0, 0] ([(0 : Int), (0 : Int), (0 : Int), (0 : Int), (0 : Int), (0 : Int), (0 : Int), (0 : Int), (0 : Int), (0 : Int), (0 : Int), (0 : Int), (0 : Int), (0 : Int), (0 : Int), (0 : Int), (0 : Int), (0 : Int), (0 : Int), (0 : Int), (0 : Int), (0 : Int), (0 : Int), (0 : Int), (0 : Int)].set 0 (a.getD 0 0)) fun c d e f g b => k b
def ahu {ρ : Type} := shut (aok (ρ := ρ))
theorem ayy {ρ : Type} (a : List Int) (k : (List Int) → Option ρ) : ahu a k = aok a k := by unfold ahu; rw [bq]

abbrev byk (ρ : Type) := Int → (List Int) → (List Int) → (List Int) → Option ρ
def aht {ρ : Type} (a : Int) (b d c : List Int) (nx e : byk ρ) : Option ρ := br (decide (a < 25)) (br (decide (0 ≤ a.tmod 5)) (br (decide (a.tmod 5 < (↑5 : Int))) (br (decide (0 ≤ a)) (br (decide (a < (↑25 : Int))) (br (decide (0 ≤ a.tmod 5)) (br (decide (a.tmod 5 < (↑5 : Int))) (nx (IntKind.i64.wrap (a + 1)) b d (c.set (a.tmod 5).toNat (bits BinOp.xor IntKind.u64 (c.getD (a.tmod 5).toNat 0) (b.getD a.toNat 0)))) none) none) none) none) none) none) (e a b d c)
abbrev by8 := Int × (List Int) × (List Int) × (List Int)
abbrev b36 := by8
def byh {ρ : Type} (f : by8 → Option ρ) : byk ρ := fun d a b c => f (d, a, b, c)
def bva {ρ : Type} : ab3 by8 b36 ρ := fun (d, a, b, c) next ex => aht d a b c (byh next) (byh ex)
def b6k {ρ : Type} := shut (lp (bva (ρ := ρ)))
theorem cb6 {ρ : Type} : b6k (ρ := ρ) = lp bva := bq _
def bu9 {ρ : Type} (f : ab8 by8 b36 ρ) (d : Int) (a b c : List Int) (e : byk ρ) : Option ρ := f (d, a, b, c) (fun (d, a, b, c) => e d a b c)
def ah1 {ρ : Type} := bu9 (lp (bva (ρ := ρ)))
def as8 {ρ : Type} := bu9 (b6k (ρ := ρ))
theorem ahd {ρ : Type} : as8 (ρ := ρ) = ah1 := congrArg bu9 cb6
abbrev zc47 (ρ : Type) := Int → (List Int) → (List Int) → (List Int) → Option ρ
def ahv {ρ : Type} (a : Int) (b d c : List Int) (nx e : byk ρ) : Option ρ := br (decide (a < 25)) (br (decide (0 ≤ a)) (br (decide (a < (↑25 : Int))) (br (decide (0 ≤ (IntKind.i64.wrap (a + 4)).tmod 5)) (br (decide ((IntKind.i64.wrap (a + 4)).tmod 5 < (↑5 : Int))) (br (decide (0 ≤ (IntKind.i64.wrap (a + 1)).tmod 5)) (br (decide ((IntKind.i64.wrap (a + 1)).tmod 5 < (↑5 : Int))) (ae4 (b.getD ((IntKind.i64.wrap (a + 1)).tmod 5).toNat 0) 1 fun f => br (decide (0 ≤ a)) (br (decide (a < (↑25 : Int))) (nx (IntKind.i64.wrap (a + 1)) b d (c.set a.toNat (bits BinOp.xor IntKind.u64 (bits BinOp.xor IntKind.u64 (c.getD a.toNat 0) (b.getD ((IntKind.i64.wrap (a + 4)).tmod 5).toNat 0)) f))) none) none) none) none) none) none) none) none) (e a b d c)
abbrev bz1 := Int × (List Int) × (List Int) × (List Int)
abbrev b5g := bz1
def bwu {ρ : Type} (f : bz1 → Option ρ) : zc47 ρ := fun d a b c => f (d, a, b, c)
def bu1 {ρ : Type} : ab3 bz1 b5g ρ := fun (d, a, b, c) next ex => ahv d a b c (bwu next) (bwu ex)
def b5u {ρ : Type} := shut (lp (bu1 (ρ := ρ)))
theorem ccv {ρ : Type} : b5u (ρ := ρ) = lp bu1 := bq _
def bu6 {ρ : Type} (f : ab8 bz1 b5g ρ) (d : Int) (a b c : List Int) (e : byk ρ) : Option ρ := f (d, a, b, c) (fun (d, a, b, c) => e d a b c)
def ah4 {ρ : Type} := bu6 (lp (bu1 (ρ := ρ)))
def arx {ρ : Type} := bu6 (b5u (ρ := ρ))
theorem ag7 {ρ : Type} : arx (ρ := ρ) = ah4 := congrArg bu6 ccv
def ajw {ρ : Type} (a : List Int) (k : (List Int) → Option ρ) : Option ρ := as8 0 a [0, 0, 0, 0, 0, 0, 0, 0, 0, 0, 0, 0, 0, 0, 0, 0, 0, 0, 0, 0, 0, 0, 0, 0, 0] [0, 0, 0, 0, 0] fun f b c d => arx 0 d c b fun g h i e => k e
def ado {ρ : Type} := shut (ajw (ρ := ρ))
theorem ar4 {ρ : Type} (a : List Int) (k : (List Int) → Option ρ) : ado a k = ajw a k := by unfold ado; rw [bq]

abbrev b88 (ρ : Type) := Int → Int → (List Int) → (List Int) → (List Int) → (List Int) → Option ρ
def ap5 {ρ : Type} (f a : Int) (c d e b : List Int) (nx g : b88 ρ) : Option ρ := br (decide (a < 25)) (br (decide (0 ≤ a)) (br (decide (a < (↑25 : Int))) (br (decide (0 ≤ IntKind.i64.wrap (IntKind.i64.wrap (IntKind.i64.wrap (a.tdiv 5) * 5) + (IntKind.i64.wrap (a + 1)).tmod 5))) (br (decide (IntKind.i64.wrap (IntKind.i64.wrap (IntKind.i64.wrap (a.tdiv 5) * 5) + (IntKind.i64.wrap (a + 1)).tmod 5) < (↑25 : Int))) (br (decide (0 ≤ IntKind.i64.wrap (IntKind.i64.wrap (IntKind.i64.wrap (a.tdiv 5) * 5) + (IntKind.i64.wrap (a + 2)).tmod 5))) (br (decide (IntKind.i64.wrap (IntKind.i64.wrap (IntKind.i64.wrap (a.tdiv 5) * 5) + (IntKind.i64.wrap (a + 2)).tmod 5) < (↑25 : Int))) (br (decide (0 ≤ a)) (br (decide (a < (↑25 : Int))) (nx f (IntKind.i64.wrap (a + 1)) c d (e.set a.toNat (bits BinOp.xor IntKind.u64 (b.getD a.toNat 0) (bits BinOp.and IntKind.u64 (bits BinOp.xor IntKind.u64 (b.getD (IntKind.i64.wrap (IntKind.i64.wrap (IntKind.i64.wrap (a.tdiv 5) * 5) + (IntKind.i64.wrap (a + 1)).tmod 5)).toNat 0) 18446744073709551615) (b.getD (IntKind.i64.wrap (IntKind.i64.wrap (IntKind.i64.wrap (a.tdiv 5) * 5) + (IntKind.i64.wrap (a + 2)).tmod 5)).toNat 0)))) b) none) none) none) none) none) none) none) none) (g f a c d e b)
abbrev bw5 := Int × Int × (List Int) × (List Int) × (List Int) × (List Int)
abbrev b5q := bw5
def b5y {ρ : Type} (f : bw5 → Option ρ) : b88 ρ := fun e g a b c d => f (e, g, a, b, c, d)
def bzm {ρ : Type} : ab3 bw5 b5q ρ := fun (e, f, a, b, c, d) next ex => ap5 e f a b c d (b5y next) (b5y ex)
def b5v {ρ : Type} := shut (lp (bzm (ρ := ρ)))
theorem ccr {ρ : Type} : b5v (ρ := ρ) = lp bzm := bq _
def b2p {ρ : Type} (f : ab8 bw5 b5q ρ) (e g : Int) (a b c d : List Int) (h : b88 ρ) : Option ρ := f (e, g, a, b, c, d) (fun (e, g, a, b, c, d) => h e g a b c d)
def ap9 {ρ : Type} := b2p (lp (bzm (ρ := ρ)))
def aj9 {ρ : Type} := b2p (b5v (ρ := ρ))
theorem aud {ρ : Type} : aj9 (ρ := ρ) = ap9 := congrArg b2p ccr
abbrev cbn (ρ : Type) := Int → (List Int) → (List Int) → (List Int) → Option ρ
def ajy {ρ : Type} (e : Int) (a b c : List Int) (nx h : cbn ρ) : Option ρ := br (decide (e < 24)) (ado a fun i => ahu i fun j => aj9 e 0 c b a j fun d l f k g m => br (decide (0 ≤ d)) (br (decide (d < (↑24 : Int))) (nx (IntKind.i64.wrap (d + 1)) (g.set 0 (bits BinOp.xor IntKind.u64 (g.getD 0 0) (f.getD d.toNat 0))) k f) none) none) (h e a b c)
abbrev bzs := Int × (List Int) × (List Int) × (List Int)
abbrev b6f := bzs
def b7r {ρ : Type} (f : bzs → Option ρ) : cbn ρ := fun d a b c => f (d, a, b, c)
def byc {ρ : Type} : ab3 bzs b6f ρ := fun (d, a, b, c) next ex => ajy d a b c (b7r next) (b7r ex)
def b4l {ρ : Type} := shut (lp (byc (ρ := ρ)))
theorem cb7 {ρ : Type} : b4l (ρ := ρ) = lp byc := bq _
def b1z {ρ : Type} (f : ab8 bzs b6f ρ) (d : Int) (a b c : List Int) (e : cbn ρ) : Option ρ := f (d, a, b, c) (fun (d, a, b, c) => e d a b c)
def apx {ρ : Type} := b1z (lp (byc (ρ := ρ)))
def ap0 {ρ : Type} := b1z (b4l (ρ := ρ))
theorem aur {ρ : Type} : ap0 (ρ := ρ) = apx := congrArg b1z cb7
def ait {ρ : Type} (a : List Int) (k : (List Int) → Option ρ) : Option ρ := y9 fun b => ap0 0 a [0, 0, 0, 0, 0, 0, 0, 0, 0, 0, 0, 0, 0, 0, 0, 0, 0, 0, 0, 0, 0, 0, 0, 0, 0] b fun d c e f => k c
def o9 {ρ : Type} := shut (ait (ρ := ρ))
theorem apl {ρ : Type} (a : List Int) (k : (List Int) → Option ρ) : o9 a k = ait a k := by unfold o9; rw [bq]

def aqe {ρ : Type} (b : List Int) (a c : Int) (k : (List Int) → Option ρ) : Option ρ := br (decide (0 ≤ IntKind.i64.wrap (a.tdiv 8))) (br (decide (IntKind.i64.wrap (a.tdiv 8) < (↑25 : Int))) (br (decide (IntKind.i64.wrap (8 * a.tmod 8) < 0)) none (br (decide (0 ≤ IntKind.i64.wrap (a.tdiv 8))) (br (decide (IntKind.i64.wrap (a.tdiv 8) < (↑25 : Int))) (k (b.set (IntKind.i64.wrap (a.tdiv 8)).toNat (bits BinOp.xor IntKind.u64 (b.getD (IntKind.i64.wrap (a.tdiv 8)).toNat 0) (IntKind.u64.wrap (IntKind.u64.wrap c * 2 ^ min (IntKind.i64.wrap (8 * a.tmod 8)).toNat 64))))) none) none)) none) none
def zw {ρ : Type} := shut (aqe (ρ := ρ))
theorem bcl {ρ : Type} (a : List Int) (b : Int) (c : Int) (k : (List Int) → Option ρ) : zw a b c k = aqe a b c k := by unfold zw; rw [bq]

abbrev b4h (ρ : Type) := Int → Int → (List Int) → Int → (List Int) → Int → Bool → Int → (List Int) → Int → Bool → Option ρ
def ai8 {ρ : Type} (j k : Int) (b : List Int) (d : Int) (c : List Int) (a : Int) (e : Bool) (f : Int) (g : List Int) (h : Int) (i : Bool) (nx m : b4h ρ) : Option ρ := br (decide ((↑b.length : Int) < j)) (br (a == k) (o9 c fun l => br (decide ((b.length + 1) * 1 ≤ 140737488355328)) (nx j k (b ++ [IntKind.u8.wrap ((l.getD 0 0).fdiv (2 ^ 0))]) d l (IntKind.i64.wrap (0 + 1)) e f g h i) none) (br (decide (0 ≤ IntKind.i64.wrap (a.tdiv 8))) (br (decide (IntKind.i64.wrap (a.tdiv 8) < (↑25 : Int))) (br (decide (IntKind.i64.wrap (8 * a.tmod 8) < 0)) none (br (decide ((b.length + 1) * 1 ≤ 140737488355328)) (nx j k (b ++ [IntKind.u8.wrap ((c.getD (IntKind.i64.wrap (a.tdiv 8)).toNat 0).fdiv (2 ^ min (IntKind.i64.wrap (8 * a.tmod 8)).toNat 64))]) d c (IntKind.i64.wrap (a + 1)) e f g h i) none)) none) none)) (m j k b d c a e f g h i)
abbrev bw6 := Int × Int × (List Int) × Int × (List Int) × Int × Bool × Int × (List Int) × Int × Bool
abbrev b8i := bw6
def b67 {ρ : Type} (f : bw6 → Option ρ) : b4h ρ := fun k l j a b c d e g h i => f (k, l, j, a, b, c, d, e, g, h, i)
def bwv {ρ : Type} : ab3 bw6 b8i ρ := fun (j, k, i, a, b, c, d, e, f, g, h) next ex => ai8 j k i a b c d e f g h (b67 next) (b67 ex)
def b9n {ρ : Type} := shut (lp (bwv (ρ := ρ)))
theorem cd2 {ρ : Type} : b9n (ρ := ρ) = lp bwv := bq _
def b1u {ρ : Type} (f : ab8 bw6 b8i ρ) (k l : Int) (j : List Int) (a : Int) (b : List Int) (c : Int) (d : Bool) (e : Int) (g : List Int) (h : Int) (i : Bool) (m : b4h ρ) : Option ρ := f (k, l, j, a, b, c, d, e, g, h, i) (fun (k, l, j, a, b, c, d, e, g, h, i) => m k l j a b c d e g h i)
def ano {ρ : Type} := b1u (lp (bwv (ρ := ρ)))
def zx {ρ : Type} := b1u (b9n (ρ := ρ))
theorem atm {ρ : Type} : zx (ρ := ρ) = ano := congrArg b1u cd2
def air {ρ : Type} (a : Int) (b : List Int) (c : Int) (d : Bool) (f : Int) (k : Int → (List Int) → Int → Bool → (List Int) → Option ρ) : Option ρ := br (decide (f < 0)) (k a b c d []) (abk a fun e => br (!d) (br (a == 4) (zw b c 6 fun G => zw G (IntKind.i64.wrap (e - 1)) 128 fun H => o9 H fun I => zx f e [] a I 0 true 0 [0, 0, 0, 0, 0, 0, 0, 0, 0, 0, 0, 0, 0, 0, 0, 0, 0, 0, 0, 0, 0, 0, 0, 0, 0] 0 false fun q4 q5 J M N O g Q U W Z => k M N O g J) (br (a == 5) (zw b c 6 fun h => zw h (IntKind.i64.wrap (e - 1)) 128 fun i => o9 i fun j => zx f e [] a j 0 true 0 [0, 0, 0, 0, 0, 0, 0, 0, 0, 0, 0, 0, 0, 0, 0, 0, 0, 0, 0, 0, 0, 0, 0, 0, 0] 0 false fun aa ab l m n o p ac ad ae af => k m n o p l) (zw b c 31 fun q => zw q (IntKind.i64.wrap (e - 1)) 128 fun r => o9 r fun s => zx f e [] a s 0 true 0 [0, 0, 0, 0, 0, 0, 0, 0, 0, 0, 0, 0, 0, 0, 0, 0, 0, 0, 0, 0, 0, 0, 0, 0, 0] 0 false fun ag ah t u v w y ai aj ak al => k u v w y t))) (zx f e [] a b c d 0 [0, 0, 0, 0, 0, 0, 0, 0, 0, 0, 0, 0, 0, 0, 0, 0, 0, 0, 0, 0, 0, 0, 0, 0, 0] 0 false fun am an z A B C F ao ap aq ar => k A B C F z))
def aaj {ρ : Type} := shut (air (ρ := ρ))
theorem apv {ρ : Type} (b : Int) (a : List Int) (d : Int) (c : Bool) (e : Int) (k : Int → (List Int) → Int → Bool → (List Int) → Option ρ) : aaj b a d c e k = air b a d c e k := by unfold aaj; rw [bq]

abbrev b3q (ρ : Type) := (List Int) → Int → Int → (List Int) → Int → Bool → Int → (List Int) → Int → Bool → Option ρ
def al7 {ρ : Type} (i : List Int) (c a : Int) (j : List Int) (b : Int) (d : Bool) (e : Int) (f : List Int) (g : Int) (h : Bool) (nx l : b3q ρ) : Option ρ := br (decide (c < (↑i.length : Int))) (br (decide (0 ≤ c)) (br (decide (c < (↑i.length : Int))) (zw j b (i.getD c.toNat 0) fun k => abk a fun m => br (IntKind.i64.wrap (b + 1) == m) (o9 k fun n => nx i (IntKind.i64.wrap (c + 1)) a n 0 d e f g h) (nx i (IntKind.i64.wrap (c + 1)) a k (IntKind.i64.wrap (b + 1)) d e f g h)) none) none) (l i c a j b d e f g h)
abbrev bya := (List Int) × Int × Int × (List Int) × Int × Bool × Int × (List Int) × Int × Bool
abbrev b97 := bya
def cbj {ρ : Type} (f : bya → Option ρ) : b3q ρ := fun j k a b c d e g h i => f (j, k, a, b, c, d, e, g, h, i)
def b09 {ρ : Type} : ab3 bya b97 ρ := fun (i, j, a, b, c, d, e, f, g, h) next ex => al7 i j a b c d e f g h (cbj next) (cbj ex)
def b7s {ρ : Type} := shut (lp (b09 (ρ := ρ)))
theorem cdf {ρ : Type} : b7s (ρ := ρ) = lp b09 := bq _
def b2c {ρ : Type} (f : ab8 bya b97 ρ) (j : List Int) (k a : Int) (b : List Int) (c : Int) (d : Bool) (e : Int) (g : List Int) (h : Int) (i : Bool) (l : b3q ρ) : Option ρ := f (j, k, a, b, c, d, e, g, h, i) (fun (j, k, a, b, c, d, e, g, h, i) => l j k a b c d e g h i)
def atl {ρ : Type} := b2c (lp (b09 (ρ := ρ)))
def ar0 {ρ : Type} := b2c (b7s (ρ := ρ))
theorem awk {ρ : Type} : ar0 (ρ := ρ) = atl := congrArg b2c cdf
def aju {ρ : Type} (c : Int) (a : List Int) (d : Int) (b : Bool) (e : List Int) (k : Int → (List Int) → Int → Bool → Option ρ) : Option ρ := br b (k c a d b) (ar0 e 0 c a d b 0 [0, 0, 0, 0, 0, 0, 0, 0, 0, 0, 0, 0, 0, 0, 0, 0, 0, 0, 0, 0, 0, 0, 0, 0, 0] 0 false fun j l f g h i m n o p => k f g h i)
def abe {ρ : Type} := shut (aju (ρ := ρ))
theorem atf {ρ : Type} (b : Int) (a : List Int) (d : Int) (c : Bool) (e : List Int) (k : Int → (List Int) → Int → Bool → Option ρ) : abe b a d c e k = aju b a d c e k := by unfold abe; rw [bq]

def aqg {ρ : Type} (d : Int) (e : List Int) (a : Int) (k : (List Int) → Int → Option ρ) : Option ρ := anw d fun f g h i b => br (b != 0) (k [] b) (br (decide (a < 0)) (k [] 8) (br (decide (a > 16777216)) (k [] 8) (abe f g h i e fun j l m n => aaj j l m n a fun r o p q c => k c 0)))
def ai6 {ρ : Type} := shut (aqg (ρ := ρ))
theorem bcd {ρ : Type} (a : Int) (b : List Int) (c : Int) (k : (List Int) → Int → Option ρ) : ai6 a b c k = aqg a b c k := by unfold ai6; rw [bq]

def arh {ρ : Type} (a : Int) (k : Int → (List Int) → (List Int) → Int → Int → Option ρ) : Option ρ := br (a == 1) (k a [1779033703, 3144134277, 1013904242, 2773480762, 1359893119, 2600822924, 528734635, 1541459225] [] 0 0) (br (a == 2) (k a [14680500436340154072, 7105036623409894663, 10473403895298186519, 1526699215303891257, 7436329637833083697, 10282925794625328401, 15784041429090275239, 5167115440072839076] [] 0 0) (br (a == 3) (k a [7640891576956012808, 13503953896175478587, 4354685564936845355, 11912009170470909681, 5840696475078001361, 11170449401992604703, 2270897969802886507, 6620516959819538809] [] 0 0) (k 0 [0, 0, 0, 0, 0, 0, 0, 0] [] 0 9)))
def aix {ρ : Type} := shut (arh (ρ := ρ))
theorem bbu {ρ : Type} (a : Int) (k : Int → (List Int) → (List Int) → Int → Int → Option ρ) : aix a k = arh a k := by unfold aix; rw [bq]

def ale {ρ : Type} (a : Int) (k : Int → Option ρ) : Option ρ := br (a == 1) (k 64) (k 128)
def zq {ρ : Type} := shut (ale (ρ := ρ))
theorem avv {ρ : Type} (a : Int) (k : Int → Option ρ) : zq a k = ale a k := by unfold zq; rw [bq]

def am1 {ρ : Type} (k : (List Int) → Option ρ) : Option ρ := k [1116352408, 1899447441, 3049323471, 3921009573, 961987163, 1508970993, 2453635748, 2870763221, 3624381080, 310598401, 607225278, 1426881987, 1925078388, 2162078206, 2614888103, 3248222580, 3835390401, 4022224774, 264347078, 604807628, 770255983, 1249150122, 1555081692, 1996064986, 2554220882, 2821834349, 2952996808, 3210313671, 3336571891, 3584528711, 113926993, 338241895, 666307205, 773529912, 1294757372, 1396182291, 1695183700, 1986661051, 2177026350, 2456956037, 2730485921, 2820302411, 3259730800, 3345764771, 3516065817, 3600352804, 4094571909, 275423344, 430227734, 506948616, 659060556, 883997877, 958139571, 1322822218, 1537002063, 1747873779, 1955562222, 2024104815, 2227730452, 2361852424, 2428436474, 2756734187, 3204031479, 3329325298]
def zk {ρ : Type} := shut (am1 (ρ := ρ))
theorem ai1 {ρ : Type}  (k : (List Int) → Option ρ) : zk  k = am1  k := by unfold zk; rw [bq]

def am3 {ρ : Type} (k : (List Int) → Option ρ) : Option ρ := k [4794697086780616226, 8158064640168781261, 13096744586834688815, 16840607885511220156, 4131703408338449720, 6480981068601479193, 10538285296894168987, 12329834152419229976, 15566598209576043074, 1334009975649890238, 2608012711638119052, 6128411473006802146, 8268148722764581231, 9286055187155687089, 11230858885718282805, 13951009754708518548, 16472876342353939154, 17275323862435702243, 1135362057144423861, 2597628984639134821, 3308224258029322869, 5365058923640841347, 6679025012923562964, 8573033837759648693, 10970295158949994411, 12119686244451234320, 12683024718118986047, 13788192230050041572, 14330467153632333762, 15395433587784984357, 489312712824947311, 1452737877330783856, 2861767655752347644, 3322285676063803686, 5560940570517711597, 5996557281743188959, 7280758554555802590, 8532644243296465576, 9350256976987008742, 10552545826968843579, 11727347734174303076, 12113106623233404929, 14000437183269869457, 14369950271660146224, 15101387698204529176, 15463397548674623760, 17586052441742319658, 1182934255886127544, 1847814050463011016, 2177327727835720531, 2830643537854262169, 3796741975233480872, 4115178125766777443, 5681478168544905931, 6601373596472566643, 7507060721942968483, 8399075790359081724, 8693463985226723168, 9568029438360202098, 10144078919501101548, 10430055236837252648, 11840083180663258601, 13761210420658862357, 14299343276471374635, 14566680578165727644, 15097957966210449927, 16922976911328602910, 17689382322260857208, 500013540394364858, 748580250866718886, 1242879168328830382, 1977374033974150939, 2944078676154940804, 3659926193048069267, 4368137639120453308, 4836135668995329356, 5532061633213252278, 6448918945643986474, 6902733635092675308, 7801388544844847127]
def zi {ρ : Type} := shut (am3 (ρ := ρ))
theorem aii {ρ : Type}  (k : (List Int) → Option ρ) : zi  k = am3  k := by unfold zi; rw [bq]

abbrev b9x (ρ : Type) := (List Int) → Int → Int → Option ρ
def aut {ρ : Type} (b : List Int) (c a : Int) (nx d : b9x ρ) : Option ρ := br (decide (a < (↑b.length : Int))) (br (decide (0 ≤ a)) (br (decide (a < (↑b.length : Int))) (nx b (IntKind.u64.wrap (IntKind.u64.wrap (c * 256) + IntKind.u64.wrap (b.getD a.toNat 0))) (IntKind.i64.wrap (a + 1))) none) none) (d b c a)
abbrev b0t := (List Int) × Int × Int
abbrev b61 := b0t
def b6h {ρ : Type} (f : b0t → Option ρ) : b9x ρ := fun a b c => f (a, b, c)
def bze {ρ : Type} : ab3 b0t b61 ρ := fun (a, b, c) next ex => aut a b c (b6h next) (b6h ex)
def b78 {ρ : Type} := shut (lp (bze (ρ := ρ)))
theorem ccd {ρ : Type} : b78 (ρ := ρ) = lp bze := bq _
def b1n {ρ : Type} (f : ab8 b0t b61 ρ) (a : List Int) (b c : Int) (d : b9x ρ) : Option ρ := f (a, b, c) (fun (a, b, c) => d a b c)
def bbx {ρ : Type} := b1n (lp (bze (ρ := ρ)))
def ba7 {ρ : Type} := b1n (b78 (ρ := ρ))
theorem bdg {ρ : Type} : ba7 (ρ := ρ) = bbx := congrArg b1n ccd
def aq9 {ρ : Type} (a : List Int) (k : Int → Option ρ) : Option ρ := ba7 a 0 0 fun c b d => k b
def ad5 {ρ : Type} := shut (aq9 (ρ := ρ))
theorem bbf {ρ : Type} (a : List Int) (k : Int → Option ρ) : ad5 a k = aq9 a k := by unfold ad5; rw [bq]

def afi {ρ : Type} (b a : Int) (c : Bool) (k : Int → Option ρ) : Option ρ := br c (br (decide (a < 0)) none (br (decide (IntKind.i64.wrap (64 - a) < 0)) none (k (bits BinOp.or IntKind.u64 (b.fdiv (2 ^ min a.toNat 64)) (IntKind.u64.wrap (b * 2 ^ min (IntKind.i64.wrap (64 - a)).toNat 64)))))) (br (decide (a < 0)) none (br (decide (IntKind.i64.wrap (32 - a) < 0)) none (k (bits BinOp.or IntKind.u64 (b.fdiv (2 ^ min a.toNat 64)) (bits BinOp.and IntKind.u64 (IntKind.u64.wrap (b * 2 ^ min (IntKind.i64.wrap (32 - a)).toNat 64)) 4294967295)))))
def zy {ρ : Type} := shut (afi (ρ := ρ))
theorem ajr {ρ : Type} (a : Int) (b : Int) (c : Bool) (k : Int → Option ρ) : zy a b c k = afi a b c k := by unfold zy; rw [bq]

def ac2 {ρ : Type} (a d e c : Int) (f b : Bool) (k : Int → Option ρ) : Option ρ := br (decide (c < 0)) none (br (!f) (zy a c b fun g => zy a d b fun h => zy a e b fun i => k (bits BinOp.xor IntKind.u64 (bits BinOp.xor IntKind.u64 h i) g)) (zy a d b fun j => zy a e b fun l => k (bits BinOp.xor IntKind.u64 (bits BinOp.xor IntKind.u64 j l) (a.fdiv (2 ^ min c.toNat 64)))))
def zn {ρ : Type} := shut (ac2 (ρ := ρ))
theorem afw {ρ : Type} (a : Int) (b : Int) (c : Int) (d : Int) (e : Bool) (f : Bool) (k : Int → Option ρ) : zn a b c d e f k = ac2 a b c d e f k := by unfold zn; rw [bq]

abbrev b3v (ρ : Type) := (List Int) → Bool → Int → Int → Int → Int → (List Int) → Option ρ
def ag3 {ρ : Type} (d : List Int) (f : Bool) (g e c a : Int) (b : List Int) (nx h : b3v ρ) : Option ρ := br (decide (a < g)) (br (decide (a < 16)) (br (decide (0 ≤ IntKind.i64.wrap (a * c))) (br (decide (IntKind.i64.wrap (a * c) ≤ IntKind.i64.wrap (IntKind.i64.wrap (a * c) + c))) (br (decide (IntKind.i64.wrap (IntKind.i64.wrap (a * c) + c) ≤ (↑d.length : Int))) (ad5 (List.drop (IntKind.i64.wrap (a * c)).toNat (List.take (IntKind.i64.wrap (IntKind.i64.wrap (a * c) + c)).toNat d)) fun i => br (decide ((b.length + 1) * 8 ≤ 140737488355328)) (nx d f g e c (IntKind.i64.wrap (a + 1)) (b ++ [i])) none) none) none) none) (br (decide (0 ≤ IntKind.i64.wrap (a - 15))) (br (decide (IntKind.i64.wrap (a - 15) < (↑b.length : Int))) (zn (b.getD (IntKind.i64.wrap (a - 15)).toNat 0) 7 18 3 true false fun j => br (decide (0 ≤ IntKind.i64.wrap (a - 2))) (br (decide (IntKind.i64.wrap (a - 2) < (↑b.length : Int))) (zn (b.getD (IntKind.i64.wrap (a - 2)).toNat 0) 17 19 10 true false fun k => br f (br (decide (0 ≤ IntKind.i64.wrap (a - 15))) (br (decide (IntKind.i64.wrap (a - 15) < (↑b.length : Int))) (zn (b.getD (IntKind.i64.wrap (a - 15)).toNat 0) 1 8 7 true true fun l => br (decide (0 ≤ IntKind.i64.wrap (a - 2))) (br (decide (IntKind.i64.wrap (a - 2) < (↑b.length : Int))) (zn (b.getD (IntKind.i64.wrap (a - 2)).toNat 0) 19 61 6 true true fun m => br (decide (0 ≤ IntKind.i64.wrap (a - 7))) (br (decide (IntKind.i64.wrap (a - 7) < (↑b.length : Int))) (br (decide (0 ≤ IntKind.i64.wrap (a - 16))) (br (decide (IntKind.i64.wrap (a - 16) < (↑b.length : Int))) (br (decide ((b.length + 1) * 8 ≤ 140737488355328)) (nx d f g e c (IntKind.i64.wrap (a + 1)) (b ++ [bits BinOp.and IntKind.u64 (IntKind.u64.wrap (IntKind.u64.wrap (IntKind.u64.wrap (m + b.getD (IntKind.i64.wrap (a - 7)).toNat 0) + l) + b.getD (IntKind.i64.wrap (a - 16)).toNat 0)) e])) none) none) none) none) none) none) none) none) none) (br (decide (0 ≤ IntKind.i64.wrap (a - 7))) (br (decide (IntKind.i64.wrap (a - 7) < (↑b.length : Int))) (br (decide (0 ≤ IntKind.i64.wrap (a - 16))) (br (decide (IntKind.i64.wrap (a - 16) < (↑b.length : Int))) (br (decide ((b.length + 1) * 8 ≤ 140737488355328)) (nx d f g e c (IntKind.i64.wrap (a + 1)) (b ++ [bits BinOp.and IntKind.u64 (IntKind.u64.wrap (IntKind.u64.wrap (IntKind.u64.wrap (k + b.getD (IntKind.i64.wrap (a - 7)).toNat 0) + j) + b.getD (IntKind.i64.wrap (a - 16)).toNat 0)) e])) none) none) none) none) none)) none) none) none) none)) (h d f g e c a b)
abbrev bxb := (List Int) × Bool × Int × Int × Int × Int × (List Int)
abbrev b96 := bxb
def b2y {ρ : Type} (f : bxb → Option ρ) : b3v ρ := fun b c d e g a h => f (b, c, d, e, g, a, h)
def bu5 {ρ : Type} : ab3 bxb b96 ρ := fun (b, c, d, e, f, a, g) next ex => ag3 b c d e f a g (b2y next) (b2y ex)
def cbp {ρ : Type} := shut (lp (bu5 (ρ := ρ)))
theorem cb5 {ρ : Type} : cbp (ρ := ρ) = lp bu5 := bq _
def b0b {ρ : Type} (f : ab8 bxb b96 ρ) (b : List Int) (c : Bool) (d e g a : Int) (h : List Int) (i : b3v ρ) : Option ρ := f (b, c, d, e, g, a, h) (fun (b, c, d, e, g, a, h) => i b c d e g a h)
def aom {ρ : Type} := b0b (lp (bu5 (ρ := ρ)))
def aoa {ρ : Type} := b0b (cbp (ρ := ρ))
theorem aoq {ρ : Type} : aoa (ρ := ρ) = aom := congrArg b0b cb5
def ah0 {ρ : Type} (b : List Int) (a : Bool) (c d : Int) (k : (List Int) → Option ρ) : Option ρ := br a (aoa b a c d 8 0 [] fun j l m n o p f => k f) (aoa b a c d 4 0 [] fun q r s g h i e => k e)
def ac8 {ρ : Type} := shut (ah0 (ρ := ρ))
theorem an9 {ρ : Type} (a : List Int) (b : Bool) (c : Int) (d : Int) (k : (List Int) → Option ρ) : ac8 a b c d k = ah0 a b c d k := by unfold ac8; rw [bq]

abbrev b6i (ρ : Type) := Bool → Int → Int → Int → (List Int) → (List Int) → (List Int) → (List Int) → (List Int) → (List Int) → Option ρ
def afb {ρ : Type} (i : Bool) (j c b : Int) (g h d e f a : List Int) (nx m : b6i ρ) : Option ρ := br (decide (b < j)) (zn (a.getD 0 0) 2 13 22 false false fun n => zn (a.getD 4 0) 6 11 25 false false fun k => br i (zn (a.getD 0 0) 28 34 39 false true fun o => zn (a.getD 4 0) 14 18 41 false true fun l => br (decide (0 ≤ b)) (br (decide (b < (↑80 : Int))) (br (decide (0 ≤ b)) (br (decide (b < (↑f.length : Int))) (nx i j c (IntKind.i64.wrap (b + 1)) g h d e f [bits BinOp.and IntKind.u64 (IntKind.u64.wrap (IntKind.u64.wrap (IntKind.u64.wrap (IntKind.u64.wrap (IntKind.u64.wrap (a.getD 7 0 + l) + bits BinOp.xor IntKind.u64 (bits BinOp.and IntKind.u64 (a.getD 4 0) (a.getD 5 0)) (bits BinOp.and IntKind.u64 (bits BinOp.xor IntKind.u64 c (a.getD 4 0)) (a.getD 6 0))) + e.getD b.toNat 0) + f.getD b.toNat 0) + IntKind.u64.wrap (o + bits BinOp.xor IntKind.u64 (bits BinOp.xor IntKind.u64 (bits BinOp.and IntKind.u64 (a.getD 0 0) (a.getD 1 0)) (bits BinOp.and IntKind.u64 (a.getD 0 0) (a.getD 2 0))) (bits BinOp.and IntKind.u64 (a.getD 1 0) (a.getD 2 0))))) c, a.getD 0 0, a.getD 1 0, a.getD 2 0, bits BinOp.and IntKind.u64 (IntKind.u64.wrap (a.getD 3 0 + IntKind.u64.wrap (IntKind.u64.wrap (IntKind.u64.wrap (IntKind.u64.wrap (a.getD 7 0 + l) + bits BinOp.xor IntKind.u64 (bits BinOp.and IntKind.u64 (a.getD 4 0) (a.getD 5 0)) (bits BinOp.and IntKind.u64 (bits BinOp.xor IntKind.u64 c (a.getD 4 0)) (a.getD 6 0))) + e.getD b.toNat 0) + f.getD b.toNat 0))) c, a.getD 4 0, a.getD 5 0, a.getD 6 0]) none) none) none) none) (br (decide (0 ≤ b)) (br (decide (b < (↑64 : Int))) (br (decide (0 ≤ b)) (br (decide (b < (↑f.length : Int))) (nx i j c (IntKind.i64.wrap (b + 1)) g h d e f [bits BinOp.and IntKind.u64 (IntKind.u64.wrap (IntKind.u64.wrap (IntKind.u64.wrap (IntKind.u64.wrap (IntKind.u64.wrap (a.getD 7 0 + k) + bits BinOp.xor IntKind.u64 (bits BinOp.and IntKind.u64 (a.getD 4 0) (a.getD 5 0)) (bits BinOp.and IntKind.u64 (bits BinOp.xor IntKind.u64 c (a.getD 4 0)) (a.getD 6 0))) + d.getD b.toNat 0) + f.getD b.toNat 0) + IntKind.u64.wrap (n + bits BinOp.xor IntKind.u64 (bits BinOp.xor IntKind.u64 (bits BinOp.and IntKind.u64 (a.getD 0 0) (a.getD 1 0)) (bits BinOp.and IntKind.u64 (a.getD 0 0) (a.getD 2 0))) (bits BinOp.and IntKind.u64 (a.getD 1 0) (a.getD 2 0))))) c, a.getD 0 0, a.getD 1 0, a.getD 2 0, bits BinOp.and IntKind.u64 (IntKind.u64.wrap (a.getD 3 0 + IntKind.u64.wrap (IntKind.u64.wrap (IntKind.u64.wrap (IntKind.u64.wrap (a.getD 7 0 + k) + bits BinOp.xor IntKind.u64 (bits BinOp.and IntKind.u64 (a.getD 4 0) (a.getD 5 0)) (bits BinOp.and IntKind.u64 (bits BinOp.xor IntKind.u64 c (a.getD 4 0)) (a.getD 6 0))) + d.getD b.toNat 0) + f.getD b.toNat 0))) c, a.getD 4 0, a.getD 5 0, a.getD 6 0]) none) none) none) none)) (m i j c b g h d e f a)
abbrev bw7 := Bool × Int × Int × Int × (List Int) × (List Int) × (List Int) × (List Int) × (List Int) × (List Int)
abbrev b8x := bw7
def b2m {ρ : Type} (f : bw7 → Option ρ) : b6i ρ := fun h i j g a b c d k e => f (h, i, j, g, a, b, c, d, k, e)
def buz {ρ : Type} : ab3 bw7 b8x ρ := fun (g, h, i, f, a, b, c, d, j, e) next ex => afb g h i f a b c d j e (b2m next) (b2m ex)
def b8u {ρ : Type} := shut (lp (buz (ρ := ρ)))
theorem cdq {ρ : Type} : b8u (ρ := ρ) = lp buz := bq _
def bwt {ρ : Type} (f : ab8 bw7 b8x ρ) (h : Bool) (i j g : Int) (a b c d k e : List Int) (l : b6i ρ) : Option ρ := f (h, i, j, g, a, b, c, d, k, e) (fun (h, i, j, g, a, b, c, d, k, e) => l h i j g a b c d k e)
def ald {ρ : Type} := bwt (lp (buz (ρ := ρ)))
def afc {ρ : Type} := bwt (b8u (ρ := ρ))
theorem amq {ρ : Type} : afc (ρ := ρ) = ald := congrArg bwt cdq
abbrev b7i (ρ : Type) := Int → Int → (List Int) → (List Int) → (List Int) → Option ρ
def ae9 {ρ : Type} (e a : Int) (b d c : List Int) (nx f : b7i ρ) : Option ρ := br (decide (a < 8)) (br (decide (0 ≤ a)) (br (decide (a < (↑8 : Int))) (br (decide (0 ≤ a)) (br (decide (a < (↑8 : Int))) (br (decide (0 ≤ a)) (br (decide (a < (↑8 : Int))) (nx e (IntKind.i64.wrap (a + 1)) b d (c.set a.toNat (bits BinOp.and IntKind.u64 (IntKind.u64.wrap (c.getD a.toNat 0 + b.getD a.toNat 0)) e))) none) none) none) none) none) none) (f e a b d c)
abbrev bxd := Int × Int × (List Int) × (List Int) × (List Int)
abbrev b7v := bxd
def b27 {ρ : Type} (f : bxd → Option ρ) : b7i ρ := fun e d a b c => f (e, d, a, b, c)
def bu8 {ρ : Type} : ab3 bxd b7v ρ := fun (e, d, a, b, c) next ex => ae9 e d a b c (b27 next) (b27 ex)
def b9y {ρ : Type} := shut (lp (bu8 (ρ := ρ)))
theorem cdl {ρ : Type} : b9y (ρ := ρ) = lp bu8 := bq _
def bwl {ρ : Type} (f : ab8 bxd b7v ρ) (e d : Int) (a b c : List Int) (g : b7i ρ) : Option ρ := f (e, d, a, b, c) (fun (e, d, a, b, c) => g e d a b c)
def alc {ρ : Type} := bwl (lp (bu8 (ρ := ρ)))
def ae6 {ρ : Type} := bwl (b9y (ρ := ρ))
theorem amo {ρ : Type} : ae6 (ρ := ρ) = alc := congrArg bwl cdl
def ahx {ρ : Type} (b c : List Int) (a : Bool) (k : (List Int) → Option ρ) : Option ρ := zk fun d => zi fun e => br a (ac8 c a 80 18446744073709551615 fun o => afc a 80 18446744073709551615 0 b [0, 0, 0, 0, 0, 0, 0, 0] d e o b fun N O p Q q r U s t f => ae6 p 0 q r f fun u v w y g => k g) (ac8 c a 64 4294967295 fun h => afc a 64 4294967295 0 b [0, 0, 0, 0, 0, 0, 0, 0] d e h b fun z A i B j l C F G m => ae6 i 0 j l m fun H I J M n => k n)
def ad8 {ρ : Type} := shut (ahx (ρ := ρ))
theorem anp {ρ : Type} (a : List Int) (b : List Int) (c : Bool) (k : (List Int) → Option ρ) : ad8 a b c k = ahx a b c k := by unfold ad8; rw [bq]

abbrev b80 (ρ : Type) := Int → (List Int) → Int → (List Int) → (List Int) → Int → Int → (List Int) → Int → Option ρ
def ak1 {ρ : Type} (a : Int) (b : List Int) (c : Int) (d e : List Int) (f g : Int) (h : List Int) (i : Int) (nx j : b80 ρ) : Option ρ := br (decide ((↑b.length : Int) ≥ a)) (br (decide (0 ≤ a)) (br (decide (a ≤ (↑b.length : Int))) (ad8 d (List.drop 0 (List.take a.toNat b)) (a == 128) fun k => br (decide (0 ≤ a)) (br (decide (a ≤ (↑b.length : Int))) (br (decide ((↑b.length : Int) ≤ (↑b.length : Int))) (nx a (List.drop a.toNat (List.take (↑b.length : Int).toNat b)) c k e f g h i) none) none) none) none) none) (j a b c d e f g h i)
abbrev b0m := Int × (List Int) × Int × (List Int) × (List Int) × Int × Int × (List Int) × Int
abbrev b93 := b0m
def b1i {ρ : Type} (f : b0m → Option ρ) : b80 ρ := fun i j a b c d e g h => f (i, j, a, b, c, d, e, g, h)
def buw {ρ : Type} : ab3 b0m b93 ρ := fun (h, i, a, b, c, d, e, f, g) next ex => ak1 h i a b c d e f g (b1i next) (b1i ex)
def b4i {ρ : Type} := shut (lp (buw (ρ := ρ)))
theorem cb8 {ρ : Type} : b4i (ρ := ρ) = lp buw := bq _
def byo {ρ : Type} (f : ab8 b0m b93 ρ) (i : Int) (j : List Int) (a : Int) (b c : List Int) (d e : Int) (g : List Int) (h : Int) (k : b80 ρ) : Option ρ := f (i, j, a, b, c, d, e, g, h) (fun (i, j, a, b, c, d, e, g, h) => k i j a b c d e g h)
def auo {ρ : Type} := byo (lp (buw (ρ := ρ)))
def ao1 {ρ : Type} := byo (b4i (ρ := ρ))
theorem as9 {ρ : Type} : ao1 (ρ := ρ) = auo := congrArg byo cb8
def ark {ρ : Type} (a : Int) (c b : List Int) (d : Int) (e : List Int) (k : Int → (List Int) → (List Int) → Int → Option ρ) : Option ρ := zq a fun f => ko [b, e] fun g => ao1 f g a c b (IntKind.u64.wrap (d + IntKind.u64.wrap (↑e.length : Int))) 0 [0, 0, 0, 0, 0, 0, 0, 0] 0 fun n h i j o l p q m => k i j h l
def ade {ρ : Type} := shut (ark (ρ := ρ))
theorem ba8 {ρ : Type} (b : Int) (a : List Int) (c : List Int) (d : Int) (e : List Int) (k : Int → (List Int) → (List Int) → Int → Option ρ) : ade b a c d e k = ark b a c d e k := by unfold ade; rw [bq]

abbrev bs9 (ρ : Type) := Int → Int → (List Int) → Int → (List Int) → (List Int) → Int → Option ρ
def auh {ρ : Type} (c g : Int) (b : List Int) (d : Int) (e a : List Int) (f : Int) (nx h : bs9 ρ) : Option ρ := br (decide (c = 0)) none (br ((IntKind.i64.wrap ((↑a.length : Int) + (↑b.length : Int))).tmod c != IntKind.i64.wrap (c - 8)) (br (decide ((b.length + 1) * 1 ≤ 140737488355328)) (nx c g (b ++ [0]) d e a f) none) (h c g b d e a f))
abbrev bxt := Int × Int × (List Int) × Int × (List Int) × (List Int) × Int
abbrev b8d := bxt
def caq {ρ : Type} (f : bxt → Option ρ) : bs9 ρ := fun g h e a b c d => f (g, h, e, a, b, c, d)
def bwf {ρ : Type} : ab3 bxt b8d ρ := fun (f, g, e, a, b, c, d) next ex => auh f g e a b c d (caq next) (caq ex)
def b3s {ρ : Type} := shut (lp (bwf (ρ := ρ)))
theorem cd5 {ρ : Type} : b3s (ρ := ρ) = lp bwf := bq _
def b3g {ρ : Type} (f : ab8 bxt b8d ρ) (g h : Int) (e : List Int) (a : Int) (b c : List Int) (d : Int) (i : bs9 ρ) : Option ρ := f (g, h, e, a, b, c, d) (fun (g, h, e, a, b, c, d) => i g h e a b c d)
def bcg {ρ : Type} := b3g (lp (bwf (ρ := ρ)))
def au4 {ρ : Type} := b3g (b3s (ρ := ρ))
theorem bc4 {ρ : Type} : au4 (ρ := ρ) = bcg := congrArg b3g cd5
abbrev zc58 (ρ : Type) := Int → Int → (List Int) → Int → (List Int) → (List Int) → Int → Option ρ
def aty {ρ : Type} (c g : Int) (b : List Int) (d : Int) (e a : List Int) (f : Int) (nx h : bs9 ρ) : Option ρ := br (decide (c = 0)) none (br ((IntKind.i64.wrap ((↑a.length : Int) + (↑b.length : Int))).tmod c != IntKind.i64.wrap (c - 16)) (br (decide ((b.length + 1) * 1 ≤ 140737488355328)) (nx c g (b ++ [0]) d e a f) none) (h c g b d e a f))
abbrev bzu := Int × Int × (List Int) × Int × (List Int) × (List Int) × Int
abbrev b9k := bzu
def b7u {ρ : Type} (f : bzu → Option ρ) : zc58 ρ := fun g h e a b c d => f (g, h, e, a, b, c, d)
def bvy {ρ : Type} : ab3 bzu b9k ρ := fun (f, g, e, a, b, c, d) next ex => aty f g e a b c d (b7u next) (b7u ex)
def b52 {ρ : Type} := shut (lp (bvy (ρ := ρ)))
theorem cdh {ρ : Type} : b52 (ρ := ρ) = lp bvy := bq _
def b2x {ρ : Type} (f : ab8 bzu b9k ρ) (g h : Int) (e : List Int) (a : Int) (b c : List Int) (d : Int) (i : bs9 ρ) : Option ρ := f (g, h, e, a, b, c, d) (fun (g, h, e, a, b, c, d) => i g h e a b c d)
def bbd {ρ : Type} := b2x (lp (bvy (ρ := ρ)))
def au6 {ρ : Type} := b2x (b52 (ρ := ρ))
theorem bda {ρ : Type} : au6 (ρ := ρ) = bbd := congrArg b2x cdh
abbrev zc59 (ρ : Type) := Int → Int → (List Int) → Int → (List Int) → (List Int) → Int → Option ρ
def aqr {ρ : Type} (g c : Int) (a : List Int) (d : Int) (b e : List Int) (f : Int) (nx i : bs9 ρ) : Option ρ := br (decide (c < 8)) (br (decide (0 ≤ c)) (br (decide (c < (↑8 : Int))) (w9 (b.getD c.toNat 0) (IntKind.i64.wrap (g.tdiv 16)) fun h => br (decide ((a.length + h.length) * 1 ≤ 140737488355328)) (nx g (IntKind.i64.wrap (c + 1)) (a ++ h) d b e f) none) none) none) (i g c a d b e f)
abbrev byb := Int × Int × (List Int) × Int × (List Int) × (List Int) × Int
abbrev b3o := byb
def b4j {ρ : Type} (f : byb → Option ρ) : zc59 ρ := fun g h a b c d e => f (g, h, a, b, c, d, e)
def bvf {ρ : Type} : ab3 byb b3o ρ := fun (f, g, a, b, c, d, e) next ex => aqr f g a b c d e (b4j next) (b4j ex)
def cbc {ρ : Type} := shut (lp (bvf (ρ := ρ)))
theorem cd4 {ρ : Type} : cbc (ρ := ρ) = lp bvf := bq _
def b2i {ρ : Type} (f : ab8 byb b3o ρ) (g h : Int) (a : List Int) (b : Int) (c d : List Int) (e : Int) (i : bs9 ρ) : Option ρ := f (g, h, a, b, c, d, e) (fun (g, h, a, b, c, d, e) => i g h a b c d e)
def axq {ρ : Type} := b2i (lp (bvf (ρ := ρ)))
def al1 {ρ : Type} := b2i (cbc (ρ := ρ))
theorem az9 {ρ : Type} : al1 (ρ := ρ) = axq := congrArg b2i cd4
def aqn {ρ : Type} (a : Int) (c d : List Int) (b : Int) (k : (List Int) → Option ρ) : Option ρ := zq a fun J => au4 J (IntKind.u64.wrap (b * 8)) [128] a c d b fun m n o p q r s => br (m == 128) (au6 m n [128] p q r s fun M N e t u v i => w9 (i.fdiv (2 ^ 61)) 8 fun f => br (decide ((e.length + f.length) * 1 ≤ 140737488355328)) (w9 N 8 fun j => br (decide (((e ++ f).length + j.length) * 1 ≤ 140737488355328)) (ade t u v i (e ++ f ++ j) fun w y z A => al1 M 0 [] w y z A fun O Q g B U W Z => br (B == 2) (br (decide (48 ≤ (↑g.length : Int))) (k (List.take ((48 : Int) - (0 : Int)).toNat g)) none) (k g)) none) none) (w9 n 8 fun l => br (decide ((o.length + l.length) * 1 ≤ 140737488355328)) (ade p q r s (o ++ l) fun C F G H => al1 m 0 [] C F G H fun aa ab h I ac ad ae => br (I == 2) (br (decide (48 ≤ (↑h.length : Int))) (k (List.take ((48 : Int) - (0 : Int)).toNat h)) none) (k h)) none)
def aja {ρ : Type} := shut (aqn (ρ := ρ))
theorem ba5 {ρ : Type} (b : Int) (a : List Int) (c : List Int) (d : Int) (k : (List Int) → Option ρ) : aja b a c d k = aqn b a c d k := by unfold aja; rw [bq]

def aq8 {ρ : Type} (b : Int) (c : List Int) (k : (List Int) → Int → Option ρ) : Option ρ := aix b fun d e f g a => br (a != 0) (k [] a) (ade d e f g c fun h i j l => aja h i j l fun m => k m 0)
def afl {ρ : Type} := shut (aq8 (ρ := ρ))
theorem bbv {ρ : Type} (a : Int) (b : List Int) (k : (List Int) → Int → Option ρ) : afl a b k = aq8 a b k := by unfold afl; rw [bq]

def alo {ρ : Type} (a : List Int) (k : (List Int) → Option ρ) : Option ρ := ko [List.take 1 (List.drop 3 a), List.take 8 (List.drop 8 a), List.take 1 (List.drop 19 a), List.take 12 (List.drop 20 a)] fun b => k b
def aau {ρ : Type} := shut (alo (ρ := ρ))
theorem awc {ρ : Type} (a : List Int) (k : (List Int) → Option ρ) : aau a k = alo a k := by unfold aau; rw [bq]

def ara {ρ : Type} (a h i j l : Int) (b : Bool) (c e d : List Int) (k : (List Int) → Option ρ) : Option ρ := br ((↑c.length : Int) != a) (k []) (p8 a h i j l b fun p => br (!p) (k []) (br b (ko [c, List.take 32 (List.drop 0 e), d] fun q => ai6 7 q a fun r z => k r) (br (decide (a > 16)) (br (decide ((↑d.length : Int) > a)) (br (decide (0 ≤ IntKind.i64.wrap (128 - a))) (br (decide (IntKind.i64.wrap (128 - a) ≤ IntKind.i64.wrap (128 - a))) (br (decide (IntKind.i64.wrap (128 - a) * (↑1 : Int) ≤ (↑140737488355328 : Int))) (aau e fun s => ko [c, List.replicate (IntKind.i64.wrap (128 - a)).toNat (0 : Int), s, d] fun t => afl 3 t fun m A => br (decide (0 ≤ a)) (br (decide (a ≤ (↑m.length : Int))) (k (List.take (a - 0).toNat (List.drop 0 m))) none) none) none) none) none) (br (decide (0 ≤ IntKind.i64.wrap (64 - a))) (br (decide (IntKind.i64.wrap (64 - a) ≤ IntKind.i64.wrap (64 - a))) (br (decide (IntKind.i64.wrap (64 - a) * (↑1 : Int) ≤ (↑140737488355328 : Int))) (aau e fun u => ko [c, List.replicate (IntKind.i64.wrap (64 - a)).toNat (0 : Int), u, d] fun v => afl 1 v fun f w => br (decide (0 ≤ a)) (br (decide (a ≤ (↑f.length : Int))) (k (List.take (a - 0).toNat (List.drop 0 f))) none) none) none) none) none)) (br (decide (0 ≤ IntKind.i64.wrap (64 - a))) (br (decide (IntKind.i64.wrap (64 - a) ≤ IntKind.i64.wrap (64 - a))) (br (decide (IntKind.i64.wrap (64 - a) * (↑1 : Int) ≤ (↑140737488355328 : Int))) (aau e fun n => ko [c, List.replicate (IntKind.i64.wrap (64 - a)).toNat (0 : Int), n, d] fun o => afl 1 o fun g y => br (decide (0 ≤ a)) (br (decide (a ≤ (↑g.length : Int))) (k (List.take (a - 0).toNat (List.drop 0 g))) none) none) none) none) none))))
def aah {ρ : Type} := shut (ara (ρ := ρ))
theorem bcv {ρ : Type} (b : Int) (c : Int) (d : Int) (e : Int) (f : Int) (a : Bool) (g : List Int) (h : List Int) (i : List Int) (k : (List Int) → Option ρ) : aah b c d e f a g h i k = ara b c d e f a g h i k := by unfold aah; rw [bq]

abbrev b9z (ρ : Type) := (List Int) → Int → (List Int) → Int → Int → Int → Int → Int → Int → Bool → (List Int) → Option ρ
def aoo {ρ : Type} (k : List Int) (i : Int) (j : List Int) (h a b c d e : Int) (f : Bool) (g : List Int) (nx l : b9z ρ) : Option ρ := br (decide (h < i)) (ji g 5 (IntKind.u64.wrap h) fun m => aah a b c d e f j m k fun n => nx n i j (IntKind.u32.wrap (h + 1)) a b c d e f g) (l k i j h a b c d e f g)
abbrev bvs := (List Int) × Int × (List Int) × Int × Int × Int × Int × Int × Int × Bool × (List Int)
abbrev b6r := bvs
def cbw {ρ : Type} (f : bvs → Option ρ) : b9z ρ := fun j k l i a b c d e g h => f (j, k, l, i, a, b, c, d, e, g, h)
def bwz {ρ : Type} : ab3 bvs b6r ρ := fun (i, j, k, h, a, b, c, d, e, f, g) next ex => aoo i j k h a b c d e f g (cbw next) (cbw ex)
def b98 {ρ : Type} := shut (lp (bwz (ρ := ρ)))
theorem cb3 {ρ : Type} : b98 (ρ := ρ) = lp bwz := bq _
def b1y {ρ : Type} (f : ab8 bvs b6r ρ) (j : List Int) (k : Int) (l : List Int) (i a b c d e : Int) (g : Bool) (h : List Int) (m : b9z ρ) : Option ρ := f (j, k, l, i, a, b, c, d, e, g, h) (fun (j, k, l, i, a, b, c, d, e, g, h) => m j k l i a b c d e g h)
def av9 {ρ : Type} := b1y (lp (bwz (ρ := ρ)))
def av7 {ρ : Type} := b1y (b98 (ρ := ρ))
theorem axk {ρ : Type} : av7 (ρ := ρ) = av9 := congrArg b1y cb3
def amb {ρ : Type} (b c d e f : Int) (a : Bool) (g : List Int) (h i : Int) (j l : List Int) (k : (List Int) → Option ρ) : Option ρ := av7 g i j h b c d e f a l fun m o p q r s t u v w n => k m
def sw {ρ : Type} := shut (amb (ρ := ρ))
theorem avf {ρ : Type} (b : Int) (c : Int) (d : Int) (e : Int) (f : Int) (a : Bool) (g : List Int) (h : Int) (i : Int) (j : List Int) (l : List Int) (k : (List Int) → Option ρ) : sw b c d e f a g h i j l k = amb b c d e f a g h i j l k := by unfold sw; rw [bq]

def anz {ρ : Type} (b c d e f : Int) (a : Bool) (h g i : List Int) (k : (List Int) → Option ρ) : Option ρ := br ((↑g.length : Int) != b) (k []) (aah b c d e f a h i g fun j => k j)
def ajh {ρ : Type} := shut (anz (ρ := ρ))
theorem ayo {ρ : Type} (b : Int) (c : Int) (d : Int) (e : Int) (f : Int) (a : Bool) (g : List Int) (h : List Int) (i : List Int) (k : (List Int) → Option ρ) : ajh b c d e f a g h i k = anz b c d e f a g h i k := by unfold ajh; rw [bq]

def aow {ρ : Type} (a : List Int) (k : Int → Option ρ) : Option ρ := ad5 (List.take 4 (List.drop 20 a)) fun b => k b
def abm {ρ : Type} := shut (aow (ρ := ρ))
theorem ays {ρ : Type} (a : List Int) (k : Int → Option ρ) : abm a k = aow a k := by unfold abm; rw [bq]

def alf {ρ : Type} (b c d e f : Int) (a : Bool) (h i g : List Int) (j : Int) (k : (List Int) → Option ρ) : Option ρ := ji g 2 5 fun l => abm g fun m => ji l 3 m fun n => ji n 4 (IntKind.u64.wrap j) fun o => ajh b c d e f a i h o fun p => k p
def aad {ρ : Type} := shut (alf (ρ := ρ))
theorem awj {ρ : Type} (b : Int) (c : Int) (d : Int) (e : Int) (f : Int) (a : Bool) (g : List Int) (h : List Int) (i : List Int) (j : Int) (k : (List Int) → Option ρ) : aad b c d e f a g h i j k = alf b c d e f a g h i j k := by unfold aad; rw [bq]

def aqd {ρ : Type} (b c d e f : Int) (a : Bool) (h : List (List Int)) (i g : List Int) (k : (List Int) → Option ρ) : Option ρ := ji g 2 1 fun j => abm g fun l => ji j 3 l fun m => ko h fun n => aah b c d e f a i m n fun o => k o
def aed {ρ : Type} := shut (aqd (ρ := ρ))
theorem bch {ρ : Type} (b : Int) (c : Int) (d : Int) (e : Int) (f : Int) (a : Bool) (g : List (List Int)) (h : List Int) (i : List Int) (k : (List Int) → Option ρ) : aed b c d e f a g h i k = aqd b c d e f a g h i k := by unfold aed; rw [bq]

abbrev b41 (ρ : Type) := (List Int) → (List Int) → Int → (List (List Int)) → Int → Int → Int → Int → Int → Bool → (List Int) → Option ρ
def alg {ρ : Type} (j i : List Int) (h : Int) (k : List (List Int)) (a b c d e : Int) (f : Bool) (g : List Int) (nx l : b41 ρ) : Option ρ := br (decide (h < IntKind.i64.wrap (IntKind.i64.wrap (2 * a) + 3))) (aad a b c d e f j i g h fun m => ji g 4 (IntKind.u64.wrap h) fun n => sw a b c d e f m 0 15 i n fun o => br (decide ((k.length + 1) * 24 ≤ 140737488355328)) (nx j i (IntKind.i64.wrap (h + 1)) (k ++ [o]) a b c d e f g) none) (l j i h k a b c d e f g)
abbrev bzv := (List Int) × (List Int) × Int × (List (List Int)) × Int × Int × Int × Int × Int × Bool × (List Int)
abbrev b5p := bzv
def b56 {ρ : Type} (f : bzv → Option ρ) : b41 ρ := fun j k i l a b c d e g h => f (j, k, i, l, a, b, c, d, e, g, h)
def byq {ρ : Type} : ab3 bzv b5p ρ := fun (i, j, h, k, a, b, c, d, e, f, g) next ex => alg i j h k a b c d e f g (b56 next) (b56 ex)
def b4q {ρ : Type} := shut (lp (byq (ρ := ρ)))
theorem ccj {ρ : Type} : b4q (ρ := ρ) = lp byq := bq _
def b2o {ρ : Type} (f : ab8 bzv b5p ρ) (j k : List Int) (i : Int) (l : List (List Int)) (a b c d e : Int) (g : Bool) (h : List Int) (m : b41 ρ) : Option ρ := f (j, k, i, l, a, b, c, d, e, g, h) (fun (j, k, i, l, a, b, c, d, e, g, h) => m j k i l a b c d e g h)
def arv {ρ : Type} := b2o (lp (byq (ρ := ρ)))
def as3 {ρ : Type} := b2o (b4q (ρ := ρ))
theorem awn {ρ : Type} : as3 (ρ := ρ) = arv := congrArg b2o ccj
def ajx {ρ : Type} (b c d e f : Int) (a : Bool) (g h m : List Int) (k : (List Int) → Option ρ) : Option ρ := u7 b c d e f a g h fun n => br n (k []) (as3 g h 0 [] b c d e f a m fun v o w p q r s t u i j => aed q r s t u i p o j fun l => k l)
def aa7 {ρ : Type} := shut (ajx (ρ := ρ))
theorem asu {ρ : Type} (b : Int) (c : Int) (d : Int) (e : Int) (f : Int) (a : Bool) (g : List Int) (h : List Int) (i : List Int) (k : (List Int) → Option ρ) : aa7 b c d e f a g h i k = ajx b c d e f a g h i k := by unfold aa7; rw [bq]

def aoh {ρ : Type} (a : List Int) (b : Int) (k : (List Int) → Option ρ) : Option ρ := ji a 2 0 fun c => ji c 3 b fun d => k d
def zh {ρ : Type} := shut (aoh (ρ := ρ))
theorem axp {ρ : Type} (a : List Int) (b : Int) (k : (List Int) → Option ρ) : zh a b k = aoh a b k := by unfold zh; rw [bq]

def an2 {ρ : Type} (b c d e f : Int) (a : Bool) (g h : List Int) (i j : Int) (l m : List Int) (k : (List Int) → Option ρ) : Option ρ := ji h 2 2 fun n => ji n 4 (IntKind.u64.wrap i) fun o => ji o 5 j fun p => ko [l, m] fun q => aah b c d e f a g p q fun r => k r
def aaw {ρ : Type} := shut (an2 (ρ := ρ))
theorem azb {ρ : Type} (b : Int) (c : Int) (d : Int) (e : Int) (f : Int) (a : Bool) (g : List Int) (h : List Int) (i : Int) (j : Int) (l : List Int) (m : List Int) (k : (List Int) → Option ρ) : aaw b c d e f a g h i j l m k = an2 b c d e f a g h i j l m k := by unfold aaw; rw [bq]

abbrev cbi (ρ : Type) := (List Int) → (List Int) → Int → Int → Int → (List (List Int)) → Int → Int → Int → Int → Int → Bool → (List Int) → Option ρ
def aqv {ρ : Type} (j k : List Int) (i l h : Int) (m : List (List Int)) (a b c d e : Int) (f : Bool) (g : List Int) (nx n : cbi ρ) : Option ρ := br (decide (i < 0)) none (br (decide (h < IntKind.u64.wrap (IntKind.u64.wrap (l + 1) * 2 ^ min i.toNat 64))) (zh g h fun o => aa7 a b c d e f j k o fun p => br (decide ((m.length + 1) * 24 ≤ 140737488355328)) (nx j k i l (IntKind.u64.wrap (h + 1)) (m ++ [p]) a b c d e f g) none) (n j k i l h m a b c d e f g))
abbrev bw3 := (List Int) × (List Int) × Int × Int × Int × (List (List Int)) × Int × Int × Int × Int × Int × Bool × (List Int)
abbrev b7j := bw3
def b34 {ρ : Type} (f : bw3 → Option ρ) : cbi ρ := fun j k l m i n a b c d e g h => f (j, k, l, m, i, n, a, b, c, d, e, g, h)
def b1a {ρ : Type} : ab3 bw3 b7j ρ := fun (i, j, k, l, h, m, a, b, c, d, e, f, g) next ex => aqv i j k l h m a b c d e f g (b34 next) (b34 ex)
def b7g {ρ : Type} := shut (lp (b1a (ρ := ρ)))
theorem cc1 {ρ : Type} : b7g (ρ := ρ) = lp b1a := bq _
def b29 {ρ : Type} (f : ab8 bw3 b7j ρ) (j k : List Int) (l m i : Int) (n : List (List Int)) (a b c d e : Int) (g : Bool) (h : List Int) (o : cbi ρ) : Option ρ := f (j, k, l, m, i, n, a, b, c, d, e, g, h) (fun (j, k, l, m, i, n, a, b, c, d, e, g, h) => o j k l m i n a b c d e g h)
def azr {ρ : Type} := b29 (lp (b1a (ρ := ρ)))
def axw {ρ : Type} := b29 (b7g (ρ := ρ))
theorem bal {ρ : Type} : axw (ρ := ρ) = azr := congrArg b29 cc1
abbrev b5e (ρ : Type) := (List Int) → Int → Int → (List (List Int)) → Int → Int → (List (List Int)) → (List Int) → Int → Int → Int → Int → Int → Bool → Option ρ
def anq {ρ : Type} (m : List Int) (l n : Int) (b : List (List Int)) (c a : Int) (k : List (List Int)) (d : List Int) (e f g h i : Int) (j : Bool) (nx o : b5e ρ) : Option ρ := br (decide (IntKind.i64.wrap (a + 1) < (↑b.length : Int))) (br (decide (IntKind.i64.wrap (l - c) < 0)) none (br (decide (0 ≤ a)) (br (decide (a < (↑b.length : Int))) (br (decide (0 ≤ IntKind.i64.wrap (a + 1))) (br (decide (IntKind.i64.wrap (a + 1) < (↑b.length : Int))) (aaw e f g h i j m d c (IntKind.u64.wrap (IntKind.u64.wrap (n * 2 ^ min (IntKind.i64.wrap (l - c)).toNat 64) + IntKind.u64.wrap (IntKind.i64.wrap (a.tdiv 2)))) (b.getD a.toNat []) (b.getD (IntKind.i64.wrap (a + 1)).toNat []) fun p => br (decide ((k.length + 1) * 24 ≤ 140737488355328)) (nx m l n b c (IntKind.i64.wrap (a + 2)) (k ++ [p]) d e f g h i j) none) none) none) none) none)) (o m l n b c a k d e f g h i j)
abbrev b0x := (List Int) × Int × Int × (List (List Int)) × Int × Int × (List (List Int)) × (List Int) × Int × Int × Int × Int × Int × Bool
abbrev b66 := b0x
def b6c {ρ : Type} (f : b0x → Option ρ) : b5e ρ := fun m n o i j k l a b c d e g h => f (m, n, o, i, j, k, l, a, b, c, d, e, g, h)
def bvu {ρ : Type} : ab3 b0x b66 ρ := fun (l, m, n, h, i, j, k, a, b, c, d, e, f, g) next ex => anq l m n h i j k a b c d e f g (b6c next) (b6c ex)
def b5i {ρ : Type} := shut (lp (bvu (ρ := ρ)))
theorem cdp {ρ : Type} : b5i (ρ := ρ) = lp bvu := bq _
def b1o {ρ : Type} (f : ab8 b0x b66 ρ) (m : List Int) (n o : Int) (i : List (List Int)) (j k : Int) (l : List (List Int)) (a : List Int) (b c d e g : Int) (h : Bool) (p : b5e ρ) : Option ρ := f (m, n, o, i, j, k, l, a, b, c, d, e, g, h) (fun (m, n, o, i, j, k, l, a, b, c, d, e, g, h) => p m n o i j k l a b c d e g h)
def av4 {ρ : Type} := b1o (lp (bvu (ρ := ρ)))
def anv {ρ : Type} := b1o (b5i (ρ := ρ))
theorem ayw {ρ : Type} : anv (ρ := ρ) = av4 := congrArg b1o cdp
abbrev b42 (ρ : Type) := (List Int) → Int → Int → (List (List Int)) → Int → Int → Int → Int → Int → Int → Bool → (List Int) → Option ρ
def aqs {ρ : Type} (k : List Int) (j l : Int) (i : List (List Int)) (a b c d e f : Int) (g : Bool) (h : List Int) (nx q : b42 ρ) : Option ρ := br (decide (a ≤ j)) (anv k j l i a 0 [] h b c d e f g fun r s t A u B v w y z m n o p => nx r s t v (IntKind.i64.wrap (u + 1)) y z m n o p w) (q k j l i a b c d e f g h)
abbrev b0l := (List Int) × Int × Int × (List (List Int)) × Int × Int × Int × Int × Int × Int × Bool × (List Int)
abbrev b9q := b0l
def b3z {ρ : Type} (f : b0l → Option ρ) : b42 ρ := fun k l m i j a b c d e g h => f (k, l, m, i, j, a, b, c, d, e, g, h)
def bwo {ρ : Type} : ab3 b0l b9q ρ := fun (j, k, l, h, i, a, b, c, d, e, f, g) next ex => aqs j k l h i a b c d e f g (b3z next) (b3z ex)
def b9i {ρ : Type} := shut (lp (bwo (ρ := ρ)))
theorem cdt {ρ : Type} : b9i (ρ := ρ) = lp bwo := bq _
def b1q {ρ : Type} (f : ab8 b0l b9q ρ) (k : List Int) (l m : Int) (i : List (List Int)) (j a b c d e : Int) (g : Bool) (h : List Int) (n : b42 ρ) : Option ρ := f (k, l, m, i, j, a, b, c, d, e, g, h) (fun (k, l, m, i, j, a, b, c, d, e, g, h) => n k l m i j a b c d e g h)
def axj {ρ : Type} := b1q (lp (bwo (ρ := ρ)))
def aw9 {ρ : Type} := b1q (b9i (ρ := ρ))
theorem az4 {ρ : Type} : aw9 (ρ := ρ) = axj := congrArg b1q cdt
def aou {ρ : Type} (d b a f g : Int) (c : Bool) (j l q : List Int) (e i : Int) (k : (List Int) → Option ρ) : Option ρ := p8 d b a f g c fun r => br (!r) (k []) (br ((↑j.length : Int) != d) (k []) (br ((↑l.length : Int) != d) (k []) (br (decide (e < 0)) (k []) (br (decide (a = 0)) none (br (decide (e > IntKind.i64.wrap (b.tdiv a))) (k []) (br (decide (a = 0)) none (br (decide (IntKind.i64.wrap (IntKind.i64.wrap (b.tdiv a) - e) < 0)) none (br (decide (i ≥ IntKind.u64.wrap (1 * 2 ^ min (IntKind.i64.wrap (IntKind.i64.wrap (b.tdiv a) - e)).toNat 64))) (k []) (br (decide (e < 0)) none (axw j l e i (IntKind.u64.wrap (i * 2 ^ min e.toNat 64)) [] d b a f g c q fun Q s t u U v w y z m n o p => aw9 s t u v 1 w y z m n o p fun A B C h F G H I J M N O => br (decide (0 < (↑h.length : Int))) (k (h.getD 0 [])) none))))))))))
def afj {ρ : Type} := shut (aou (ρ := ρ))
theorem azd {ρ : Type} (b : Int) (c : Int) (d : Int) (e : Int) (f : Int) (a : Bool) (g : List Int) (h : List Int) (i : List Int) (j : Int) (l : Int) (k : (List Int) → Option ρ) : afj b c d e f a g h i j l k = aou b c d e f a g h i j l k := by unfold afj; rw [bq]

def awi {ρ : Type} (c : List Int) (a b : Int) (k : Bool → Option ρ) : Option ρ := br (decide (a ≥ 1)) (br (decide (a ≤ 24)) (br (decide (b ≥ 0)) (br (decide (a = 0)) none (k (decide (b ≤ IntKind.i64.wrap ((IntKind.i64.wrap ((↑c.length : Int) * 8)).tdiv a))))) (k false)) (k false)) (k false)
def ae5 {ρ : Type} := shut (awi (ρ := ρ))
theorem axh {ρ : Type} (a : List Int) (b : Int) (c : Int) (k : Bool → Option ρ) : ae5 a b c k = awi a b c k := by unfold ae5; rw [bq]

abbrev b4a (ρ : Type) := (List Int) → Int → Int → Int → Int → Int → (List Int) → Option ρ
def alq {ρ : Type} (d : List Int) (b e c f a : Int) (g : List Int) (nx h : b4a ρ) : Option ρ := br (decide (a < b)) (br (decide (0 ≤ IntKind.i64.wrap ((IntKind.i64.wrap (IntKind.i64.wrap (c * b) + a)).tdiv 8))) (br (decide (IntKind.i64.wrap ((IntKind.i64.wrap (IntKind.i64.wrap (c * b) + a)).tdiv 8) < (↑d.length : Int))) (br (decide (IntKind.i64.wrap (7 - (IntKind.i64.wrap (IntKind.i64.wrap (c * b) + a)).tmod 8) < 0)) none (nx d b e c (IntKind.u32.wrap (IntKind.u32.wrap (f * 2) + IntKind.u32.wrap (bits BinOp.and IntKind.u8 ((d.getD (IntKind.i64.wrap ((IntKind.i64.wrap (IntKind.i64.wrap (c * b) + a)).tdiv 8)).toNat 0).fdiv (2 ^ min (IntKind.i64.wrap (7 - (IntKind.i64.wrap (IntKind.i64.wrap (c * b) + a)).tmod 8)).toNat 8)) 1))) (IntKind.i64.wrap (a + 1)) g)) none) none) (h d b e c f a g)
abbrev bvw := (List Int) × Int × Int × Int × Int × Int × (List Int)
abbrev b90 := bvw
def b8m {ρ : Type} (f : bvw → Option ρ) : b4a ρ := fun b c d e g a h => f (b, c, d, e, g, a, h)
def b0u {ρ : Type} : ab3 bvw b90 ρ := fun (b, c, d, e, f, a, g) next ex => alq b c d e f a g (b8m next) (b8m ex)
def b4d {ρ : Type} := shut (lp (b0u (ρ := ρ)))
theorem cch {ρ : Type} : b4d (ρ := ρ) = lp b0u := bq _
def b2u {ρ : Type} (f : ab8 bvw b90 ρ) (b : List Int) (c d e g a : Int) (h : List Int) (i : b4a ρ) : Option ρ := f (b, c, d, e, g, a, h) (fun (b, c, d, e, g, a, h) => i b c d e g a h)
def ar2 {ρ : Type} := b2u (lp (b0u (ρ := ρ)))
def ar6 {ρ : Type} := b2u (b4d (ρ := ρ))
theorem awl {ρ : Type} : ar6 (ρ := ρ) = ar2 := congrArg b2u cch
abbrev b8l (ρ : Type) := (List Int) → Int → Int → Int → (List Int) → Option ρ
def al3 {ρ : Type} (c : List Int) (d a b : Int) (e : List Int) (nx g : b8l ρ) : Option ρ := br (decide (b < a)) (ar6 c d a b 0 0 e fun h i j k l m f => br (decide ((f.length + 1) * 4 ≤ 140737488355328)) (nx h i j (IntKind.i64.wrap (k + 1)) (f ++ [l])) none) (g c d a b e)
abbrev bzo := (List Int) × Int × Int × Int × (List Int)
abbrev b6o := bzo
def b8e {ρ : Type} (f : bzo → Option ρ) : b8l ρ := fun a b c d e => f (a, b, c, d, e)
def b0c {ρ : Type} : ab3 bzo b6o ρ := fun (a, b, c, d, e) next ex => al3 a b c d e (b8e next) (b8e ex)
def b86 {ρ : Type} := shut (lp (b0c (ρ := ρ)))
theorem cd0 {ρ : Type} : b86 (ρ := ρ) = lp b0c := bq _
def b1c {ρ : Type} (f : ab8 bzo b6o ρ) (a : List Int) (b c d : Int) (e : List Int) (g : b8l ρ) : Option ρ := f (a, b, c, d, e) (fun (a, b, c, d, e) => g a b c d e)
def as0 {ρ : Type} := b1c (lp (b0c (ρ := ρ)))
def as4 {ρ : Type} := b1c (b86 (ρ := ρ))
theorem aws {ρ : Type} : as4 (ρ := ρ) = as0 := congrArg b1c cd0
def aj6 {ρ : Type} (a : List Int) (b c : Int) (k : (List Int) → Option ρ) : Option ρ := ae5 a b c fun d => br (!d) (k []) (as4 a b c 0 [] fun f g h i e => k e)
def qo {ρ : Type} := shut (aj6 (ρ := ρ))
theorem arw {ρ : Type} (a : List Int) (b : Int) (c : Int) (k : (List Int) → Option ρ) : qo a b c k = aj6 a b c k := by unfold qo; rw [bq]

abbrev cbu (ρ : Type) := Int → Int → (List Int) → Option ρ
def alh {ρ : Type} (c a : Int) (b : List Int) (nx d : cbu ρ) : Option ρ := br (decide (a < (↑b.length : Int))) (br (decide (0 ≤ a)) (br (decide (a < (↑b.length : Int))) (nx (IntKind.u64.wrap (IntKind.u64.wrap (c + 15) - IntKind.u64.wrap (b.getD a.toNat 0))) (IntKind.i64.wrap (a + 1)) b) none) none) (d c a b)
abbrev bzi := Int × Int × (List Int)
abbrev b3k := bzi
def b3n {ρ : Type} (f : bzi → Option ρ) : cbu ρ := fun a b c => f (a, b, c)
def b0h {ρ : Type} : ab3 bzi b3k ρ := fun (a, b, c) next ex => alh a b c (b3n next) (b3n ex)
def b8n {ρ : Type} := shut (lp (b0h (ρ := ρ)))
theorem cb4 {ρ : Type} : b8n (ρ := ρ) = lp b0h := bq _
def b1m {ρ : Type} (f : ab8 bzi b3k ρ) (a b : Int) (c : List Int) (d : cbu ρ) : Option ρ := f (a, b, c) (fun (a, b, c) => d a b c)
def atu {ρ : Type} := b1m (lp (b0h (ρ := ρ)))
def adv {ρ : Type} := b1m (b8n (ρ := ρ))
theorem awy {ρ : Type} : adv (ρ := ρ) = atu := congrArg b1m cb4
def aj0 {ρ : Type} (a : Int) (b : List Int) (k : (List Int) → Option ρ) : Option ρ := br (a != 16) (br (a != 24) (br (a != 32) (k []) (br ((↑b.length : Int) != a) (k []) (qo b 4 (IntKind.i64.wrap (2 * a)) fun n => adv 0 0 n fun o t f => w9 (IntKind.u64.wrap (16 * o)) 2 fun p => qo p 4 3 fun g => br (decide ((f.length + g.length) * 4 ≤ 140737488355328)) (k (f ++ g)) none))) (br ((↑b.length : Int) != a) (k []) (qo b 4 (IntKind.i64.wrap (2 * a)) fun q => adv 0 0 q fun r u h => w9 (IntKind.u64.wrap (16 * r)) 2 fun i => qo i 4 3 fun c => br (decide ((h.length + c.length) * 4 ≤ 140737488355328)) (k (h ++ c)) none))) (br ((↑b.length : Int) != a) (k []) (qo b 4 (IntKind.i64.wrap (2 * a)) fun j => adv 0 0 j fun l s d => w9 (IntKind.u64.wrap (16 * l)) 2 fun m => qo m 4 3 fun e => br (decide ((d.length + e.length) * 4 ≤ 140737488355328)) (k (d ++ e)) none))
def xk {ρ : Type} := shut (aj0 (ρ := ρ))
theorem atj {ρ : Type} (a : Int) (b : List Int) (k : (List Int) → Option ρ) : xk a b k = aj0 a b k := by unfold xk; rw [bq]

abbrev b7m (ρ : Type) := (List Int) → (List Int) → Int → (List (List Int)) → Int → Int → Int → Int → Int → Bool → (List Int) → (List Int) → Option ρ
def aqj {ρ : Type} (k j : List Int) (a : Int) (l : List (List Int)) (b c d e f : Int) (g : Bool) (h i : List Int) (nx m : b7m ρ) : Option ρ := br (decide (a < (↑i.length : Int))) (aad b c d e f g k j h a fun n => br (decide (0 ≤ a)) (br (decide (a < (↑i.length : Int))) (ji h 4 (IntKind.u64.wrap a) fun o => sw b c d e f g n 0 (i.getD a.toNat 0) j o fun p => br (decide ((l.length + 1) * 24 ≤ 140737488355328)) (nx k j (IntKind.i64.wrap (a + 1)) (l ++ [p]) b c d e f g h i) none) none) none) (m k j a l b c d e f g h i)
abbrev bvr := (List Int) × (List Int) × Int × (List (List Int)) × Int × Int × Int × Int × Int × Bool × (List Int) × (List Int)
abbrev b9m := bvr
def b4z {ρ : Type} (f : bvr → Option ρ) : b7m ρ := fun j k i l a b c d e g h m => f (j, k, i, l, a, b, c, d, e, g, h, m)
def bzb {ρ : Type} : ab3 bvr b9m ρ := fun (i, j, h, k, a, b, c, d, e, f, g, l) next ex => aqj i j h k a b c d e f g l (b4z next) (b4z ex)
def b8r {ρ : Type} := shut (lp (bzb (ρ := ρ)))
theorem cc3 {ρ : Type} : b8r (ρ := ρ) = lp bzb := bq _
def b2g {ρ : Type} (f : ab8 bvr b9m ρ) (j k : List Int) (i : Int) (l : List (List Int)) (a b c d e : Int) (g : Bool) (h m : List Int) (n : b7m ρ) : Option ρ := f (j, k, i, l, a, b, c, d, e, g, h, m) (fun (j, k, i, l, a, b, c, d, e, g, h, m) => n j k i l a b c d e g h m)
def aye {ρ : Type} := b2g (lp (bzb (ρ := ρ)))
def axn {ρ : Type} := b2g (b8r (ρ := ρ))
theorem baj {ρ : Type} : axn (ρ := ρ) = aye := congrArg b2g cc3
def an1 {ρ : Type} (b c d e f : Int) (a : Bool) (g h i l : List Int) (k : (List Int) → Option ρ) : Option ρ := u7 b c d e f a h i fun m => br m (k []) (br ((↑g.length : Int) != b) (k []) (xk b g fun n => axn h i 0 [] b c d e f a l n fun t u v o w y z A p q r s => ko o fun j => k j))
def aeu {ρ : Type} := shut (an1 (ρ := ρ))
theorem az0 {ρ : Type} (b : Int) (c : Int) (d : Int) (e : Int) (f : Int) (a : Bool) (g : List Int) (h : List Int) (i : List Int) (j : List Int) (k : (List Int) → Option ρ) : aeu b c d e f a g h i j k = an1 b c d e f a g h i j k := by unfold aeu; rw [bq]

abbrev cbm (ρ : Type) := (List Int) → (List Int) → Int → Int → (List (List Int)) → Int → Int → Int → Int → Int → Bool → (List Int) → Option ρ
def arb {ρ : Type} (j k : List Int) (l b : Int) (i : List (List Int)) (d c a e f : Int) (g : Bool) (h : List Int) (nx m : cbm ρ) : Option ρ := br (decide (a = 0)) none (br (decide (b < IntKind.i64.wrap (c.tdiv a))) (br (decide (b < 0)) none (afj d c a e f g j k h b (bits BinOp.xor IntKind.u64 (l.fdiv (2 ^ min b.toNat 64)) 1) fun n => br (decide ((i.length + 1) * 24 ≤ 140737488355328)) (nx j k l (IntKind.i64.wrap (b + 1)) (i ++ [n]) d c a e f g h) none)) (m j k l b i d c a e f g h))
abbrev byn := (List Int) × (List Int) × Int × Int × (List (List Int)) × Int × Int × Int × Int × Int × Bool × (List Int)
abbrev b9e := byn
def b3i {ρ : Type} (f : byn → Option ρ) : cbm ρ := fun k l m i j a b c d e g h => f (k, l, m, i, j, a, b, c, d, e, g, h)
def bvc {ρ : Type} : ab3 byn b9e ρ := fun (j, k, l, h, i, a, b, c, d, e, f, g) next ex => arb j k l h i a b c d e f g (b3i next) (b3i ex)
def b7y {ρ : Type} := shut (lp (bvc (ρ := ρ)))
theorem cck {ρ : Type} : b7y (ρ := ρ) = lp bvc := bq _
def b2s {ρ : Type} (f : ab8 byn b9e ρ) (k l : List Int) (m i : Int) (j : List (List Int)) (a b c d e : Int) (g : Bool) (h : List Int) (n : cbm ρ) : Option ρ := f (k, l, m, i, j, a, b, c, d, e, g, h) (fun (k, l, m, i, j, a, b, c, d, e, g, h) => n k l m i j a b c d e g h)
def azy {ρ : Type} := b2s (lp (bvc (ρ := ρ)))
def axc {ρ : Type} := b2s (b7y (ρ := ρ))
theorem bae {ρ : Type} : axc (ρ := ρ) = azy := congrArg b2s cck
def aof {ρ : Type} (b d c e f : Int) (a : Bool) (j g h l : List Int) (i : Int) (k : (List Int) → Option ρ) : Option ρ := p8 b d c e f a fun n => br (!n) (k []) (br ((↑g.length : Int) != b) (k []) (br ((↑h.length : Int) != b) (k []) (br ((↑j.length : Int) != b) (k []) (br (decide (c = 0)) none (br (decide (IntKind.i64.wrap (d.tdiv c) < 0)) none (br (decide (i ≥ IntKind.u64.wrap (1 * 2 ^ min (IntKind.i64.wrap (d.tdiv c)).toNat 64))) (k []) (zh l i fun o => aeu b d c e f a j g h o fun p => axc g h i 0 [p] b d c e f a l fun w y z A q B C r s t u v => ko q fun m => k m)))))))
def ae1 {ρ : Type} := shut (aof (ρ := ρ))
theorem azz {ρ : Type} (b : Int) (c : Int) (d : Int) (e : Int) (f : Int) (a : Bool) (g : List Int) (h : List Int) (i : List Int) (j : List Int) (l : Int) (k : (List Int) → Option ρ) : ae1 b c d e f a g h i j l k = aof b c d e f a g h i j l k := by unfold ae1; rw [bq]

def anr {ρ : Type} (a d b e f : Int) (c : Bool) (k : Int → Option ρ) : Option ρ := p8 a d b e f c fun g => br (!g) (k 0) (br (decide (b = 0)) none (k (IntKind.i64.wrap (a * IntKind.i64.wrap (IntKind.i64.wrap (IntKind.i64.wrap (2 * a) + 3) + IntKind.i64.wrap (d.tdiv b))))))
def aam {ρ : Type} := shut (anr (ρ := ρ))
theorem ax3 {ρ : Type} (b : Int) (c : Int) (d : Int) (e : Int) (f : Int) (a : Bool) (k : Int → Option ρ) : aam b c d e f a k = anr b c d e f a k := by unfold aam; rw [bq]

end P
end
