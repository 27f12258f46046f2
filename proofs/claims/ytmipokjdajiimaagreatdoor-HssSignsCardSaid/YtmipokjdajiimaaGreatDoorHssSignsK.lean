/-
  HssSigns, part 11: an interpreter of my own over abstract values, the pure functions, the walks and the plain law.
-/

import Derived.Test.YtmipokjdajiimaaGreatDoorHssSignsH
import Derived.Test.YtmipokjdajiimaaGreatDoorHssSignsJ
import Derived.Test.YtmipokjdajiimaaGreatDoorHssSignsI

noncomputable section
open Go Go.Abs
set_option linter.unusedVariables false
namespace P

def agr {ρ : Type} (a : Int) (k : Int → Option ρ) : Option ρ := br (decide (0 ≤ a)) (br (decide (a < (↑64 : Int))) (k (roots256.getD a.toNat 0)) none) none
def ni {ρ : Type} := shut (agr (ρ := ρ))
theorem am8 {ρ : Type} (a : Int) (k : Int → Option ρ) : ni a k = agr a k := by unfold ni; rw [au]

def u6 {ρ : Type} (a g : Int) (b c d e : List Int) (h f : Int) (k : Int → Option ρ) : Option ρ := br (decide (f < 0)) none (br (decide (IntKind.i64.wrap (a - f) < 0)) none (k (bits BinOp.or IntKind.u32 (h.fdiv (2 ^ min f.toNat 32)) (IntKind.u32.wrap (h * 2 ^ min (IntKind.i64.wrap (a - f)).toNat 32)))))
def av {ρ : Type} := shut (u6 (ρ := ρ))
theorem aa7 {ρ : Type} (f : Int) (e : Int) (a : List Int) (b : List Int) (c : List Int) (d : List Int) (g : Int) (h : Int) (k : Int → Option ρ) : av f e a b c d g h k = u6 f e a b c d g h k := by unfold av; rw [au]

def sj {ρ : Type} (f e : Int) (a b c d : List Int) (g h : Int) (k : Int → Option ρ) : Option ρ := br (decide (h = (↑0 : Int))) (av f e a b c d g (a.getD 0 0) fun l => av f e a b c d g (a.getD 1 0) fun m => av f e a b c d g (a.getD 2 0) fun n => k (bits BinOp.xor IntKind.u32 (bits BinOp.xor IntKind.u32 l m) n)) (br (decide (h = (↑1 : Int))) (av f e a b c d g (b.getD 0 0) fun o => av f e a b c d g (b.getD 1 0) fun p => av f e a b c d g (b.getD 2 0) fun q => k (bits BinOp.xor IntKind.u32 (bits BinOp.xor IntKind.u32 o p) q)) (br (decide (h = (↑2 : Int))) (av f e a b c d g (c.getD 0 0) fun r => av f e a b c d g (c.getD 1 0) fun s => av f e a b c d g (c.getD 2 0) fun t => k (bits BinOp.xor IntKind.u32 (bits BinOp.xor IntKind.u32 r s) t)) (br (decide (h = (↑3 : Int))) (av f e a b c d g (d.getD 0 0) fun u => av f e a b c d g (d.getD 1 0) fun i => av f e a b c d g (d.getD 2 0) fun j => k (bits BinOp.xor IntKind.u32 (bits BinOp.xor IntKind.u32 u i) j)) none)))
def jg {ρ : Type} := shut (sj (ρ := ρ))
theorem zf {ρ : Type} (f : Int) (e : Int) (a : List Int) (b : List Int) (c : List Int) (d : List Int) (g : Int) (h : Int) (k : Int → Option ρ) : jg f e a b c d g h k = sj f e a b c d g h k := by unfold jg; rw [au]

def uf {ρ : Type} (f e : Int) (a b c d : List Int) (g h : Int) (k : Int → Option ρ) : Option ρ := br (decide (h = (↑0 : Int))) (av f e a b c d g (a.getD 0 (0 : Int)) fun i => av f e a b c d g (a.getD 1 (0 : Int)) fun j => br (decide (a.getD 2 (0 : Int) < (0 : Int))) none (k (bits BinOp.xor IntKind.u32 (bits BinOp.xor IntKind.u32 i j) (g.fdiv ((2 : Int) ^ min (a.getD 2 (0 : Int)).toNat 32))))) (br (decide (h = (↑1 : Int))) (av f e a b c d g (b.getD 0 (0 : Int)) fun l => av f e a b c d g (b.getD 1 (0 : Int)) fun m => br (decide (b.getD 2 (0 : Int) < (0 : Int))) none (k (bits BinOp.xor IntKind.u32 (bits BinOp.xor IntKind.u32 l m) (g.fdiv ((2 : Int) ^ min (b.getD 2 (0 : Int)).toNat 32))))) (br (decide (h = (↑2 : Int))) (av f e a b c d g (c.getD 0 (0 : Int)) fun n => av f e a b c d g (c.getD 1 (0 : Int)) fun o => br (decide (c.getD 2 (0 : Int) < (0 : Int))) none (k (bits BinOp.xor IntKind.u32 (bits BinOp.xor IntKind.u32 n o) (g.fdiv ((2 : Int) ^ min (c.getD 2 (0 : Int)).toNat 32))))) (br (decide (h = (↑3 : Int))) (av f e a b c d g (d.getD 0 (0 : Int)) fun p => av f e a b c d g (d.getD 1 (0 : Int)) fun q => br (decide (d.getD 2 (0 : Int) < (0 : Int))) none (k (bits BinOp.xor IntKind.u32 (bits BinOp.xor IntKind.u32 p q) (g.fdiv ((2 : Int) ^ min (d.getD 2 (0 : Int)).toNat 32))))) none)))
def jl {ρ : Type} := shut (uf (ρ := ρ))
theorem zw {ρ : Type} (f : Int) (e : Int) (a : List Int) (b : List Int) (c : List Int) (d : List Int) (g : Int) (h : Int) (k : Int → Option ρ) : jl f e a b c d g h k = uf f e a b c d g h k := by unfold jl; rw [au]

abbrev b23 (ρ : Type) := (List Int) → Int → Int → Int → Int → (List Int) → (List Int) → (List Int) → (List Int) → (List Int) → (List Int) → (List Int) → Option ρ
def yh {ρ : Type} (l : List Int) (b a c d : Int) (e f g h i j k : List Int) (nx m : b23 ρ) : Option ρ := br (decide (a < 16)) (br (decide (0 ≤ IntKind.i64.wrap (a * b))) (br (decide (IntKind.i64.wrap (a * b) ≤ IntKind.i64.wrap (IntKind.i64.wrap (a + 1) * b))) (br (decide (IntKind.i64.wrap (IntKind.i64.wrap (a + 1) * b) ≤ (↑l.length : Int))) (jo (List.drop (IntKind.i64.wrap (a * b)).toNat (List.take (IntKind.i64.wrap (IntKind.i64.wrap (a + 1) * b)).toNat l)) fun n => br (decide (0 ≤ a)) (br (decide (a < (↑16 : Int))) (nx l b (IntKind.i64.wrap (a + 1)) c d e f g h i j (k.set a.toNat (IntKind.u32.wrap n))) none) none) none) none) none) (m l b a c d e f g h i j k)
abbrev bvd := (List Int) × Int × Int × Int × Int × (List Int) × (List Int) × (List Int) × (List Int) × (List Int) × (List Int) × (List Int)
abbrev b42 := bvd
def b0x {ρ : Type} (f : bvd → Option ρ) : b23 ρ := fun l m k a b c d e g h i j => f (l, m, k, a, b, c, d, e, g, h, i, j)
def bw0 {ρ : Type} : aeb bvd b42 ρ := fun (k, l, j, a, b, c, d, e, f, g, h, i) next ex => yh k l j a b c d e f g h i (b0x next) (b0x ex)
def b2l {ρ : Type} := shut (lp (bw0 (ρ := ρ)))
theorem b5u {ρ : Type} : b2l (ρ := ρ) = lp bw0 := au _
def bxv {ρ : Type} (f : aec bvd b42 ρ) (l : List Int) (m k a b : Int) (c d e g h i j : List Int) (n : b23 ρ) : Option ρ := f (l, m, k, a, b, c, d, e, g, h, i, j) (fun (l, m, k, a, b, c, d, e, g, h, i, j) => n l m k a b c d e g h i j)
def acj {ρ : Type} := bxv (lp (bw0 (ρ := ρ)))
def yt {ρ : Type} := bxv (b2l (ρ := ρ))
theorem afv {ρ : Type} : yt (ρ := ρ) = acj := congrArg bxv b5u
abbrev b2x (ρ : Type) := Int → Int → (List Int) → (List Int) → (List Int) → Int → Int → (List Int) → (List Int) → (List Int) → (List Int) → (List Int) → Option ρ
def wu {ρ : Type} (j b : Int) (c k l : List Int) (d e : Int) (f g h i a : List Int) (nx o : b2x ρ) : Option ρ := br (decide (b < j)) (br (decide (0 ≤ b.tmod 16)) (br (decide (b.tmod 16 < (↑16 : Int))) (jg d e f g h i (a.getD 4 0) 3 fun m => ni b fun n => jg d e f g h i (a.getD 0 0) 2 fun p => br (decide (0 ≤ (IntKind.i64.wrap (b + 1)).tmod 16)) (br (decide ((IntKind.i64.wrap (b + 1)).tmod 16 < (↑16 : Int))) (jl d e f g h i (c.getD ((IntKind.i64.wrap (b + 1)).tmod 16).toNat 0) 0 fun q => br (decide (0 ≤ (IntKind.i64.wrap (b + 9)).tmod 16)) (br (decide ((IntKind.i64.wrap (b + 9)).tmod 16 < (↑16 : Int))) (br (decide (0 ≤ (IntKind.i64.wrap (b + 14)).tmod 16)) (br (decide ((IntKind.i64.wrap (b + 14)).tmod 16 < (↑16 : Int))) (jl d e f g h i (c.getD ((IntKind.i64.wrap (b + 14)).tmod 16).toNat 0) 1 fun r => br (decide (0 ≤ b.tmod 16)) (br (decide (b.tmod 16 < (↑16 : Int))) (nx j (IntKind.i64.wrap (b + 1)) (c.set (b.tmod 16).toNat (IntKind.u32.wrap (IntKind.u32.wrap (IntKind.u32.wrap (c.getD (b.tmod 16).toNat 0 + q) + c.getD ((IntKind.i64.wrap (b + 9)).tmod 16).toNat 0) + r))) k l d e f g h i ((((List.take 1 a).append (List.take 7 (List.take 7 (List.drop 0 a)) ++ List.drop (1 + min 7 (List.take 7 (List.drop 0 a)).length) a)).set 4 (IntKind.u32.wrap (((List.take 1 a).append (List.take 7 (List.take 7 (List.drop 0 a)) ++ List.drop (1 + min 7 (List.take 7 (List.drop 0 a)).length) a)).getD 4 0 + IntKind.u32.wrap (IntKind.u32.wrap (IntKind.u32.wrap (IntKind.u32.wrap (a.getD 7 0 + m) + bits BinOp.xor IntKind.u32 (a.getD 6 0) (bits BinOp.and IntKind.u32 (a.getD 4 0) (bits BinOp.xor IntKind.u32 (a.getD 5 0) (a.getD 6 0)))) + n) + c.getD (b.tmod 16).toNat 0)))).set 0 (IntKind.u32.wrap (IntKind.u32.wrap (IntKind.u32.wrap (IntKind.u32.wrap (IntKind.u32.wrap (a.getD 7 0 + m) + bits BinOp.xor IntKind.u32 (a.getD 6 0) (bits BinOp.and IntKind.u32 (a.getD 4 0) (bits BinOp.xor IntKind.u32 (a.getD 5 0) (a.getD 6 0)))) + n) + c.getD (b.tmod 16).toNat 0) + IntKind.u32.wrap (p + bits BinOp.or IntKind.u32 (bits BinOp.and IntKind.u32 (a.getD 0 0) (a.getD 1 0)) (bits BinOp.and IntKind.u32 (a.getD 2 0) (bits BinOp.or IntKind.u32 (a.getD 0 0) (a.getD 1 0)))))))) none) none) none) none) none) none) none) none) none) none) (o j b c k l d e f g h i a)
abbrev bwc := Int × Int × (List Int) × (List Int) × (List Int) × Int × Int × (List Int) × (List Int) × (List Int) × (List Int) × (List Int)
abbrev b49 := bwc
def b04 {ρ : Type} (f : bwc → Option ρ) : b2x ρ := fun l m a b c d e g h i j k => f (l, m, a, b, c, d, e, g, h, i, j, k)
def bv1 {ρ : Type} : aeb bwc b49 ρ := fun (k, l, a, b, c, d, e, f, g, h, i, j) next ex => wu k l a b c d e f g h i j (b04 next) (b04 ex)
def b4x {ρ : Type} := shut (lp (bv1 (ρ := ρ)))
theorem b56 {ρ : Type} : b4x (ρ := ρ) = lp bv1 := au _
def bx8 {ρ : Type} (f : aec bwc b49 ρ) (l m : Int) (a b c : List Int) (d e : Int) (g h i j k : List Int) (n : b2x ρ) : Option ρ := f (l, m, a, b, c, d, e, g, h, i, j, k) (fun (l, m, a, b, c, d, e, g, h, i, j, k) => n l m a b c d e g h i j k)
def abt {ρ : Type} := bx8 (lp (bv1 (ρ := ρ)))
def qp {ρ : Type} := bx8 (b4x (ρ := ρ))
theorem afn {ρ : Type} : qp (ρ := ρ) = abt := congrArg bx8 b56
abbrev bz7 (ρ : Type) := Int → (List Int) → (List Int) → (List Int) → Option ρ
def xq {ρ : Type} (a : Int) (b d c : List Int) (nx e : bz7 ρ) : Option ρ := br (decide (a < 8)) (br (decide (0 ≤ a)) (br (decide (a < (↑8 : Int))) (br (decide (0 ≤ a)) (br (decide (a < (↑8 : Int))) (br (decide (0 ≤ a)) (br (decide (a < (↑8 : Int))) (nx (IntKind.i64.wrap (a + 1)) b d (c.set a.toNat (IntKind.u32.wrap (c.getD a.toNat 0 + b.getD a.toNat 0)))) none) none) none) none) none) none) (e a b d c)
abbrev bxc := Int × (List Int) × (List Int) × (List Int)
abbrev b0p := bxc
def b4d {ρ : Type} (f : bxc → Option ρ) : bz7 ρ := fun a b c d => f (a, b, c, d)
def bwq {ρ : Type} : aeb bxc b0p ρ := fun (a, b, c, d) next ex => xq a b c d (b4d next) (b4d ex)
def bzs {ρ : Type} := shut (lp (bwq (ρ := ρ)))
theorem b50 {ρ : Type} : bzs (ρ := ρ) = lp bwq := au _
def bys {ρ : Type} (f : aec bxc b0p ρ) (a : Int) (b c d : List Int) (e : bz7 ρ) : Option ρ := f (a, b, c, d) (fun (a, b, c, d) => e a b c d)
def abl {ρ : Type} := bys (lp (bwq (ρ := ρ)))
def qw {ρ : Type} := bys (bzs (ρ := ρ))
theorem afi {ρ : Type} : qw (ρ := ρ) = abl := congrArg bys b50
def wo {ρ : Type} (a f : Int) (b c d e p q : List Int) (k : (List Int) → Option ρ) : Option ρ := yt q (IntKind.i64.wrap (a.tdiv 8)) 0 a f b c d e p [0, 0, 0, 0, 0, 0, 0, 0] [0, 0, 0, 0, 0, 0, 0, 0, 0, 0, 0, 0, 0, 0, 0, 0] fun N O Q r g s t u v h i j => qp g 0 j i h r g s t u v h fun w y z l m A B C F G H n => qw 0 m l n fun I J M o => k o
def ko {ρ : Type} := shut (wo (ρ := ρ))
theorem aco {ρ : Type} (f : Int) (e : Int) (a : List Int) (b : List Int) (c : List Int) (d : List Int) (g : List Int) (h : List Int) (k : (List Int) → Option ρ) : ko f e a b c d g h k = wo f e a b c d g h k := by unfold ko; rw [au]

abbrev bz5 (ρ : Type) := (List Int) → (List Int) → Int → Int → Int → (List Int) → (List Int) → (List Int) → (List Int) → (List Int) → (List Int) → (List Int) → Option ρ
def abn {ρ : Type} (l b : List Int) (a c d : Int) (e f g h i j k : List Int) (nx m : bz5 ρ) : Option ρ := br (decide (a < 8)) (br (decide (0 ≤ a)) (br (decide (a < (↑8 : Int))) (br (decide (0 ≤ a)) (br (decide (a < (↑8 : Int))) (nx l b (IntKind.i64.wrap (a + 1)) c d e f g h i j (k.set a.toNat (IntKind.u32.wrap (b.getD a.toNat 0)))) none) none) none) none) (m l b a c d e f g h i j k)
abbrev btn := (List Int) × (List Int) × Int × Int × Int × (List Int) × (List Int) × (List Int) × (List Int) × (List Int) × (List Int) × (List Int)
abbrev b2z := btn
def b2u {ρ : Type} (f : btn → Option ρ) : bz5 ρ := fun m k l a b c d e g h i j => f (m, k, l, a, b, c, d, e, g, h, i, j)
def buv {ρ : Type} : aeb btn b2z ρ := fun (l, j, k, a, b, c, d, e, f, g, h, i) next ex => abn l j k a b c d e f g h i (b2u next) (b2u ex)
def b27 {ρ : Type} := shut (lp (buv (ρ := ρ)))
theorem b6b {ρ : Type} : b27 (ρ := ρ) = lp buv := au _
def byi {ρ : Type} (f : aec btn b2z ρ) (m k : List Int) (l a b : Int) (c d e g h i j : List Int) (n : bz5 ρ) : Option ρ := f (m, k, l, a, b, c, d, e, g, h, i, j) (fun (m, k, l, a, b, c, d, e, g, h, i, j) => n m k l a b c d e g h i j)
def aff {ρ : Type} := byi (lp (buv (ρ := ρ)))
def abg {ρ : Type} := byi (b27 (ρ := ρ))
theorem aiy {ρ : Type} : abg (ρ := ρ) = aff := congrArg byi b6b
abbrev b3p (ρ : Type) := (List Int) → Int → (List Int) → (List Int) → (List Int) → Int → Int → (List Int) → (List Int) → (List Int) → (List Int) → Option ρ
def abw {ρ : Type} (b : List Int) (a : Int) (i j k : List Int) (c d : Int) (e f g h : List Int) (nx l : b3p ρ) : Option ρ := br (decide ((↑b.length : Int) ≥ a)) (br (decide (0 ≤ a)) (br (decide (a ≤ (↑b.length : Int))) (ko c d e f g h i (List.drop 0 (List.take a.toNat b)) fun m => br (decide (0 ≤ a)) (br (decide (a ≤ (↑b.length : Int))) (br (decide ((↑b.length : Int) ≤ (↑b.length : Int))) (nx (List.drop a.toNat (List.take (↑b.length : Int).toNat b)) a m j k c d e f g h) none) none) none) none) none) (l b a i j k c d e f g h)
abbrev btu := (List Int) × Int × (List Int) × (List Int) × (List Int) × Int × Int × (List Int) × (List Int) × (List Int) × (List Int)
abbrev b1z := btu
def b2f {ρ : Type} (f : btu → Option ρ) : b3p ρ := fun l k a b c d e g h i j => f (l, k, a, b, c, d, e, g, h, i, j)
def bum {ρ : Type} : aeb btu b1z ρ := fun (k, j, a, b, c, d, e, f, g, h, i) next ex => abw k j a b c d e f g h i (b2f next) (b2f ex)
def b33 {ρ : Type} := shut (lp (bum (ρ := ρ)))
theorem b6n {ρ : Type} : b33 (ρ := ρ) = lp bum := au _
def bxx {ρ : Type} (f : aec btu b1z ρ) (l : List Int) (k : Int) (a b c : List Int) (d e : Int) (g h i j : List Int) (m : b3p ρ) : Option ρ := f (l, k, a, b, c, d, e, g, h, i, j) (fun (l, k, a, b, c, d, e, g, h, i, j) => m l k a b c d e g h i j)
def ae8 {ρ : Type} := bxx (lp (bum (ρ := ρ)))
def abm {ρ : Type} := bxx (b33 (ρ := ρ))
theorem ai6 {ρ : Type} : abm (ρ := ρ) = ae8 := congrArg bxx b6n
abbrev b1c (ρ : Type) := (List Int) → (List Int) → Int → (List Int) → (List Int) → Option ρ
def aax {ρ : Type} (e b : List Int) (a : Int) (c d : List Int) (nx f : b1c ρ) : Option ρ := br (decide (a < 8)) (br (decide (0 ≤ a)) (br (decide (a < (↑8 : Int))) (br (decide (0 ≤ a)) (br (decide (a < (↑8 : Int))) (nx e b (IntKind.i64.wrap (a + 1)) (c.set a.toNat (IntKind.u64.wrap (b.getD a.toNat 0))) d) none) none) none) none) (f e b a c d)
abbrev bwu := (List Int) × (List Int) × Int × (List Int) × (List Int)
abbrev b4q := bwu
def b3z {ρ : Type} (f : bwu → Option ρ) : b1c ρ := fun e c d a b => f (e, c, d, a, b)
def bu3 {ρ : Type} : aeb bwu b4q ρ := fun (e, c, d, a, b) next ex => aax e c d a b (b3z next) (b3z ex)
def b4p {ρ : Type} := shut (lp (bu3 (ρ := ρ)))
theorem b68 {ρ : Type} : b4p (ρ := ρ) = lp bu3 := au _
def byn {ρ : Type} (f : aec bwu b4q ρ) (e c : List Int) (d : Int) (a b : List Int) (g : b1c ρ) : Option ρ := f (e, c, d, a, b) (fun (e, c, d, a, b) => g e c d a b)
def aeh {ρ : Type} := byn (lp (bu3 (ρ := ρ)))
def aa4 {ρ : Type} := byn (b4p (ρ := ρ))
theorem aie {ρ : Type} : aa4 (ρ := ρ) = aeh := congrArg byn b68
def aa2 {ρ : Type} (f e : Int) (a b c d g r : List Int) (k : (List Int) → (List Int) → Option ρ) : Option ρ := abg r g 0 f e a b c d g [0, 0, 0, 0, 0, 0, 0, 0] [0, 0, 0, 0, 0, 0, 0, 0] fun s O Q h t u v w y z i j => abm s (IntKind.i64.wrap (h * 2)) j i z h t u v w y fun l A m n o B C F G H I => aa4 l m 0 o n fun p J M q N => k q p
def oq {ρ : Type} := shut (aa2 (ρ := ρ))
theorem ae9 {ρ : Type} (f : Int) (e : Int) (a : List Int) (b : List Int) (c : List Int) (d : List Int) (g : List Int) (h : List Int) (k : (List Int) → (List Int) → Option ρ) : oq f e a b c d g h k = aa2 f e a b c d g h k := by unfold oq; rw [au]

def aqw {ρ : Type} (k : Int → Int → (List Int) → (List Int) → (List Int) → (List Int) → Option ρ) : Option ρ := k 32 64 [7, 18, 3] [17, 19, 10] [2, 13, 22] [6, 11, 25]
def abp {ρ : Type} := shut (aqw (ρ := ρ))
theorem atn {ρ : Type}  (k : Int → Int → (List Int) → (List Int) → (List Int) → (List Int) → Option ρ) : abp  k = aqw  k := by unfold abp; rw [au]

def agp {ρ : Type} (a : Int) (k : Int → Option ρ) : Option ρ := br (decide (0 ≤ a)) (br (decide (a < (↑80 : Int))) (k (roots512.getD a.toNat 0)) none) none
def nk {ρ : Type} := shut (agp (ρ := ρ))
theorem amy {ρ : Type} (a : Int) (k : Int → Option ρ) : nk a k = agp a k := by unfold nk; rw [au]

def uz {ρ : Type} (a g : Int) (b c d e : List Int) (h f : Int) (k : Int → Option ρ) : Option ρ := br (decide (f < 0)) none (br (decide (IntKind.i64.wrap (a - f) < 0)) none (k (bits BinOp.or IntKind.u64 (h.fdiv (2 ^ min f.toNat 64)) (IntKind.u64.wrap (h * 2 ^ min (IntKind.i64.wrap (a - f)).toNat 64)))))
def ay {ρ : Type} := shut (uz (ρ := ρ))
theorem aa6 {ρ : Type} (f : Int) (e : Int) (a : List Int) (b : List Int) (c : List Int) (d : List Int) (g : Int) (h : Int) (k : Int → Option ρ) : ay f e a b c d g h k = uz f e a b c d g h k := by unfold ay; rw [au]

def rz {ρ : Type} (f e : Int) (a b c d : List Int) (g h : Int) (k : Int → Option ρ) : Option ρ := br (decide (h = (↑0 : Int))) (ay f e a b c d g (a.getD 0 0) fun l => ay f e a b c d g (a.getD 1 0) fun m => ay f e a b c d g (a.getD 2 0) fun n => k (bits BinOp.xor IntKind.u64 (bits BinOp.xor IntKind.u64 l m) n)) (br (decide (h = (↑1 : Int))) (ay f e a b c d g (b.getD 0 0) fun o => ay f e a b c d g (b.getD 1 0) fun p => ay f e a b c d g (b.getD 2 0) fun q => k (bits BinOp.xor IntKind.u64 (bits BinOp.xor IntKind.u64 o p) q)) (br (decide (h = (↑2 : Int))) (ay f e a b c d g (c.getD 0 0) fun r => ay f e a b c d g (c.getD 1 0) fun s => ay f e a b c d g (c.getD 2 0) fun t => k (bits BinOp.xor IntKind.u64 (bits BinOp.xor IntKind.u64 r s) t)) (br (decide (h = (↑3 : Int))) (ay f e a b c d g (d.getD 0 0) fun u => ay f e a b c d g (d.getD 1 0) fun i => ay f e a b c d g (d.getD 2 0) fun j => k (bits BinOp.xor IntKind.u64 (bits BinOp.xor IntKind.u64 u i) j)) none)))
def jf {ρ : Type} := shut (rz (ρ := ρ))
theorem ze {ρ : Type} (f : Int) (e : Int) (a : List Int) (b : List Int) (c : List Int) (d : List Int) (g : Int) (h : Int) (k : Int → Option ρ) : jf f e a b c d g h k = rz f e a b c d g h k := by unfold jf; rw [au]

def tu {ρ : Type} (f e : Int) (a b c d : List Int) (g h : Int) (k : Int → Option ρ) : Option ρ := br (decide (h = (↑0 : Int))) (ay f e a b c d g (a.getD 0 (0 : Int)) fun i => ay f e a b c d g (a.getD 1 (0 : Int)) fun j => br (decide (a.getD 2 (0 : Int) < (0 : Int))) none (k (bits BinOp.xor IntKind.u64 (bits BinOp.xor IntKind.u64 i j) (g.fdiv ((2 : Int) ^ min (a.getD 2 (0 : Int)).toNat 64))))) (br (decide (h = (↑1 : Int))) (ay f e a b c d g (b.getD 0 (0 : Int)) fun l => ay f e a b c d g (b.getD 1 (0 : Int)) fun m => br (decide (b.getD 2 (0 : Int) < (0 : Int))) none (k (bits BinOp.xor IntKind.u64 (bits BinOp.xor IntKind.u64 l m) (g.fdiv ((2 : Int) ^ min (b.getD 2 (0 : Int)).toNat 64))))) (br (decide (h = (↑2 : Int))) (ay f e a b c d g (c.getD 0 (0 : Int)) fun n => ay f e a b c d g (c.getD 1 (0 : Int)) fun o => br (decide (c.getD 2 (0 : Int) < (0 : Int))) none (k (bits BinOp.xor IntKind.u64 (bits BinOp.xor IntKind.u64 n o) (g.fdiv ((2 : Int) ^ min (c.getD 2 (0 : Int)).toNat 64))))) (br (decide (h = (↑3 : Int))) (ay f e a b c d g (d.getD 0 (0 : Int)) fun p => ay f e a b c d g (d.getD 1 (0 : Int)) fun q => br (decide (d.getD 2 (0 : Int) < (0 : Int))) none (k (bits BinOp.xor IntKind.u64 (bits BinOp.xor IntKind.u64 p q) (g.fdiv ((2 : Int) ^ min (d.getD 2 (0 : Int)).toNat 64))))) none)))
def jm {ρ : Type} := shut (tu (ρ := ρ))
theorem zx {ρ : Type} (f : Int) (e : Int) (a : List Int) (b : List Int) (c : List Int) (d : List Int) (g : Int) (h : Int) (k : Int → Option ρ) : jm f e a b c d g h k = tu f e a b c d g h k := by unfold jm; rw [au]

abbrev b2b (ρ : Type) := (List Int) → Int → Int → Int → Int → (List Int) → (List Int) → (List Int) → (List Int) → (List Int) → (List Int) → (List Int) → Option ρ
def yj {ρ : Type} (l : List Int) (b a c d : Int) (e f g h i j k : List Int) (nx m : b2b ρ) : Option ρ := br (decide (a < 16)) (br (decide (0 ≤ IntKind.i64.wrap (a * b))) (br (decide (IntKind.i64.wrap (a * b) ≤ IntKind.i64.wrap (IntKind.i64.wrap (a + 1) * b))) (br (decide (IntKind.i64.wrap (IntKind.i64.wrap (a + 1) * b) ≤ (↑l.length : Int))) (jo (List.drop (IntKind.i64.wrap (a * b)).toNat (List.take (IntKind.i64.wrap (IntKind.i64.wrap (a + 1) * b)).toNat l)) fun n => br (decide (0 ≤ a)) (br (decide (a < (↑16 : Int))) (nx l b (IntKind.i64.wrap (a + 1)) c d e f g h i j (k.set a.toNat n)) none) none) none) none) none) (m l b a c d e f g h i j k)
abbrev bvh := (List Int) × Int × Int × Int × Int × (List Int) × (List Int) × (List Int) × (List Int) × (List Int) × (List Int) × (List Int)
abbrev b3a := bvh
def b0s {ρ : Type} (f : bvh → Option ρ) : b2b ρ := fun l m k a b c d e g h i j => f (l, m, k, a, b, c, d, e, g, h, i, j)
def bxf {ρ : Type} : aeb bvh b3a ρ := fun (k, l, j, a, b, c, d, e, f, g, h, i) next ex => yj k l j a b c d e f g h i (b0s next) (b0s ex)
def bzj {ρ : Type} := shut (lp (bxf (ρ := ρ)))
theorem b7c {ρ : Type} : bzj (ρ := ρ) = lp bxf := au _
def bxl {ρ : Type} (f : aec bvh b3a ρ) (l : List Int) (m k a b : Int) (c d e g h i j : List Int) (n : b2b ρ) : Option ρ := f (l, m, k, a, b, c, d, e, g, h, i, j) (fun (l, m, k, a, b, c, d, e, g, h, i, j) => n l m k a b c d e g h i j)
def acn {ρ : Type} := bxl (lp (bxf (ρ := ρ)))
def yu {ρ : Type} := bxl (bzj (ρ := ρ))
theorem afz {ρ : Type} : yu (ρ := ρ) = acn := congrArg bxl b7c
abbrev bzk (ρ : Type) := Int → Int → (List Int) → (List Int) → (List Int) → Int → Int → (List Int) → (List Int) → (List Int) → (List Int) → (List Int) → Option ρ
def xg {ρ : Type} (j b : Int) (c k l : List Int) (d e : Int) (f g h i a : List Int) (nx o : bzk ρ) : Option ρ := br (decide (b < j)) (br (decide (0 ≤ b.tmod 16)) (br (decide (b.tmod 16 < (↑16 : Int))) (jf d e f g h i (a.getD 4 0) 3 fun m => nk b fun n => jf d e f g h i (a.getD 0 0) 2 fun p => br (decide (0 ≤ (IntKind.i64.wrap (b + 1)).tmod 16)) (br (decide ((IntKind.i64.wrap (b + 1)).tmod 16 < (↑16 : Int))) (jm d e f g h i (c.getD ((IntKind.i64.wrap (b + 1)).tmod 16).toNat 0) 0 fun q => br (decide (0 ≤ (IntKind.i64.wrap (b + 9)).tmod 16)) (br (decide ((IntKind.i64.wrap (b + 9)).tmod 16 < (↑16 : Int))) (br (decide (0 ≤ (IntKind.i64.wrap (b + 14)).tmod 16)) (br (decide ((IntKind.i64.wrap (b + 14)).tmod 16 < (↑16 : Int))) (jm d e f g h i (c.getD ((IntKind.i64.wrap (b + 14)).tmod 16).toNat 0) 1 fun r => br (decide (0 ≤ b.tmod 16)) (br (decide (b.tmod 16 < (↑16 : Int))) (nx j (IntKind.i64.wrap (b + 1)) (c.set (b.tmod 16).toNat (IntKind.u64.wrap (IntKind.u64.wrap (IntKind.u64.wrap (c.getD (b.tmod 16).toNat 0 + q) + c.getD ((IntKind.i64.wrap (b + 9)).tmod 16).toNat 0) + r))) k l d e f g h i ((((List.take 1 a).append (List.take 7 (List.take 7 (List.drop 0 a)) ++ List.drop (1 + min 7 (List.take 7 (List.drop 0 a)).length) a)).set 4 (IntKind.u64.wrap (((List.take 1 a).append (List.take 7 (List.take 7 (List.drop 0 a)) ++ List.drop (1 + min 7 (List.take 7 (List.drop 0 a)).length) a)).getD 4 0 + IntKind.u64.wrap (IntKind.u64.wrap (IntKind.u64.wrap (IntKind.u64.wrap (a.getD 7 0 + m) + bits BinOp.xor IntKind.u64 (a.getD 6 0) (bits BinOp.and IntKind.u64 (a.getD 4 0) (bits BinOp.xor IntKind.u64 (a.getD 5 0) (a.getD 6 0)))) + n) + c.getD (b.tmod 16).toNat 0)))).set 0 (IntKind.u64.wrap (IntKind.u64.wrap (IntKind.u64.wrap (IntKind.u64.wrap (IntKind.u64.wrap (a.getD 7 0 + m) + bits BinOp.xor IntKind.u64 (a.getD 6 0) (bits BinOp.and IntKind.u64 (a.getD 4 0) (bits BinOp.xor IntKind.u64 (a.getD 5 0) (a.getD 6 0)))) + n) + c.getD (b.tmod 16).toNat 0) + IntKind.u64.wrap (p + bits BinOp.or IntKind.u64 (bits BinOp.and IntKind.u64 (a.getD 0 0) (a.getD 1 0)) (bits BinOp.and IntKind.u64 (a.getD 2 0) (bits BinOp.or IntKind.u64 (a.getD 0 0) (a.getD 1 0)))))))) none) none) none) none) none) none) none) none) none) none) (o j b c k l d e f g h i a)
abbrev bvp := Int × Int × (List Int) × (List Int) × (List Int) × Int × Int × (List Int) × (List Int) × (List Int) × (List Int) × (List Int)
abbrev b45 := bvp
def b07 {ρ : Type} (f : bvp → Option ρ) : bzk ρ := fun l m a b c d e g h i j k => f (l, m, a, b, c, d, e, g, h, i, j, k)
def bt1 {ρ : Type} : aeb bvp b45 ρ := fun (k, l, a, b, c, d, e, f, g, h, i, j) next ex => xg k l a b c d e f g h i j (b07 next) (b07 ex)
def b2w {ρ : Type} := shut (lp (bt1 (ρ := ρ)))
theorem b63 {ρ : Type} : b2w (ρ := ρ) = lp bt1 := au _
def bxs {ρ : Type} (f : aec bvp b45 ρ) (l m : Int) (a b c : List Int) (d e : Int) (g h i j k : List Int) (n : bzk ρ) : Option ρ := f (l, m, a, b, c, d, e, g, h, i, j, k) (fun (l, m, a, b, c, d, e, g, h, i, j, k) => n l m a b c d e g h i j k)
def abe {ρ : Type} := bxs (lp (bt1 (ρ := ρ)))
def qo {ρ : Type} := bxs (b2w (ρ := ρ))
theorem afl {ρ : Type} : qo (ρ := ρ) = abe := congrArg bxs b63
abbrev b1q (ρ : Type) := Int → (List Int) → (List Int) → (List Int) → Option ρ
def xk {ρ : Type} (a : Int) (b d c : List Int) (nx e : b1q ρ) : Option ρ := br (decide (a < 8)) (br (decide (0 ≤ a)) (br (decide (a < (↑8 : Int))) (br (decide (0 ≤ a)) (br (decide (a < (↑8 : Int))) (br (decide (0 ≤ a)) (br (decide (a < (↑8 : Int))) (nx (IntKind.i64.wrap (a + 1)) b d (c.set a.toNat (IntKind.u64.wrap (c.getD a.toNat 0 + b.getD a.toNat 0)))) none) none) none) none) none) none) (e a b d c)
abbrev bvv := Int × (List Int) × (List Int) × (List Int)
abbrev b0n := bvv
def b36 {ρ : Type} (f : bvv → Option ρ) : b1q ρ := fun a b c d => f (a, b, c, d)
def bwy {ρ : Type} : aeb bvv b0n ρ := fun (a, b, c, d) next ex => xk a b c d (b36 next) (b36 ex)
def b2q {ρ : Type} := shut (lp (bwy (ρ := ρ)))
theorem b6s {ρ : Type} : b2q (ρ := ρ) = lp bwy := au _
def bx7 {ρ : Type} (f : aec bvv b0n ρ) (a : Int) (b c d : List Int) (e : b1q ρ) : Option ρ := f (a, b, c, d) (fun (a, b, c, d) => e a b c d)
def abq {ρ : Type} := bx7 (lp (bwy (ρ := ρ)))
def qg {ρ : Type} := bx7 (b2q (ρ := ρ))
theorem afb {ρ : Type} : qg (ρ := ρ) = abq := congrArg bx7 b6s
def xw {ρ : Type} (a f : Int) (b c d e p q : List Int) (k : (List Int) → Option ρ) : Option ρ := yu q (IntKind.i64.wrap (a.tdiv 8)) 0 a f b c d e p [0, 0, 0, 0, 0, 0, 0, 0] [0, 0, 0, 0, 0, 0, 0, 0, 0, 0, 0, 0, 0, 0, 0, 0] fun N O Q r g s t u v h i j => qo g 0 j i h r g s t u v h fun w y z l m A B C F G H n => qg 0 m l n fun I J M o => k o
def j6 {ρ : Type} := shut (xw (ρ := ρ))
theorem aci {ρ : Type} (f : Int) (e : Int) (a : List Int) (b : List Int) (c : List Int) (d : List Int) (g : List Int) (h : List Int) (k : (List Int) → Option ρ) : j6 f e a b c d g h k = xw f e a b c d g h k := by unfold j6; rw [au]

abbrev b40 (ρ : Type) := (List Int) → (List Int) → Int → Int → Int → (List Int) → (List Int) → (List Int) → (List Int) → (List Int) → (List Int) → (List Int) → Option ρ
def abb {ρ : Type} (l b : List Int) (a c d : Int) (e f g h i j k : List Int) (nx m : b40 ρ) : Option ρ := br (decide (a < 8)) (br (decide (0 ≤ a)) (br (decide (a < (↑8 : Int))) (br (decide (0 ≤ a)) (br (decide (a < (↑8 : Int))) (nx l b (IntKind.i64.wrap (a + 1)) c d e f g h i j (k.set a.toNat (b.getD a.toNat 0))) none) none) none) none) (m l b a c d e f g h i j k)
abbrev bul := (List Int) × (List Int) × Int × Int × Int × (List Int) × (List Int) × (List Int) × (List Int) × (List Int) × (List Int) × (List Int)
abbrev b5b := bul
def b43 {ρ : Type} (f : bul → Option ρ) : b40 ρ := fun m k l a b c d e g h i j => f (m, k, l, a, b, c, d, e, g, h, i, j)
def bwv {ρ : Type} : aeb bul b5b ρ := fun (l, j, k, a, b, c, d, e, f, g, h, i) next ex => abb l j k a b c d e f g h i (b43 next) (b43 ex)
def b2j {ρ : Type} := shut (lp (bwv (ρ := ρ)))
theorem b6i {ρ : Type} : b2j (ρ := ρ) = lp bwv := au _
def byu {ρ : Type} (f : aec bul b5b ρ) (m k : List Int) (l a b : Int) (c d e g h i j : List Int) (n : b40 ρ) : Option ρ := f (m, k, l, a, b, c, d, e, g, h, i, j) (fun (m, k, l, a, b, c, d, e, g, h, i, j) => n m k l a b c d e g h i j)
def afj {ρ : Type} := byu (lp (bwv (ρ := ρ)))
def aby {ρ : Type} := byu (b2j (ρ := ρ))
theorem ai0 {ρ : Type} : aby (ρ := ρ) = afj := congrArg byu b6i
abbrev b25 (ρ : Type) := (List Int) → Int → (List Int) → (List Int) → (List Int) → Int → Int → (List Int) → (List Int) → (List Int) → (List Int) → Option ρ
def abr {ρ : Type} (b : List Int) (a : Int) (i j k : List Int) (c d : Int) (e f g h : List Int) (nx l : b25 ρ) : Option ρ := br (decide ((↑b.length : Int) ≥ a)) (br (decide (0 ≤ a)) (br (decide (a ≤ (↑b.length : Int))) (j6 c d e f g h i (List.drop 0 (List.take a.toNat b)) fun m => br (decide (0 ≤ a)) (br (decide (a ≤ (↑b.length : Int))) (br (decide ((↑b.length : Int) ≤ (↑b.length : Int))) (nx (List.drop a.toNat (List.take (↑b.length : Int).toNat b)) a m j k c d e f g h) none) none) none) none) none) (l b a i j k c d e f g h)
abbrev bw2 := (List Int) × Int × (List Int) × (List Int) × (List Int) × Int × Int × (List Int) × (List Int) × (List Int) × (List Int)
abbrev b5o := bw2
def b4t {ρ : Type} (f : bw2 → Option ρ) : b25 ρ := fun l k a b c d e g h i j => f (l, k, a, b, c, d, e, g, h, i, j)
def bu8 {ρ : Type} : aeb bw2 b5o ρ := fun (k, j, a, b, c, d, e, f, g, h, i) next ex => abr k j a b c d e f g h i (b4t next) (b4t ex)
def b47 {ρ : Type} := shut (lp (bu8 (ρ := ρ)))
theorem b5z {ρ : Type} : b47 (ρ := ρ) = lp bu8 := au _
def byq {ρ : Type} (f : aec bw2 b5o ρ) (l : List Int) (k : Int) (a b c : List Int) (d e : Int) (g h i j : List Int) (m : b25 ρ) : Option ρ := f (l, k, a, b, c, d, e, g, h, i, j) (fun (l, k, a, b, c, d, e, g, h, i, j) => m l k a b c d e g h i j)
def afd {ρ : Type} := byq (lp (bu8 (ρ := ρ)))
def abx {ρ : Type} := byq (b47 (ρ := ρ))
theorem aix {ρ : Type} : abx (ρ := ρ) = afd := congrArg byq b5z
abbrev b22 (ρ : Type) := (List Int) → (List Int) → Int → (List Int) → (List Int) → Option ρ
def aa1 {ρ : Type} (e b : List Int) (a : Int) (c d : List Int) (nx f : b22 ρ) : Option ρ := br (decide (a < 8)) (br (decide (0 ≤ a)) (br (decide (a < (↑8 : Int))) (br (decide (0 ≤ a)) (br (decide (a < (↑8 : Int))) (nx e b (IntKind.i64.wrap (a + 1)) (c.set a.toNat (b.getD a.toNat 0)) d) none) none) none) none) (f e b a c d)
abbrev bv4 := (List Int) × (List Int) × Int × (List Int) × (List Int)
abbrev b3n := bv4
def b5j {ρ : Type} (f : bv4 → Option ρ) : b22 ρ := fun e c d a b => f (e, c, d, a, b)
def buo {ρ : Type} : aeb bv4 b3n ρ := fun (e, c, d, a, b) next ex => aa1 e c d a b (b5j next) (b5j ex)
def b1b {ρ : Type} := shut (lp (buo (ρ := ρ)))
theorem b6z {ρ : Type} : b1b (ρ := ρ) = lp buo := au _
def byc {ρ : Type} (f : aec bv4 b3n ρ) (e c : List Int) (d : Int) (a b : List Int) (g : b22 ρ) : Option ρ := f (e, c, d, a, b) (fun (e, c, d, a, b) => g e c d a b)
def aei {ρ : Type} := byc (lp (buo (ρ := ρ)))
def aay {ρ : Type} := byc (b1b (ρ := ρ))
theorem aia {ρ : Type} : aay (ρ := ρ) = aei := congrArg byc b6z
def aaz {ρ : Type} (f e : Int) (a b c d g r : List Int) (k : (List Int) → (List Int) → Option ρ) : Option ρ := aby r g 0 f e a b c d g [0, 0, 0, 0, 0, 0, 0, 0] [0, 0, 0, 0, 0, 0, 0, 0] fun s O Q h t u v w y z i j => abx s (IntKind.i64.wrap (h * 2)) j i z h t u v w y fun l A m n o B C F G H I => aay l m 0 o n fun p J M q N => k q p
def oh {ρ : Type} := shut (aaz (ρ := ρ))
theorem afp {ρ : Type} (f : Int) (e : Int) (a : List Int) (b : List Int) (c : List Int) (d : List Int) (g : List Int) (h : List Int) (k : (List Int) → (List Int) → Option ρ) : oh f e a b c d g h k = aaz f e a b c d g h k := by unfold oh; rw [au]

def ap4 {ρ : Type} (k : Int → Int → (List Int) → (List Int) → (List Int) → (List Int) → Option ρ) : Option ρ := k 64 80 [1, 8, 7] [19, 61, 6] [28, 34, 39] [14, 18, 41]
def abj {ρ : Type} := shut (ap4 (ρ := ρ))
theorem as0 {ρ : Type}  (k : Int → Int → (List Int) → (List Int) → (List Int) → (List Int) → Option ρ) : abj  k = ap4  k := by unfold abj; rw [au]

def og {ρ : Type} (a : List Int) (k : (List Int) → Option ρ) : Option ρ := br (decide (a.length * 1 ≤ 140737488355328)) (k a) none

def aoe {ρ : Type} (a : Int) (b d : List Int) (c : Int) (e : List Int) (k : Int → (List Int) → (List Int) → Int → Option ρ) : Option ρ := iy [d, e] fun f => br (a == 1) (abp fun q r s t u v => oq q r s t u v b f fun w y => og y fun z => k a w z (IntKind.u64.wrap (c + IntKind.u64.wrap (↑e.length : Int)))) (abj fun g h i j l m => oh g h i j l m b f fun n o => og o fun p => k a n p (IntKind.u64.wrap (c + IntKind.u64.wrap (↑e.length : Int))))
def sw {ρ : Type} := shut (aoe (ρ := ρ))
theorem azc {ρ : Type} (b : Int) (a : List Int) (c : List Int) (d : Int) (e : List Int) (k : Int → (List Int) → (List Int) → Int → Option ρ) : sw b a c d e k = aoe b a c d e k := by unfold sw; rw [au]

def aep {ρ : Type} (a : Int) (k : Int → Option ρ) : Option ρ := br (a == 1) (k 64) (k 128)
def qm {ρ : Type} := shut (aep (ρ := ρ))
theorem akf {ρ : Type} (a : Int) (k : Int → Option ρ) : qm a k = aep a k := by unfold qm; rw [au]

abbrev b0r (ρ : Type) := Int → (List Int) → Int → (List Int) → Int → (List Int) → Int → (List Int) → Option ρ
def anq {ρ : Type} (g : Int) (b : List Int) (a : Int) (c : List Int) (d : Int) (e : List Int) (f : Int) (h : List Int) (nx j : b0r ρ) : Option ρ := br (decide (a < 8)) (br (decide (0 ≤ a)) (br (decide (a < (↑8 : Int))) (gu (b.getD a.toNat 0) (IntKind.i64.wrap (g.tdiv 16)) fun i => br (decide ((c.length + i.length) * 1 ≤ 140737488355328)) (nx g b (IntKind.i64.wrap (a + 1)) (c ++ i) d e f h) none) none) none) (j g b a c d e f h)
abbrev bts := Int × (List Int) × Int × (List Int) × Int × (List Int) × Int × (List Int)
abbrev b08 := bts
def b1v {ρ : Type} (f : bts → Option ρ) : b0r ρ := fun h d e g a b c i => f (h, d, e, g, a, b, c, i)
def bvr {ρ : Type} : aeb bts b08 ρ := fun (g, d, e, f, a, b, c, h) next ex => anq g d e f a b c h (b1v next) (b1v ex)
def bza {ρ : Type} := shut (lp (bvr (ρ := ρ)))
theorem b7a {ρ : Type} : bza (ρ := ρ) = lp bvr := au _
def bxr {ρ : Type} (f : aec bts b08 ρ) (h : Int) (d : List Int) (e : Int) (g : List Int) (a : Int) (b : List Int) (c : Int) (i : List Int) (j : b0r ρ) : Option ρ := f (h, d, e, g, a, b, c, i) (fun (h, d, e, g, a, b, c, i) => j h d e g a b c i)
def awe {ρ : Type} := bxr (lp (bvr (ρ := ρ)))
def an6 {ρ : Type} := bxr (bza (ρ := ρ))
theorem ax7 {ρ : Type} : an6 (ρ := ρ) = awe := congrArg bxr b7a
def anz {ρ : Type} (c : Int) (e a : List Int) (d : Int) (k : (List Int) → Option ρ) : Option ρ := qm c fun b => br (decide (1 ≤ b)) (br (decide (b * (↑1 : Int) ≤ (↑140737488355328 : Int))) (br (decide (b = 0)) none (br (decide (0 ≤ IntKind.i64.wrap (IntKind.i64.wrap ((IntKind.i64.wrap (IntKind.i64.wrap (IntKind.i64.wrap (IntKind.i64.wrap (2 * b) - 1) - IntKind.i64.wrap (b.tdiv 8)) - (↑a.length : Int))).tmod b + IntKind.i64.wrap (b.tdiv 8)) - 8))) (br (decide ((1 + (IntKind.i64.wrap (IntKind.i64.wrap ((IntKind.i64.wrap (IntKind.i64.wrap (IntKind.i64.wrap (IntKind.i64.wrap (2 * b) - 1) - IntKind.i64.wrap (b.tdiv 8)) - (↑a.length : Int))).tmod b + IntKind.i64.wrap (b.tdiv 8)) - 8)).toNat) * 1 ≤ 140737488355328)) (gu (IntKind.u64.wrap (d * 2 ^ 3)) 8 fun g => br (decide ((((List.replicate (IntKind.i64.wrap (IntKind.i64.wrap ((IntKind.i64.wrap (IntKind.i64.wrap (IntKind.i64.wrap (IntKind.i64.wrap (2 * b) - 1) - IntKind.i64.wrap (b.tdiv 8)) - (↑a.length : Int))).tmod b + IntKind.i64.wrap (b.tdiv 8)) - 8)).toNat (0 : Int)).length.add 0).succ + g.length) * 1 ≤ 140737488355328)) (sw c e a d ((List.replicate 1 (0 : Int)).set 0 128 ++ List.replicate (IntKind.i64.wrap (IntKind.i64.wrap ((IntKind.i64.wrap (IntKind.i64.wrap (IntKind.i64.wrap (IntKind.i64.wrap (2 * b) - 1) - IntKind.i64.wrap (b.tdiv 8)) - (↑a.length : Int))).tmod b + IntKind.i64.wrap (b.tdiv 8)) - 8)).toNat (0 : Int) ++ g) fun j h l m => an6 b h 0 [] j h m l fun q r s f i n o p => br (i == 2) (br (decide (48 ≤ (↑f.length : Int))) (k (List.take ((48 : Int) - (0 : Int)).toNat f)) none) (k f)) none) none) none)) none) none
def aak {ρ : Type} := shut (anz (ρ := ρ))
theorem az8 {ρ : Type} (b : Int) (a : List Int) (c : List Int) (d : Int) (k : (List Int) → Option ρ) : aak b a c d k = anz b a c d k := by unfold aak; rw [au]

def anh {ρ : Type} (i : List Int) (j l : Int) (m : List (List Int)) (k : (List Int) → Option ρ) : Option ρ := aah 1 fun n o p q w => gu j 4 fun r => gu l 2 fun s => fq [i, r, s] fun t => sw n o p q t fun u v a b => fq m fun c => sw u v a b c fun d e f g => aak d e f g fun h => k h
def vg {ρ : Type} := shut (anh (ρ := ρ))
theorem azu {ρ : Type} (a : List Int) (b : Int) (c : Int) (d : List (List Int)) (k : (List Int) → Option ρ) : vg a b c d k = anh a b c d k := by unfold vg; rw [au]

def adz {ρ : Type} (o : Int) (d : List Int) (e a b c p : Int) (q : List (List Int)) (k : (List Int) → Option ρ) : Option ρ := aah 1 fun r s t u B => gu (IntKind.u64.wrap e) 4 fun v => gu p 2 fun w => fq [d, v, w] fun y => sw r s t u y fun z A f g => fq q fun h => sw z A f g h fun i j l m => aak i j l m fun n => k n
def iw {ρ : Type} := shut (adz (ρ := ρ))
theorem ai1 {ρ : Type} (e : Int) (d : List Int) (f : Int) (a : Int) (b : Int) (c : Int) (g : Int) (h : List (List Int)) (k : (List Int) → Option ρ) : iw e d f a b c g h k = adz e d f a b c g h k := by unfold iw; rw [au]

def aq3 {ρ : Type} (c : List Int) (a b : Int) (k : Bool → Option ρ) : Option ρ := br (decide (a ≥ 1)) (br (decide (a ≤ 24)) (br (decide (b ≥ 0)) (br (decide (a = 0)) none (k (decide (b ≤ IntKind.i64.wrap ((IntKind.i64.wrap ((↑c.length : Int) * 8)).tdiv a))))) (k false)) (k false)) (k false)
def abk {ρ : Type} := shut (aq3 (ρ := ρ))
theorem atv {ρ : Type} (a : List Int) (b : Int) (c : Int) (k : Bool → Option ρ) : abk a b c k = aq3 a b c k := by unfold abk; rw [au]

abbrev bz6 (ρ : Type) := (List Int) → Int → Int → Int → Int → Int → Int → (List Int) → Option ρ
def aib {ρ : Type} (a : List Int) (e g f b c d : Int) (h : List Int) (nx i : bz6 ρ) : Option ρ := br (decide (f < e)) (br (decide (0 < (↑a.length : Int))) (br (decide (1 ≤ (↑a.length : Int))) (br (decide ((↑a.length : Int) ≤ (↑a.length : Int))) (nx (List.drop 1 (List.take (↑a.length : Int).toNat a)) e (bits BinOp.or IntKind.u64 (IntKind.u64.wrap (g * 2 ^ 8)) (IntKind.u64.wrap (a.getD 0 0))) (IntKind.i64.wrap (f + 8)) b c d h) none) none) none) (i a e g f b c d h)
abbrev bt7 := (List Int) × Int × Int × Int × Int × Int × Int × (List Int)
abbrev b5n := bt7
def bz2 {ρ : Type} (f : bt7 → Option ρ) : bz6 ρ := fun d e g h a b c i => f (d, e, g, h, a, b, c, i)
def bt6 {ρ : Type} : aeb bt7 b5n ρ := fun (d, e, f, g, a, b, c, h) next ex => aib d e f g a b c h (bz2 next) (bz2 ex)
def b1k {ρ : Type} := shut (lp (bt6 (ρ := ρ)))
theorem b52 {ρ : Type} : b1k (ρ := ρ) = lp bt6 := au _
def bxk {ρ : Type} (f : aec bt7 b5n ρ) (d : List Int) (e g h a b c : Int) (i : List Int) (j : bz6 ρ) : Option ρ := f (d, e, g, h, a, b, c, i) (fun (d, e, g, h, a, b, c, i) => j d e g h a b c i)
def am0 {ρ : Type} := bxk (lp (bt6 (ρ := ρ)))
def am7 {ρ : Type} := bxk (b1k (ρ := ρ))
theorem asl {ρ : Type} : am7 (ρ := ρ) = am0 := congrArg bxk b52
abbrev b3u (ρ : Type) := (List Int) → Int → Int → Int → Int → Int → (List Int) → Option ρ
def aiu {ρ : Type} (f : List Int) (g h i c a : Int) (j : List Int) (nx m : b3u ρ) : Option ρ := br (decide (a < c)) (am7 f g h i a c a j fun n b k d e o p l => br (decide (IntKind.i64.wrap (d - b) < 0)) none (br (decide (b < 0)) none (br (decide (0 ≤ e)) (br (decide (e < (↑l.length : Int))) (nx n b k (IntKind.i64.wrap (d - b)) o (IntKind.i64.wrap (p + 1)) (l.set e.toNat (IntKind.u32.wrap (bits BinOp.and IntKind.u64 (k.fdiv (2 ^ min (IntKind.i64.wrap (d - b)).toNat 64)) (IntKind.u64.wrap (IntKind.u64.wrap (1 * 2 ^ min b.toNat 64) - 1)))))) none) none))) (m f g h i c a j)
abbrev buu := (List Int) × Int × Int × Int × Int × Int × (List Int)
abbrev b1s := buu
def b3t {ρ : Type} (f : buu → Option ρ) : b3u ρ := fun c d e g a b h => f (c, d, e, g, a, b, h)
def bwb {ρ : Type} : aeb buu b1s ρ := fun (c, d, e, f, a, b, g) next ex => aiu c d e f a b g (b3t next) (b3t ex)
def b30 {ρ : Type} := shut (lp (bwb (ρ := ρ)))
theorem b5q {ρ : Type} : b30 (ρ := ρ) = lp bwb := au _
def by1 {ρ : Type} (f : aec buu b1s ρ) (c : List Int) (d e g a b : Int) (h : List Int) (i : b3u ρ) : Option ρ := f (c, d, e, g, a, b, h) (fun (c, d, e, g, a, b, h) => i c d e g a b h)
def am2 {ρ : Type} := by1 (lp (bwb (ρ := ρ)))
def am6 {ρ : Type} := by1 (b30 (ρ := ρ))
theorem arn {ρ : Type} : am6 (ρ := ρ) = am2 := congrArg by1 b5q
def ahf {ρ : Type} (b : List Int) (c a : Int) (k : (List Int) → Option ρ) : Option ρ := abk b c a fun d => br (!d) (k []) (br (decide (0 ≤ a)) (br (decide (a ≤ a)) (br (decide (a * (↑4 : Int) ≤ (↑140737488355328 : Int))) (am6 b c 0 0 (↑(List.replicate a.toNat (0 : Int)).length : Int) 0 (List.replicate a.toNat (0 : Int)) fun f g h i j l e => k e) none) none) none)
def su {ρ : Type} := shut (ahf (ρ := ρ))
theorem amz {ρ : Type} (a : List Int) (b : Int) (c : Int) (k : (List Int) → Option ρ) : su a b c k = ahf a b c k := by unfold su; rw [au]

abbrev b39 (ρ : Type) := Int → Int → Int → Int → Int → Int → Int → (List Int) → Option ρ
def aha {ρ : Type} (g h b a c d e : Int) (f : List Int) (nx i : b39 ρ) : Option ρ := br (decide (a < b)) (br (decide (0 ≤ a)) (br (decide (a < (↑f.length : Int))) (nx g (IntKind.u64.wrap (h - IntKind.u64.wrap (f.getD a.toNat 0))) b (IntKind.i64.wrap (a + 1)) c d e f) none) none) (i g h b a c d e f)
abbrev bwa := Int × Int × Int × Int × Int × Int × Int × (List Int)
abbrev b1x := bwa
def b5l {ρ : Type} (f : bwa → Option ρ) : b39 ρ := fun g h d e a b c i => f (g, h, d, e, a, b, c, i)
def buh {ρ : Type} : aeb bwa b1x ρ := fun (f, g, d, e, a, b, c, h) next ex => aha f g d e a b c h (b5l next) (b5l ex)
def b1w {ρ : Type} := shut (lp (buh (ρ := ρ)))
theorem b6p {ρ : Type} : b1w (ρ := ρ) = lp buh := au _
def byo {ρ : Type} (f : aec bwa b1x ρ) (g h d e a b c : Int) (i : List Int) (j : b39 ρ) : Option ρ := f (g, h, d, e, a, b, c, i) (fun (g, h, d, e, a, b, c, i) => j g h d e a b c i)
def alf {ρ : Type} := byo (lp (buh (ρ := ρ)))
def ak9 {ρ : Type} := byo (b1w (ρ := ρ))
theorem apk {ρ : Type} : ak9 (ρ := ρ) = alf := congrArg byo b6p
def af0 {ρ : Type} (a : Int) (f : List Int) (k : (List Int) → Int → Option ρ) : Option ρ := ng a fun h i j l => br (!l) (k [] 9) (br ((↑f.length : Int) != 32) (k [] 14) (br (decide (a = 0)) none (su f a (IntKind.i64.wrap (Int.tdiv 256 a)) fun e => br (decide (a < 0)) none (ak9 a (IntKind.u64.wrap (IntKind.u64.wrap (↑e.length : Int) * IntKind.u64.wrap (IntKind.u64.wrap (1 * 2 ^ min a.toNat 64) - 1))) (↑e.length : Int) 0 h i j e fun m n q r o c p b => br (decide (c < 0)) none (gu (IntKind.u64.wrap (n * 2 ^ min c.toNat 64)) 2 fun g => su g m (IntKind.i64.wrap (o - (↑b.length : Int))) fun d => br (decide ((b.length + d.length) * 4 ≤ 140737488355328)) (k (b ++ d) 0) none)))))
def y7 {ρ : Type} := shut (af0 (ρ := ρ))
theorem al9 {ρ : Type} (a : Int) (b : List Int) (k : (List Int) → Int → Option ρ) : y7 a b k = af0 a b k := by unfold y7; rw [au]

def aal {ρ : Type} (d : Int) (e : List Int) (f a b c : Int) (g h : List Int) (k : (List Int) → Option ρ) : Option ρ := iw d e f a b c 33153 [g, h] fun i => y7 d i fun j l => k j
def jv {ρ : Type} := shut (aal (ρ := ρ))
theorem aee {ρ : Type} (e : Int) (d : List Int) (f : Int) (a : Int) (b : Int) (c : Int) (g : List Int) (h : List Int) (k : (List Int) → Option ρ) : jv e d f a b c g h k = aal e d f a b c g h k := by unfold jv; rw [au]

abbrev b4f (ρ : Type) := Int → Int → (List Int) → Int → Int → Int → (List Int) → Int → Int → Int → Int → Option ρ
def ac4 {ρ : Type} (i j : Int) (k : List Int) (h g a : Int) (b : List Int) (c d e f : Int) (nx l : b4f ρ) : Option ρ := br (decide (g < h)) (iw a b c d e f (IntKind.u64.wrap i) [[IntKind.u8.wrap (IntKind.u32.wrap (j + g))], k] fun m => nx i j m h (IntKind.u32.wrap (g + 1)) a b c d e f) (l i j k h g a b c d e f)
abbrev bvt := Int × Int × (List Int) × Int × Int × Int × (List Int) × Int × Int × Int × Int
abbrev bzd := bvt
def b1f {ρ : Type} (f : bvt → Option ρ) : b4f ρ := fun j k l h i a b c d e g => f (j, k, l, h, i, a, b, c, d, e, g)
def bvl {ρ : Type} : aeb bvt bzd ρ := fun (i, j, k, g, h, a, b, c, d, e, f) next ex => ac4 i j k g h a b c d e f (b1f next) (b1f ex)
def b2s {ρ : Type} := shut (lp (bvl (ρ := ρ)))
theorem b6q {ρ : Type} : b2s (ρ := ρ) = lp bvl := au _
def bxn {ρ : Type} (f : aec bvt bzd ρ) (j k : Int) (l : List Int) (h i a : Int) (b : List Int) (c d e g : Int) (m : b4f ρ) : Option ρ := f (j, k, l, h, i, a, b, c, d, e, g) (fun (j, k, l, h, i, a, b, c, d, e, g) => m j k l h i a b c d e g)
def ahd {ρ : Type} := bxn (lp (bvl (ρ := ρ)))
def agz {ρ : Type} := bxn (b2s (ρ := ρ))
theorem akl {ρ : Type} : agz (ρ := ρ) = ahd := congrArg bxn b6q
def acp {ρ : Type} (e : Int) (d : List Int) (f a b c g h i : Int) (j : List Int) (k : (List Int) → Option ρ) : Option ρ := agz g h j i 0 e d f a b c fun n o l p q r s t u v m => k l
def jy {ρ : Type} := shut (acp (ρ := ρ))
theorem agx {ρ : Type} (e : Int) (d : List Int) (f : Int) (a : Int) (b : Int) (c : Int) (g : Int) (h : Int) (i : Int) (j : List Int) (k : (List Int) → Option ρ) : jy e d f a b c g h i j k = acp e d f a b c g h i j k := by unfold jy; rw [au]

def af3 {ρ : Type} (c : Int) (e : List Int) (f a b d : Int) (k : Int → Option ρ) : Option ρ := br (decide (c < 0)) none (k (IntKind.u32.wrap (IntKind.u32.wrap (1 * 2 ^ min c.toNat 32) - 1)))
def mh {ρ : Type} := shut (af3 (ρ := ρ))
theorem ag3 {ρ : Type} (e : Int) (d : List Int) (f : Int) (a : Int) (b : Int) (c : Int) (k : Int → Option ρ) : mh e d f a b c k = af3 e d f a b c k := by unfold mh; rw [au]

def agn {ρ : Type} (a : Int) (b : List Int) (c : Int) (k : Int → (List Int) → Int → Int → Int → Int → Int → Option ρ) : Option ρ := ng a fun d e f g => br (!g) (k 0 [] 0 0 0 0 9) (br ((↑b.length : Int) != 16) (k 0 [] 0 0 0 0 14) (k a b c d e f 0))
def uy {ρ : Type} := shut (agn (ρ := ρ))
theorem am3 {ρ : Type} (a : Int) (b : List Int) (c : Int) (k : Int → (List Int) → Int → Int → Int → Int → Int → Option ρ) : uy a b c k = agn a b c k := by unfold uy; rw [au]

abbrev b4y (ρ : Type) := (List Int) → Int → Int → (List Int) → Int → (List Int) → Int → Int → Int → Int → (List Int) → Option ρ
def ao6 {ρ : Type} (a : List Int) (i b : Int) (k : List Int) (c : Int) (d : List Int) (e f g h : Int) (j : List Int) (nx m : b4y ρ) : Option ρ := br (decide (b < i)) (br (decide (0 ≤ b)) (br (decide (b < (↑j.length : Int))) (mh c d e f g h fun n => br (decide (32 ≤ (↑a.length : Int))) (jy c d e f g h b (j.getD b.toNat 0) (IntKind.u32.wrap (n - j.getD b.toNat 0)) (List.drop 0 (List.take (Int.toNat 32) a)) fun l => br (decide ((k.length + l.length) * 1 ≤ 140737488355328)) (br (decide (32 ≤ (↑a.length : Int))) (br (decide ((↑a.length : Int) ≤ (↑a.length : Int))) (nx (List.drop 32 (List.take (↑a.length : Int).toNat a)) i (IntKind.i64.wrap (b + 1)) (k ++ l) c d e f g h j) none) none) none) none) none) none) (m a i b k c d e f g h j)
abbrev bv9 := (List Int) × Int × Int × (List Int) × Int × (List Int) × Int × Int × Int × Int × (List Int)
abbrev b03 := bv9
def b5s {ρ : Type} (f : bv9 → Option ρ) : b4y ρ := fun h i j k a b c d e g l => f (h, i, j, k, a, b, c, d, e, g, l)
def byd {ρ : Type} : aeb bv9 b03 ρ := fun (g, h, i, j, a, b, c, d, e, f, k) next ex => ao6 g h i j a b c d e f k (b5s next) (b5s ex)
def b2p {ρ : Type} := shut (lp (byd (ρ := ρ)))
theorem b6u {ρ : Type} : b2p (ρ := ρ) = lp byd := au _
def b4b {ρ : Type} (f : aec bv9 b03 ρ) (h : List Int) (i j : Int) (k : List Int) (a : Int) (b : List Int) (c d e g : Int) (l : List Int) (m : b4y ρ) : Option ρ := f (h, i, j, k, a, b, c, d, e, g, l) (fun (h, i, j, k, a, b, c, d, e, g, l) => m h i j k a b c d e g l)
def apc {ρ : Type} := b4b (lp (byd (ρ := ρ)))
def ahr {ρ : Type} := b4b (b2p (ρ := ρ))
theorem bdx {ρ : Type} : ahr (ρ := ρ) = apc := congrArg b4b b6u
def agv {ρ : Type} (c : Int) (t : List Int) (u : Int) (v a : List Int) (k : (List Int) → Int → Option ρ) : Option ρ := uy c t u fun d e f g h b i => br (i != 0) (k [] i) (lq c fun w => br ((↑a.length : Int) != w) (k [] 1) (br (decide (4 ≤ (↑a.length : Int))) (jo (List.drop 0 (List.take (Int.toNat 4) a)) fun y => br (y != IntKind.u64.wrap b) (k [] 1) (br (decide (36 ≤ (↑a.length : Int))) (br (decide ((↑a.length : Int) ≤ (↑a.length : Int))) (br (decide (36 ≤ (↑a.length : Int))) (jv d e f g h b (List.drop 4 (List.take (Int.toNat 36) a)) v fun j => ahr (List.drop 36 (List.take (↑a.length : Int).toNat a)) (↑j.length : Int) 0 [] d e f g h b j fun z A B l m n o p q r C => iw m n o p q r 32896 [l] fun s => k s 0) none) none) none)) none))
def l6 {ρ : Type} := shut (agv (ρ := ρ))
theorem ao5 {ρ : Type} (a : Int) (b : List Int) (c : Int) (d : List Int) (e : List Int) (k : (List Int) → Int → Option ρ) : l6 a b c d e k = agv a b c d e k := by unfold l6; rw [au]

abbrev b0c (ρ : Type) := Int → (List Int) → (List Int) → (List Int) → (List Int) → Option ρ
def bbv {ρ : Type} (c : Int) (b e d a : List Int) (nx f : b0c ρ) : Option ρ := br (decide (c > (1 : Int))) (br (decide ((32 : Int) ≤ (↑a.length : Int))) (br (c.tmod (2 : Int) == (1 : Int)) (vg b (IntKind.u64.wrap (c.tdiv (2 : Int))) (33667 : Int) [List.drop 0 (List.take (Int.toNat (32 : Int)) a), d] fun g => br (decide ((32 : Int) ≤ (↑a.length : Int))) (br (decide ((↑a.length : Int) ≤ (↑a.length : Int))) (nx (IntKind.u64.wrap (c.tdiv (2 : Int))) b e g (List.drop 32 (List.take (↑a.length : Int).toNat a))) none) none) (vg b (IntKind.u64.wrap (c.tdiv (2 : Int))) (33667 : Int) [d, List.drop 0 (List.take (Int.toNat (32 : Int)) a)] fun h => br (decide ((32 : Int) ≤ (↑a.length : Int))) (br (decide ((↑a.length : Int) ≤ (↑a.length : Int))) (nx (IntKind.u64.wrap (c.tdiv (2 : Int))) b e h (List.drop 32 (List.take (↑a.length : Int).toNat a))) none) none)) none) (f c b e d a)
abbrev btp := Int × (List Int) × (List Int) × (List Int) × (List Int)
abbrev b06 := btp
def b54 {ρ : Type} (f : btp → Option ρ) : b0c ρ := fun d a e b c => f (d, a, e, b, c)
def byb {ρ : Type} : aeb btp b06 ρ := fun (d, a, e, b, c) next ex => bbv d a e b c (b54 next) (b54 ex)
def b0j {ρ : Type} := shut (lp (byb (ρ := ρ)))
theorem b6d {ρ : Type} : b0j (ρ := ρ) = lp byb := au _
def bzu {ρ : Type} (f : aec btp b06 ρ) (d : Int) (a e b c : List Int) (g : b0c ρ) : Option ρ := f (d, a, e, b, c) (fun (d, a, e, b, c) => g d a e b c)
def bcc {ρ : Type} := bzu (lp (byb (ρ := ρ)))
def apo {ρ : Type} := bzu (b0j (ρ := ρ))
theorem bkj {ρ : Type} : apo (ρ := ρ) = bcc := congrArg bzu b6d
def ati {ρ : Type} (a d : Int) (e h b : List Int) (k : (List Int) → Option ρ) : Option ρ := br (decide (4 ≤ (↑b.length : Int))) (jo (List.drop 0 (List.take (Int.toNat 4) b)) fun f => lq d fun c => br (decide (4 ≤ IntKind.i64.wrap (4 + c))) (br (decide (IntKind.i64.wrap (4 + c) ≤ (↑b.length : Int))) (l6 d e (IntKind.u32.wrap f) h (List.drop 4 (List.take (IntKind.i64.wrap (4 + c)).toNat b)) fun i l => br (decide (a < 0)) none (vg e (IntKind.u64.wrap (IntKind.u64.wrap (1 * 2 ^ min a.toNat 64) + IntKind.u64.wrap (IntKind.u32.wrap f))) 33410 [i] fun g => br (decide (0 ≤ IntKind.i64.wrap (IntKind.i64.wrap (4 + c) + 4))) (br (decide (IntKind.i64.wrap (IntKind.i64.wrap (4 + c) + 4) ≤ (↑b.length : Int))) (br (decide ((↑b.length : Int) ≤ (↑b.length : Int))) (br (decide (a < 0)) none (apo (IntKind.u64.wrap (IntKind.u64.wrap (1 * 2 ^ min a.toNat 64) + IntKind.u64.wrap (IntKind.u32.wrap f))) e g g (List.drop (IntKind.i64.wrap (IntKind.i64.wrap (4 + c) + 4)).toNat (List.take (↑b.length : Int).toNat b)) fun m n o j p => k j)) none) none) none)) none) none) none
def ahv {ρ : Type} := shut (ati (ρ := ρ))
theorem bf9 {ρ : Type} (a : Int) (b : Int) (c : List Int) (d : List Int) (e : List Int) (k : (List Int) → Option ρ) : ahv a b c d e k = ati a b c d e k := by unfold ahv; rw [au]

def am5 {ρ : Type} (a j b : List Int) (k : Int → Option ρ) : Option ρ := br ((↑a.length : Int) != 56) (k 10) (br (decide (4 ≤ (↑a.length : Int))) (jo (List.drop 0 (List.take (Int.toNat 4) a)) fun l => uq l fun m => br (m == 0) (k 10) (br (decide (8 ≤ (↑a.length : Int))) (jo (List.drop 4 (List.take (Int.toNat 8) a)) fun n => yx n fun o => br (o == 0) (k 10) (aeo b fun r c d p e => br (e != 0) (k e) (br (decide ((↑p.length : Int) > 0)) (k 1) (ac2 c d fun q => br (decide (8 ≤ (↑a.length : Int))) (abz q (List.drop 0 (List.take (Int.toNat 8) a)) fun f => br (!f) (k 1) (br (decide (4 ≤ (↑b.length : Int))) (jo (List.drop 0 (List.take (Int.toNat 4) b)) fun g => br (decide (c < 0)) none (br (g.fdiv (2 ^ min c.toNat 64) != 0) (k 13) (br (decide (24 ≤ (↑a.length : Int))) (ahv c d (List.drop 8 (List.take (Int.toNat 24) a)) j b fun h => br (decide (24 ≤ (↑a.length : Int))) (br (decide ((↑a.length : Int) ≤ (↑a.length : Int))) (abz h (List.drop 24 (List.take (↑a.length : Int).toNat a)) fun i => br (!i) (k 11) (k 0)) none) none) none))) none)) none)))) none)) none)
def aar {ρ : Type} := shut (am5 (ρ := ρ))
theorem bay {ρ : Type} (a : List Int) (b : List Int) (c : List Int) (k : Int → Option ρ) : aar a b c k = am5 a b c k := by unfold aar; rw [au]

def as5 {ρ : Type} (b e f : List Int) (g : Bool) (k : (List Int) → (List Int) → Int → Option ρ) : Option ρ := aeo f fun c j l a d => br (d != 0) (k [] [] d) (br g (br (decide ((↑a.length : Int) > 0)) (k [] [] 1) (aar b e c fun h => k [] [] h)) (br (decide ((↑a.length : Int) < 56)) (k [] [] 1) (br (decide (56 ≤ (↑a.length : Int))) (br (decide (56 ≤ (↑a.length : Int))) (br (decide ((↑a.length : Int) ≤ (↑a.length : Int))) (aar b (List.take ((56 : Int) - (0 : Int)).toNat (List.drop 0 a)) c fun i => k (List.take ((56 : Int) - (0 : Int)).toNat (List.drop 0 a)) (List.take ((↑a.length : Int) - 56).toNat (List.drop 56 a)) i) none) none) none)))
def aht {ρ : Type} := shut (as5 (ρ := ρ))
theorem bge {ρ : Type} (a : List Int) (b : List Int) (c : List Int) (d : Bool) (k : (List Int) → (List Int) → Int → Option ρ) : aht a b c d k = as5 a b c d k := by unfold aht; rw [au]

abbrev b37 (ρ : Type) := (List Int) → Int → (List Int) → (List Int) → Option ρ
def bcr {ρ : Type} (b : List Int) (a : Int) (c d : List Int) (nx f : b37 ρ) (g : Int → Option ρ) : Option ρ := br (decide (a > 0)) (aht c b d (a == 1) fun h i e => br (e != 0) (g e) (nx b (IntKind.u64.wrap (a - 1)) h i)) (f b a c d)
abbrev by4 := (List Int) × Int × (List Int) × (List Int)
abbrev b44 := ((List Int) × Int × (List Int) × (List Int)) ⊕ (Int)
def zu32 {ρ : Type} (f : by4 → Option ρ) : b37 ρ := fun a b c d => f (a, b, c, d)
def byt {ρ : Type} : aeb by4 b44 ρ := fun (a, b, c, d) next ex => bcr a b c d (zu32 next) (fun a b c d => ex (.inl (a, b, c, d))) (fun e => ex (.inr e))
def b3s {ρ : Type} := shut (lp (byt (ρ := ρ)))
theorem b6x {ρ : Type} : b3s (ρ := ρ) = lp byt := au _
def b5k {ρ : Type} (f : aec by4 b44 ρ) (a : List Int) (b : Int) (c d : List Int) (e : b37 ρ) (g : Int → Option ρ) : Option ρ := f (a, b, c, d) (Sum.elim (fun (a, b, c, d) => e a b c d) (fun x => g x))
def bal {ρ : Type} := b5k (lp (byt (ρ := ρ)))
def ap9 {ρ : Type} := b5k (b3s (ρ := ρ))
theorem bki {ρ : Type} : ap9 (ρ := ρ) = bal := congrArg b5k b6x
def ain {ρ : Type} (a d b : List Int) (k : Int → Option ρ) : Option ρ := br ((↑a.length : Int) != 60) (k 10) (br (decide (4 ≤ (↑a.length : Int))) (jo (List.drop 0 (List.take (Int.toNat 4) a)) fun c => br (decide (c < 1)) (k 10) (br (decide (c > 8)) (k 10) (br (decide ((↑b.length : Int) < 4)) (k 1) (br (decide (4 ≤ (↑b.length : Int))) (jo (List.drop 0 (List.take (Int.toNat 4) b)) fun e => br (e != IntKind.u64.wrap (c - 1)) (k 1) (br (decide (4 ≤ (↑a.length : Int))) (br (decide ((↑a.length : Int) ≤ (↑a.length : Int))) (br (decide (4 ≤ (↑b.length : Int))) (br (decide ((↑b.length : Int) ≤ (↑b.length : Int))) (ap9 d c (List.drop 4 (List.take (↑a.length : Int).toNat a)) (List.drop 4 (List.take (↑b.length : Int).toNat b)) (fun g h i j => k 0) fun f => k f) none) none) none) none)) none)))) none)
def ab4 {ρ : Type} := shut (ain (ρ := ρ))
theorem ao1 {ρ : Type} (a : List Int) (b : List Int) (c : List Int) (k : Int → Option ρ) : ab4 a b c k = ain a b c k := by unfold ab4; rw [au]

def aj2 {ρ : Type} (k : Bool → Option ρ) : Option ρ := ow 2 [(2 : Int), (3 : Int)] [(1 : Int), (1 : Int)] (List.replicate 16 (0 : Int)) (List.replicate 32 (0 : Int)) (9 : Int) fun a b => acg 2 [(2 : Int), (3 : Int)] [(1 : Int), (1 : Int)] (List.replicate 16 (0 : Int)) (List.replicate 32 (0 : Int)) fun c => br (c == (32 : Int)) (br (b == (0 : Int)) (br ((↑a.length : Int) == (2 : Int)) (br (decide ((0 : Int) < (↑a.length : Int))) (br (a.getD 0 (0 : Int) == (1 : Int)) (br (decide ((1 : Int) < (↑a.length : Int))) (br (a.getD 1 (0 : Int) == (1 : Int)) (ab4 [] [] [] fun d => k (d == (10 : Int))) (k false)) none) (k false)) none) (k false)) (k false)) (k false)
def ug {ρ : Type} := shut (aj2 (ρ := ρ))
theorem asw {ρ : Type}  (k : Bool → Option ρ) : ug  k = aj2  k := by unfold ug; rw [au]

def vk {ρ : Type} (a b : Int) (c d : List Int) (k : Int → Option ρ) : Option ρ := acr a b fun e => br (!e) (k 9) (br ((↑c.length : Int) != 16) (k 14) (br ((↑d.length : Int) != 32) (k 14) (br (decide (a > 10)) (k 8) (k 0))))
def qd {ρ : Type} := shut (vk (ρ := ρ))
theorem alq {ρ : Type} (a : Int) (b : Int) (c : List Int) (d : List Int) (k : Int → Option ρ) : qd a b c d k = vk a b c d k := by unfold qd; rw [au]

def afu {ρ : Type} (h : Int) (i : List Int) (j : Int) (l : List Int) (k : Int → (List Int) → Int → Int → Int → Int → Int → Option ρ) : Option ρ := uy h i j fun b c d e f g a => br (a == 0) (br ((↑l.length : Int) != 32) (k 0 [] 0 0 0 0 14) (k b c d e f g a)) (k b c d e f g a)
def qz {ρ : Type} := shut (afu (ρ := ρ))
theorem akq {ρ : Type} (a : Int) (b : List Int) (c : Int) (d : List Int) (k : Int → (List Int) → Int → Int → Int → Int → Int → Option ρ) : qz a b c d k = afu a b c d k := by unfold qz; rw [au]

def ac3 {ρ : Type} (e : Int) (d : List Int) (f a b c g : Int) (h : List Int) (k : (List Int) → Option ρ) : Option ρ := iw e d f a b c g [[255], h] fun i => k i
def mo {ρ : Type} := shut (ac3 (ρ := ρ))
theorem ahp {ρ : Type} (e : Int) (d : List Int) (f : Int) (a : Int) (b : Int) (c : Int) (g : Int) (h : List Int) (k : (List Int) → Option ρ) : mo e d f a b c g h k = ac3 e d f a b c g h k := by unfold mo; rw [au]

abbrev b26 (ρ : Type) := (List Int) → Int → Int → (List Int) → Int → (List Int) → Int → Int → Int → Int → Option ρ
def ag1 {ρ : Type} (i : List Int) (h g : Int) (j : List Int) (a : Int) (b : List Int) (c d e f : Int) (nx l : b26 ρ) : Option ρ := br (decide (g < h)) (mh a b c d e f fun m => mo a b c d e f (IntKind.u64.wrap g) i fun n => jy a b c d e f g 0 m n fun k => br (decide ((j.length + k.length) * 1 ≤ 140737488355328)) (nx i h (IntKind.i64.wrap (g + 1)) (j ++ k) a b c d e f) none) (l i h g j a b c d e f)
abbrev bvy := (List Int) × Int × Int × (List Int) × Int × (List Int) × Int × Int × Int × Int
abbrev b5h := bvy
def bzt {ρ : Type} (f : bvy → Option ρ) : b26 ρ := fun j h i k a b c d e g => f (j, h, i, k, a, b, c, d, e, g)
def bu9 {ρ : Type} : aeb bvy b5h ρ := fun (i, g, h, j, a, b, c, d, e, f) next ex => ag1 i g h j a b c d e f (bzt next) (bzt ex)
def b3q {ρ : Type} := shut (lp (bu9 (ρ := ρ)))
theorem b6c {ρ : Type} : b3q (ρ := ρ) = lp bu9 := au _
def bx3 {ρ : Type} (f : aec bvy b5h ρ) (j : List Int) (h i : Int) (k : List Int) (a : Int) (b : List Int) (c d e g : Int) (l : b26 ρ) : Option ρ := f (j, h, i, k, a, b, c, d, e, g) (fun (j, h, i, k, a, b, c, d, e, g) => l j h i k a b c d e g)
def ak0 {ρ : Type} := bx3 (lp (bu9 (ρ := ρ)))
def als {ρ : Type} := bx3 (b3q (ρ := ρ))
theorem aql {ρ : Type} : als (ρ := ρ) = ak0 := congrArg bx3 b6c
def afy {ρ : Type} (m : Int) (n : List Int) (o : Int) (a : List Int) (k : (List Int) → Int → Option ρ) : Option ρ := qz m n o a fun p q r b s t c => br (c != 0) (k [] c) (als a b 0 [] p q r b s t fun u v w d e f g h i j => iw e f g h i j 32896 [d] fun l => k l 0)
def y5 {ρ : Type} := shut (afy (ρ := ρ))
theorem alz {ρ : Type} (a : Int) (b : List Int) (c : Int) (d : List Int) (k : (List Int) → Int → Option ρ) : y5 a b c d k = afy a b c d k := by unfold y5; rw [au]

def aag {ρ : Type} (rc : Int → Int → (List Int) → (List Int) → Int → ((List Int) → Option ρ) → Option ρ) (a b : Int) (c d : List Int) (e : Int) (k : (List Int) → Option ρ) : Option ρ := br (decide (a < 0)) none (br (decide (e ≥ IntKind.u64.wrap (1 * 2 ^ min a.toNat 64))) (y5 b c (IntKind.u32.wrap (IntKind.u64.wrap (e - IntKind.u64.wrap (1 * 2 ^ min a.toNat 64)))) d fun f l => vg c e 33410 [f] fun g => k g) (rc a b c d (IntKind.u64.wrap (2 * e)) fun h => rc a b c d (IntKind.u64.wrap (IntKind.u64.wrap (2 * e) + 1)) fun i => vg c e 33667 [h, i] fun j => k j))
def ig {ρ : Type} (n : Nat) : Int → Int → (List Int) → (List Int) → Int → ((List Int) → Option ρ) → Option ρ := Nat.rec (fun _ _ _ _ _ _ => none) (fun _ rc => shut (aag (ρ := ρ) rc)) n
theorem ady {ρ : Type} (n : Nat) : ig (ρ := ρ) (n + 1) = aag (ig n) := au _

def aik {ρ : Type} (a b : Int) (c d : List Int) (k : (List Int) → Int → Option ρ) : Option ρ := qd a b c d fun e => br (e != 0) (k [] e) (ac2 a b fun f => ig (a.toNat + 2) a b c d 1 fun g => fq [f, c, g] fun h => k h 0)
def aat {ρ : Type} := shut (aik (ρ := ρ))
theorem aou {ρ : Type} (a : Int) (b : Int) (c : List Int) (d : List Int) (k : (List Int) → Int → Option ρ) : aat a b c d k = aik a b c d k := by unfold aat; rw [au]

def zk {ρ : Type} (a b : Int) (d c : List Int) (e : Int) (k : (List Int) → Option ρ) : Option ρ := aat a b d c fun f g => k f
def jc {ρ : Type} := shut (zk (ρ := ρ))
theorem ac7 {ρ : Type} (a : Int) (b : Int) (d : List Int) (c : List Int) (e : Int) (k : (List Int) → Option ρ) : jc a b d c e k = zk a b d c e k := by unfold jc; rw [au]

def ae5 {ρ : Type} (a : Nat) (b c e d : List Int) (k : (List Int) → Int → Option ρ) : Option ρ := adb a b c e d fun f => br (!f) (k [] 10) (br (decide (0 < (↑a : Int))) (gu (IntKind.u64.wrap (↑a : Int)) 4 fun g => jc (b.getD 0 0) (c.getD 0 0) e d 0 fun h => fq [g, h] fun i => k i 0) none)
def aau {ρ : Type} := shut (ae5 (ρ := ρ))
theorem ajm {ρ : Type} (a : Nat) (b : List Int) (c : List Int) (e : List Int) (d : List Int) (k : (List Int) → Int → Option ρ) : aau a b c e d k = ae5 a b c e d k := by unfold aau; rw [au]

abbrev b0w (ρ : Type) := (List (List Int)) → Int → (List Int) → Option ρ
def anf {ρ : Type} (b : List (List Int)) (a : Int) (c : List Int) (nx d : b0w ρ) : Option ρ := br (decide (a < (↑b.length : Int))) (br (decide (0 ≤ a)) (br (decide (a < (↑b.length : Int))) (br (decide ((c.length + (b.getD a.toNat []).length) * 1 ≤ 140737488355328)) (nx b (IntKind.i64.wrap (a + 1)) (c ++ b.getD a.toNat [])) none) none) none) (d b a c)
abbrev bwf := (List (List Int)) × Int × (List Int)
abbrev b0e := bwf
def b1d {ρ : Type} (f : bwf → Option ρ) : b0w ρ := fun a b c => f (a, b, c)
def bus {ρ : Type} : aeb bwf b0e ρ := fun (a, b, c) next ex => anf a b c (b1d next) (b1d ex)
def b35 {ρ : Type} := shut (lp (bus (ρ := ρ)))
theorem b65 {ρ : Type} : b35 (ρ := ρ) = lp bus := au _
def bx5 {ρ : Type} (f : aec bwf b0e ρ) (a : List (List Int)) (b : Int) (c : List Int) (d : b0w ρ) : Option ρ := f (a, b, c) (fun (a, b, c) => d a b c)
def ax2 {ρ : Type} := bx5 (lp (bus (ρ := ρ)))
def avi {ρ : Type} := bx5 (b35 (ρ := ρ))
theorem ayk {ρ : Type} : avi (ρ := ρ) = ax2 := congrArg bx5 b65
def alx {ρ : Type} (a : List (List Int)) (k : (List Int) → Option ρ) : Option ρ := avi a 0 [] fun c d b => k b
def kr {ρ : Type} := shut (alx (ρ := ρ))
theorem av9 {ρ : Type} (a : List (List Int)) (k : (List Int) → Option ρ) : kr a k = alx a k := by unfold kr; rw [au]

def za {ρ : Type} (a b : Int) (c d : List Int) (k : Int → Option ρ) : Option ρ := aev a b fun e => br (!e) (k 9) (br ((↑c.length : Int) != 16) (k 14) (br ((↑d.length : Int) != 32) (k 14) (br (decide (a > 10)) (k 8) (k 0))))
def wm {ρ : Type} := shut (za (ρ := ρ))
theorem atc {ρ : Type} (a : Int) (b : Int) (c : List Int) (d : List Int) (k : Int → Option ρ) : wm a b c d k = za a b c d k := by unfold wm; rw [au]

abbrev b09 (ρ : Type) := Int → Int → (List Int) → Option ρ
def awj {ρ : Type} (b a : Int) (c : List Int) (nx d : b09 ρ) : Option ρ := br (decide (a ≥ 0)) (br (decide (0 ≤ a)) (br (decide (a < (↑c.length : Int))) (nx (b.fdiv (2 ^ 8)) (IntKind.i64.wrap (a - 1)) (c.set a.toNat (IntKind.u8.wrap (bits BinOp.and IntKind.u64 b 255)))) none) none) (d b a c)
abbrev bur := Int × Int × (List Int)
abbrev b1n := bur
def b4m {ρ : Type} (f : bur → Option ρ) : b09 ρ := fun a b c => f (a, b, c)
def bwk {ρ : Type} : aeb bur b1n ρ := fun (a, b, c) next ex => awj a b c (b4m next) (b4m ex)
def b5e {ρ : Type} := shut (lp (bwk (ρ := ρ)))
theorem b51 {ρ : Type} : b5e (ρ := ρ) = lp bwk := au _
def byj {ρ : Type} (f : aec bur b1n ρ) (a b : Int) (c : List Int) (d : b09 ρ) : Option ρ := f (a, b, c) (fun (a, b, c) => d a b c)
def bd0 {ρ : Type} := byj (lp (bwk (ρ := ρ)))
def bec {ρ : Type} := byj (b5e (ρ := ρ))
theorem bd5 {ρ : Type} : bec (ρ := ρ) = bd0 := congrArg byj b51
def ar1 {ρ : Type} (b a : Int) (k : (List Int) → Option ρ) : Option ρ := br (decide (a < 0)) (k []) (br (decide (a > 65536)) (k []) (br (decide (0 ≤ a)) (br (decide (a ≤ a)) (br (decide (a * (↑1 : Int) ≤ (↑140737488355328 : Int))) (bec b (IntKind.i64.wrap (a - 1)) (List.replicate a.toNat (0 : Int)) fun d e c => k c) none) none) none))
def gy {ρ : Type} := shut (ar1 (ρ := ρ))
theorem bda {ρ : Type} (a : Int) (b : Int) (k : (List Int) → Option ρ) : gy a b k = ar1 a b k := by unfold gy; rw [au]

def ak8 {ρ : Type} (a b : Int) (k : (List Int) → Option ρ) : Option ρ := om b fun g h e => uw a fun f => gy f 4 fun c => gy e 4 fun d => br (decide ((c.length + d.length) * 1 ≤ 140737488355328)) (k (c ++ d)) none
def af6 {ρ : Type} := shut (ak8 (ρ := ρ))
theorem axb {ρ : Type} (a : Int) (b : Int) (k : (List Int) → Option ρ) : af6 a b k = ak8 a b k := by unfold af6; rw [au]

def ajc {ρ : Type} (a : Int) (b c : List Int) (k : Int → Option ρ) : Option ρ := om a fun d e f => br (d == 0) (k 9) (br ((↑b.length : Int) != 16) (k 14) (br ((↑c.length : Int) != 32) (k 14) (k 0)))
def aap {ρ : Type} := shut (ajc (ρ := ρ))
theorem asx {ρ : Type} (a : Int) (b : List Int) (c : List Int) (k : Int → Option ρ) : aap a b c k = ajc a b c k := by unfold aap; rw [au]

def aof {ρ : Type} (a : Int) (k : Int → (List Int) → (List Int) → Int → Int → Option ρ) : Option ρ := br (a == 1) (k a [1779033703, 3144134277, 1013904242, 2773480762, 1359893119, 2600822924, 528734635, 1541459225] [] 0 0) (br (a == 2) (k a [14680500436340154072, 7105036623409894663, 10473403895298186519, 1526699215303891257, 7436329637833083697, 10282925794625328401, 15784041429090275239, 5167115440072839076] [] 0 0) (br (a == 3) (k a [7640891576956012808, 13503953896175478587, 4354685564936845355, 11912009170470909681, 5840696475078001361, 11170449401992604703, 2270897969802886507, 6620516959819538809] [] 0 0) (k 0 [0, 0, 0, 0, 0, 0, 0, 0] [] 0 9)))
def ag2 {ρ : Type} := shut (aof (ρ := ρ))
theorem azo {ρ : Type} (a : Int) (k : Int → (List Int) → (List Int) → Int → Int → Option ρ) : ag2 a k = aof a k := by unfold ag2; rw [au]

def aj9 {ρ : Type} (a : Int) (k : Int → Option ρ) : Option ρ := br (a == 1) (k 64) (k 128)
def wz {ρ : Type} := shut (aj9 (ρ := ρ))
theorem ato {ρ : Type} (a : Int) (k : Int → Option ρ) : wz a k = aj9 a k := by unfold wz; rw [au]

def akk {ρ : Type} (k : (List Int) → Option ρ) : Option ρ := k [1116352408, 1899447441, 3049323471, 3921009573, 961987163, 1508970993, 2453635748, 2870763221, 3624381080, 310598401, 607225278, 1426881987, 1925078388, 2162078206, 2614888103, 3248222580, 3835390401, 4022224774, 264347078, 604807628, 770255983, 1249150122, 1555081692, 1996064986, 2554220882, 2821834349, 2952996808, 3210313671, 3336571891, 3584528711, 113926993, 338241895, 666307205, 773529912, 1294757372, 1396182291, 1695183700, 1986661051, 2177026350, 2456956037, 2730485921, 2820302411, 3259730800, 3345764771, 3516065817, 3600352804, 4094571909, 275423344, 430227734, 506948616, 659060556, 883997877, 958139571, 1322822218, 1537002063, 1747873779, 1955562222, 2024104815, 2227730452, 2361852424, 2428436474, 2756734187, 3204031479, 3329325298]
def vv {ρ : Type} := shut (akk (ρ := ρ))
theorem ahj {ρ : Type}  (k : (List Int) → Option ρ) : vv  k = akk  k := by unfold vv; rw [au]

def akg {ρ : Type} (k : (List Int) → Option ρ) : Option ρ := k [4794697086780616226, 8158064640168781261, 13096744586834688815, 16840607885511220156, 4131703408338449720, 6480981068601479193, 10538285296894168987, 12329834152419229976, 15566598209576043074, 1334009975649890238, 2608012711638119052, 6128411473006802146, 8268148722764581231, 9286055187155687089, 11230858885718282805, 13951009754708518548, 16472876342353939154, 17275323862435702243, 1135362057144423861, 2597628984639134821, 3308224258029322869, 5365058923640841347, 6679025012923562964, 8573033837759648693, 10970295158949994411, 12119686244451234320, 12683024718118986047, 13788192230050041572, 14330467153632333762, 15395433587784984357, 489312712824947311, 1452737877330783856, 2861767655752347644, 3322285676063803686, 5560940570517711597, 5996557281743188959, 7280758554555802590, 8532644243296465576, 9350256976987008742, 10552545826968843579, 11727347734174303076, 12113106623233404929, 14000437183269869457, 14369950271660146224, 15101387698204529176, 15463397548674623760, 17586052441742319658, 1182934255886127544, 1847814050463011016, 2177327727835720531, 2830643537854262169, 3796741975233480872, 4115178125766777443, 5681478168544905931, 6601373596472566643, 7507060721942968483, 8399075790359081724, 8693463985226723168, 9568029438360202098, 10144078919501101548, 10430055236837252648, 11840083180663258601, 13761210420658862357, 14299343276471374635, 14566680578165727644, 15097957966210449927, 16922976911328602910, 17689382322260857208, 500013540394364858, 748580250866718886, 1242879168328830382, 1977374033974150939, 2944078676154940804, 3659926193048069267, 4368137639120453308, 4836135668995329356, 5532061633213252278, 6448918945643986474, 6902733635092675308, 7801388544844847127]
def vo {ρ : Type} := shut (akg (ρ := ρ))
theorem ag8 {ρ : Type}  (k : (List Int) → Option ρ) : vo  k = akg  k := by unfold vo; rw [au]

def ad8 {ρ : Type} (b a : Int) (c : Bool) (k : Int → Option ρ) : Option ρ := br c (br (decide (a < 0)) none (br (decide (IntKind.i64.wrap (64 - a) < 0)) none (k (bits BinOp.or IntKind.u64 (b.fdiv (2 ^ min a.toNat 64)) (IntKind.u64.wrap (b * 2 ^ min (IntKind.i64.wrap (64 - a)).toNat 64)))))) (br (decide (a < 0)) none (br (decide (IntKind.i64.wrap (32 - a) < 0)) none (k (bits BinOp.or IntKind.u64 (b.fdiv (2 ^ min a.toNat 64)) (bits BinOp.and IntKind.u64 (IntKind.u64.wrap (b * 2 ^ min (IntKind.i64.wrap (32 - a)).toNat 64)) 4294967295)))))
def yc {ρ : Type} := shut (ad8 (ρ := ρ))
theorem ahx {ρ : Type} (a : Int) (b : Int) (c : Bool) (k : Int → Option ρ) : yc a b c k = ad8 a b c k := by unfold yc; rw [au]

def abv {ρ : Type} (a d e c : Int) (f b : Bool) (k : Int → Option ρ) : Option ρ := br (decide (c < 0)) none (br (!f) (yc a c b fun g => yc a d b fun h => yc a e b fun i => k (bits BinOp.xor IntKind.u64 (bits BinOp.xor IntKind.u64 h i) g)) (yc a d b fun j => yc a e b fun l => k (bits BinOp.xor IntKind.u64 (bits BinOp.xor IntKind.u64 j l) (a.fdiv (2 ^ min c.toNat 64)))))
def xu {ρ : Type} := shut (abv (ρ := ρ))
theorem aer {ρ : Type} (a : Int) (b : Int) (c : Int) (d : Int) (e : Bool) (f : Bool) (k : Int → Option ρ) : xu a b c d e f k = abv a b c d e f k := by unfold xu; rw [au]

abbrev b3y (ρ : Type) := (List Int) → Int → Int → Option ρ
def ase {ρ : Type} (b : List Int) (c a : Int) (nx d : b3y ρ) : Option ρ := br (decide (a < (↑b.length : Int))) (br (decide (0 ≤ a)) (br (decide (a < (↑b.length : Int))) (nx b (IntKind.u64.wrap (IntKind.u64.wrap (c * 256) + IntKind.u64.wrap (b.getD a.toNat 0))) (IntKind.i64.wrap (a + 1))) none) none) (d b c a)
abbrev btq := (List Int) × Int × Int
abbrev b1e := btq
def bz9 {ρ : Type} (f : btq → Option ρ) : b3y ρ := fun a b c => f (a, b, c)
def bw6 {ρ : Type} : aeb btq b1e ρ := fun (a, b, c) next ex => ase a b c (bz9 next) (bz9 ex)
def b21 {ρ : Type} := shut (lp (bw6 (ρ := ρ)))
theorem b7e {ρ : Type} : b21 (ρ := ρ) = lp bw6 := au _
def byr {ρ : Type} (f : aec btq b1e ρ) (a : List Int) (b c : Int) (d : b3y ρ) : Option ρ := f (a, b, c) (fun (a, b, c) => d a b c)
def bab {ρ : Type} := byr (lp (bw6 (ρ := ρ)))
def ays {ρ : Type} := byr (b21 (ρ := ρ))
theorem bbm {ρ : Type} : ays (ρ := ρ) = bab := congrArg byr b7e
def aoc {ρ : Type} (a : List Int) (k : Int → Option ρ) : Option ρ := ays a 0 0 fun c b d => k b
def aft {ρ : Type} := shut (aoc (ρ := ρ))
theorem ay9 {ρ : Type} (a : List Int) (k : Int → Option ρ) : aft a k = aoc a k := by unfold aft; rw [au]

abbrev b1y (ρ : Type) := (List Int) → Bool → Int → Int → Int → Int → (List Int) → Option ρ
def afe {ρ : Type} (d : List Int) (f : Bool) (g e c a : Int) (b : List Int) (nx h : b1y ρ) : Option ρ := br (decide (a < g)) (br (decide (a < 16)) (br (decide (0 ≤ IntKind.i64.wrap (a * c))) (br (decide (IntKind.i64.wrap (a * c) ≤ IntKind.i64.wrap (IntKind.i64.wrap (a * c) + c))) (br (decide (IntKind.i64.wrap (IntKind.i64.wrap (a * c) + c) ≤ (↑d.length : Int))) (aft (List.drop (IntKind.i64.wrap (a * c)).toNat (List.take (IntKind.i64.wrap (IntKind.i64.wrap (a * c) + c)).toNat d)) fun i => br (decide ((b.length + 1) * 8 ≤ 140737488355328)) (nx d f g e c (IntKind.i64.wrap (a + 1)) (b ++ [i])) none) none) none) none) (br (decide (0 ≤ IntKind.i64.wrap (a - 15))) (br (decide (IntKind.i64.wrap (a - 15) < (↑b.length : Int))) (xu (b.getD (IntKind.i64.wrap (a - 15)).toNat 0) 7 18 3 true false fun j => br (decide (0 ≤ IntKind.i64.wrap (a - 2))) (br (decide (IntKind.i64.wrap (a - 2) < (↑b.length : Int))) (xu (b.getD (IntKind.i64.wrap (a - 2)).toNat 0) 17 19 10 true false fun k => br f (br (decide (0 ≤ IntKind.i64.wrap (a - 15))) (br (decide (IntKind.i64.wrap (a - 15) < (↑b.length : Int))) (xu (b.getD (IntKind.i64.wrap (a - 15)).toNat 0) 1 8 7 true true fun l => br (decide (0 ≤ IntKind.i64.wrap (a - 2))) (br (decide (IntKind.i64.wrap (a - 2) < (↑b.length : Int))) (xu (b.getD (IntKind.i64.wrap (a - 2)).toNat 0) 19 61 6 true true fun m => br (decide (0 ≤ IntKind.i64.wrap (a - 7))) (br (decide (IntKind.i64.wrap (a - 7) < (↑b.length : Int))) (br (decide (0 ≤ IntKind.i64.wrap (a - 16))) (br (decide (IntKind.i64.wrap (a - 16) < (↑b.length : Int))) (br (decide ((b.length + 1) * 8 ≤ 140737488355328)) (nx d f g e c (IntKind.i64.wrap (a + 1)) (b ++ [bits BinOp.and IntKind.u64 (IntKind.u64.wrap (IntKind.u64.wrap (IntKind.u64.wrap (m + b.getD (IntKind.i64.wrap (a - 7)).toNat 0) + l) + b.getD (IntKind.i64.wrap (a - 16)).toNat 0)) e])) none) none) none) none) none) none) none) none) none) (br (decide (0 ≤ IntKind.i64.wrap (a - 7))) (br (decide (IntKind.i64.wrap (a - 7) < (↑b.length : Int))) (br (decide (0 ≤ IntKind.i64.wrap (a - 16))) (br (decide (IntKind.i64.wrap (a - 16) < (↑b.length : Int))) (br (decide ((b.length + 1) * 8 ≤ 140737488355328)) (nx d f g e c (IntKind.i64.wrap (a + 1)) (b ++ [bits BinOp.and IntKind.u64 (IntKind.u64.wrap (IntKind.u64.wrap (IntKind.u64.wrap (k + b.getD (IntKind.i64.wrap (a - 7)).toNat 0) + j) + b.getD (IntKind.i64.wrap (a - 16)).toNat 0)) e])) none) none) none) none) none)) none) none) none) none)) (h d f g e c a b)
abbrev bv2 := (List Int) × Bool × Int × Int × Int × Int × (List Int)
abbrev bzz := bv2
def byv {ρ : Type} (f : bv2 → Option ρ) : b1y ρ := fun b c d e g a h => f (b, c, d, e, g, a, h)
def btb {ρ : Type} : aeb bv2 bzz ρ := fun (b, c, d, e, f, a, g) next ex => afe b c d e f a g (byv next) (byv ex)
def bzh {ρ : Type} := shut (lp (btb (ρ := ρ)))
theorem b7b {ρ : Type} : bzh (ρ := ρ) = lp btb := au _
def bwh {ρ : Type} (f : aec bv2 bzz ρ) (b : List Int) (c : Bool) (d e g a : Int) (h : List Int) (i : b1y ρ) : Option ρ := f (b, c, d, e, g, a, h) (fun (b, c, d, e, g, a, h) => i b c d e g a h)
def ala {ρ : Type} := bwh (lp (btb (ρ := ρ)))
def al1 {ρ : Type} := bwh (bzh (ρ := ρ))
theorem amc {ρ : Type} : al1 (ρ := ρ) = ala := congrArg bwh b7b
def agd {ρ : Type} (b : List Int) (a : Bool) (c d : Int) (k : (List Int) → Option ρ) : Option ρ := br a (al1 b a c d 8 0 [] fun j l m n o p f => k f) (al1 b a c d 4 0 [] fun q r s g h i e => k e)
def abd {ρ : Type} := shut (agd (ρ := ρ))
theorem alo {ρ : Type} (a : List Int) (b : Bool) (c : Int) (d : Int) (k : (List Int) → Option ρ) : abd a b c d k = agd a b c d k := by unfold abd; rw [au]

abbrev bzn (ρ : Type) := Bool → Int → Int → Int → (List Int) → (List Int) → (List Int) → (List Int) → (List Int) → (List Int) → Option ρ
def ad5 {ρ : Type} (i : Bool) (j c b : Int) (g h d e f a : List Int) (nx m : bzn ρ) : Option ρ := br (decide (b < j)) (xu (a.getD 0 0) 2 13 22 false false fun n => xu (a.getD 4 0) 6 11 25 false false fun k => br i (xu (a.getD 0 0) 28 34 39 false true fun o => xu (a.getD 4 0) 14 18 41 false true fun l => br (decide (0 ≤ b)) (br (decide (b < (↑80 : Int))) (br (decide (0 ≤ b)) (br (decide (b < (↑f.length : Int))) (nx i j c (IntKind.i64.wrap (b + 1)) g h d e f [bits BinOp.and IntKind.u64 (IntKind.u64.wrap (IntKind.u64.wrap (IntKind.u64.wrap (IntKind.u64.wrap (IntKind.u64.wrap (a.getD 7 0 + l) + bits BinOp.xor IntKind.u64 (bits BinOp.and IntKind.u64 (a.getD 4 0) (a.getD 5 0)) (bits BinOp.and IntKind.u64 (bits BinOp.xor IntKind.u64 c (a.getD 4 0)) (a.getD 6 0))) + e.getD b.toNat 0) + f.getD b.toNat 0) + IntKind.u64.wrap (o + bits BinOp.xor IntKind.u64 (bits BinOp.xor IntKind.u64 (bits BinOp.and IntKind.u64 (a.getD 0 0) (a.getD 1 0)) (bits BinOp.and IntKind.u64 (a.getD 0 0) (a.getD 2 0))) (bits BinOp.and IntKind.u64 (a.getD 1 0) (a.getD 2 0))))) c, a.getD 0 0, a.getD 1 0, a.getD 2 0, bits BinOp.and IntKind.u64 (IntKind.u64.wrap (a.getD 3 0 + IntKind.u64.wrap (IntKind.u64.wrap (IntKind.u64.wrap (IntKind.u64.wrap (a.getD 7 0 + l) + bits BinOp.xor IntKind.u64 (bits BinOp.and IntKind.u64 (a.getD 4 0) (a.getD 5 0)) (bits BinOp.and IntKind.u64 (bits BinOp.xor IntKind.u64 c (a.getD 4 0)) (a.getD 6 0))) + e.getD b.toNat 0) + f.getD b.toNat 0))) c, a.getD 4 0, a.getD 5 0, a.getD 6 0]) none) none) none) none) (br (decide (0 ≤ b)) (br (decide (b < (↑64 : Int))) (br (decide (0 ≤ b)) (br (decide (b < (↑f.length : Int))) (nx i j c (IntKind.i64.wrap (b + 1)) g h d e f [bits BinOp.and IntKind.u64 (IntKind.u64.wrap (IntKind.u64.wrap (IntKind.u64.wrap (IntKind.u64.wrap (IntKind.u64.wrap (a.getD 7 0 + k) + bits BinOp.xor IntKind.u64 (bits BinOp.and IntKind.u64 (a.getD 4 0) (a.getD 5 0)) (bits BinOp.and IntKind.u64 (bits BinOp.xor IntKind.u64 c (a.getD 4 0)) (a.getD 6 0))) + d.getD b.toNat 0) + f.getD b.toNat 0) + IntKind.u64.wrap (n + bits BinOp.xor IntKind.u64 (bits BinOp.xor IntKind.u64 (bits BinOp.and IntKind.u64 (a.getD 0 0) (a.getD 1 0)) (bits BinOp.and IntKind.u64 (a.getD 0 0) (a.getD 2 0))) (bits BinOp.and IntKind.u64 (a.getD 1 0) (a.getD 2 0))))) c, a.getD 0 0, a.getD 1 0, a.getD 2 0, bits BinOp.and IntKind.u64 (IntKind.u64.wrap (a.getD 3 0 + IntKind.u64.wrap (IntKind.u64.wrap (IntKind.u64.wrap (IntKind.u64.wrap (a.getD 7 0 + k) + bits BinOp.xor IntKind.u64 (bits BinOp.and IntKind.u64 (a.getD 4 0) (a.getD 5 0)) (bits BinOp.and IntKind.u64 (bits BinOp.xor IntKind.u64 c (a.getD 4 0)) (a.getD 6 0))) + d.getD b.toNat 0) + f.getD b.toNat 0))) c, a.getD 4 0, a.getD 5 0, a.getD 6 0]) none) none) none) none)) (m i j c b g h d e f a)
abbrev bv7 := Bool × Int × Int × Int × (List Int) × (List Int) × (List Int) × (List Int) × (List Int) × (List Int)
abbrev b4k := bv7
def bxu {ρ : Type} (f : bv7 → Option ρ) : bzn ρ := fun h i j g a b c d k e => f (h, i, j, g, a, b, c, d, k, e)
def bti {ρ : Type} : aeb bv7 b4k ρ := fun (g, h, i, f, a, b, c, d, j, e) next ex => ad5 g h i f a b c d j e (bxu next) (bxu ex)
def b2t {ρ : Type} := shut (lp (bti (ρ := ρ)))
theorem b6h {ρ : Type} : b2t (ρ := ρ) = lp bti := au _
def bv0 {ρ : Type} (f : aec bv7 b4k ρ) (h : Bool) (i j g : Int) (a b c d k e : List Int) (l : bzn ρ) : Option ρ := f (h, i, j, g, a, b, c, d, k, e) (fun (h, i, j, g, a, b, c, d, k, e) => l h i j g a b c d k e)
def ajt {ρ : Type} := bv0 (lp (bti (ρ := ρ)))
def ado {ρ : Type} := bv0 (b2t (ρ := ρ))
theorem aki {ρ : Type} : ado (ρ := ρ) = ajt := congrArg bv0 b6h
abbrev b3f (ρ : Type) := Int → Int → (List Int) → (List Int) → (List Int) → Option ρ
def ad9 {ρ : Type} (e a : Int) (b d c : List Int) (nx f : b3f ρ) : Option ρ := br (decide (a < 8)) (br (decide (0 ≤ a)) (br (decide (a < (↑8 : Int))) (br (decide (0 ≤ a)) (br (decide (a < (↑8 : Int))) (br (decide (0 ≤ a)) (br (decide (a < (↑8 : Int))) (nx e (IntKind.i64.wrap (a + 1)) b d (c.set a.toNat (bits BinOp.and IntKind.u64 (IntKind.u64.wrap (c.getD a.toNat 0 + b.getD a.toNat 0)) e))) none) none) none) none) none) none) (f e a b d c)
abbrev bt0 := Int × Int × (List Int) × (List Int) × (List Int)
abbrev b2c := bt0
def byk {ρ : Type} (f : bt0 → Option ρ) : b3f ρ := fun e d a b c => f (e, d, a, b, c)
def btd {ρ : Type} : aeb bt0 b2c ρ := fun (e, d, a, b, c) next ex => ad9 e d a b c (byk next) (byk ex)
def b5m {ρ : Type} := shut (lp (btd (ρ := ρ)))
theorem b5r {ρ : Type} : b5m (ρ := ρ) = lp btd := au _
def bwo {ρ : Type} (f : aec bt0 b2c ρ) (e d : Int) (a b c : List Int) (g : b3f ρ) : Option ρ := f (e, d, a, b, c) (fun (e, d, a, b, c) => g e d a b c)
def aj6 {ρ : Type} := bwo (lp (btd (ρ := ρ)))
def ad4 {ρ : Type} := bwo (b5m (ρ := ρ))
theorem akh {ρ : Type} : ad4 (ρ := ρ) = aj6 := congrArg bwo b5r
def agb {ρ : Type} (b c : List Int) (a : Bool) (k : (List Int) → Option ρ) : Option ρ := vv fun d => vo fun e => br a (abd c a 80 18446744073709551615 fun o => ado a 80 18446744073709551615 0 b [0, 0, 0, 0, 0, 0, 0, 0] d e o b fun N O p Q q r U s t f => ad4 p 0 q r f fun u v w y g => k g) (abd c a 64 4294967295 fun h => ado a 64 4294967295 0 b [0, 0, 0, 0, 0, 0, 0, 0] d e h b fun z A i B j l C F G m => ad4 i 0 j l m fun H I J M n => k n)
def acz {ρ : Type} := shut (agb (ρ := ρ))
theorem aky {ρ : Type} (a : List Int) (b : List Int) (c : Bool) (k : (List Int) → Option ρ) : acz a b c k = agb a b c k := by unfold acz; rw [au]

abbrev b4z (ρ : Type) := Int → (List Int) → Int → (List Int) → (List Int) → Int → Int → (List Int) → Int → Option ρ
def ai3 {ρ : Type} (a : Int) (b : List Int) (c : Int) (d e : List Int) (f g : Int) (h : List Int) (i : Int) (nx j : b4z ρ) : Option ρ := br (decide ((↑b.length : Int) ≥ a)) (br (decide (0 ≤ a)) (br (decide (a ≤ (↑b.length : Int))) (acz d (List.drop 0 (List.take a.toNat b)) (a == 128) fun k => br (decide (0 ≤ a)) (br (decide (a ≤ (↑b.length : Int))) (br (decide ((↑b.length : Int) ≤ (↑b.length : Int))) (nx a (List.drop a.toNat (List.take (↑b.length : Int).toNat b)) c k e f g h i) none) none) none) none) none) (j a b c d e f g h i)
abbrev bwr := Int × (List Int) × Int × (List Int) × (List Int) × Int × Int × (List Int) × Int
abbrev b1i := bwr
def byy {ρ : Type} (f : bwr → Option ρ) : b4z ρ := fun i j a b c d e g h => f (i, j, a, b, c, d, e, g, h)
def btf {ρ : Type} : aeb bwr b1i ρ := fun (h, i, a, b, c, d, e, f, g) next ex => ai3 h i a b c d e f g (byy next) (byy ex)
def bzf {ρ : Type} := shut (lp (btf (ρ := ρ)))
theorem b6a {ρ : Type} : bzf (ρ := ρ) = lp btf := au _
def bt2 {ρ : Type} (f : aec bwr b1i ρ) (i : Int) (j : List Int) (a : Int) (b c : List Int) (d e : Int) (g : List Int) (h : Int) (k : b4z ρ) : Option ρ := f (i, j, a, b, c, d, e, g, h) (fun (i, j, a, b, c, d, e, g, h) => k i j a b c d e g h)
def asf {ρ : Type} := bt2 (lp (btf (ρ := ρ)))
def amf {ρ : Type} := bt2 (bzf (ρ := ρ))
theorem ao3 {ρ : Type} : amf (ρ := ρ) = asf := congrArg bt2 b6a
def ant {ρ : Type} (a : Int) (c b : List Int) (d : Int) (e : List Int) (k : Int → (List Int) → (List Int) → Int → Option ρ) : Option ρ := wz a fun f => kr [b, e] fun g => amf f g a c b (IntKind.u64.wrap (d + IntKind.u64.wrap (↑e.length : Int))) 0 [0, 0, 0, 0, 0, 0, 0, 0] 0 fun n h i j o l p q m => k i j h l
def abf {ρ : Type} := shut (ant (ρ := ρ))
theorem ay3 {ρ : Type} (b : Int) (a : List Int) (c : List Int) (d : Int) (e : List Int) (k : Int → (List Int) → (List Int) → Int → Option ρ) : abf b a c d e k = ant b a c d e k := by unfold abf; rw [au]

abbrev brg (ρ : Type) := Int → Int → (List Int) → Int → (List Int) → (List Int) → Int → Option ρ
def asi {ρ : Type} (c g : Int) (b : List Int) (d : Int) (e a : List Int) (f : Int) (nx h : brg ρ) : Option ρ := br (decide (c = 0)) none (br ((IntKind.i64.wrap ((↑a.length : Int) + (↑b.length : Int))).tmod c != IntKind.i64.wrap (c - 8)) (br (decide ((b.length + 1) * 1 ≤ 140737488355328)) (nx c g (b ++ [0]) d e a f) none) (h c g b d e a f))
abbrev bux := Int × Int × (List Int) × Int × (List Int) × (List Int) × Int
abbrev b3h := bux
def b4i {ρ : Type} (f : bux → Option ρ) : brg ρ := fun g h e a b c d => f (g, h, e, a, b, c, d)
def bud {ρ : Type} : aeb bux b3h ρ := fun (f, g, e, a, b, c, d) next ex => asi f g e a b c d (b4i next) (b4i ex)
def b4a {ρ : Type} := shut (lp (bud (ρ := ρ)))
theorem b61 {ρ : Type} : b4a (ρ := ρ) = lp bud := au _
def bym {ρ : Type} (f : aec bux b3h ρ) (g h : Int) (e : List Int) (a : Int) (b c : List Int) (d : Int) (i : brg ρ) : Option ρ := f (g, h, e, a, b, c, d) (fun (g, h, e, a, b, c, d) => i g h e a b c d)
def ayz {ρ : Type} := bym (lp (bud (ρ := ρ)))
def arp {ρ : Type} := bym (b4a (ρ := ρ))
theorem bb4 {ρ : Type} : arp (ρ := ρ) = ayz := congrArg bym b61
abbrev zc42 (ρ : Type) := Int → Int → (List Int) → Int → (List Int) → (List Int) → Int → Option ρ
def arb {ρ : Type} (c g : Int) (b : List Int) (d : Int) (e a : List Int) (f : Int) (nx h : brg ρ) : Option ρ := br (decide (c = 0)) none (br ((IntKind.i64.wrap ((↑a.length : Int) + (↑b.length : Int))).tmod c != IntKind.i64.wrap (c - 16)) (br (decide ((b.length + 1) * 1 ≤ 140737488355328)) (nx c g (b ++ [0]) d e a f) none) (h c g b d e a f))
abbrev bu4 := Int × Int × (List Int) × Int × (List Int) × (List Int) × Int
abbrev b4u := bu4
def b0q {ρ : Type} (f : bu4 → Option ρ) : zc42 ρ := fun g h e a b c d => f (g, h, e, a, b, c, d)
def bwl {ρ : Type} : aeb bu4 b4u ρ := fun (f, g, e, a, b, c, d) next ex => arb f g e a b c d (b0q next) (b0q ex)
def b3w {ρ : Type} := shut (lp (bwl (ρ := ρ)))
theorem b6k {ρ : Type} : b3w (ρ := ρ) = lp bwl := au _
def byz {ρ : Type} (f : aec bu4 b4u ρ) (g h : Int) (e : List Int) (a : Int) (b c : List Int) (d : Int) (i : brg ρ) : Option ρ := f (g, h, e, a, b, c, d) (fun (g, h, e, a, b, c, d) => i g h e a b c d)
def azh {ρ : Type} := byz (lp (bwl (ρ := ρ)))
def ars {ρ : Type} := byz (b3w (ρ := ρ))
theorem bas {ρ : Type} : ars (ρ := ρ) = azh := congrArg byz b6k
abbrev zc43 (ρ : Type) := Int → Int → (List Int) → Int → (List Int) → (List Int) → Int → Option ρ
def an3 {ρ : Type} (g c : Int) (a : List Int) (d : Int) (b e : List Int) (f : Int) (nx i : brg ρ) : Option ρ := br (decide (c < 8)) (br (decide (0 ≤ c)) (br (decide (c < (↑8 : Int))) (gy (b.getD c.toNat 0) (IntKind.i64.wrap (g.tdiv 16)) fun h => br (decide ((a.length + h.length) * 1 ≤ 140737488355328)) (nx g (IntKind.i64.wrap (c + 1)) (a ++ h) d b e f) none) none) none) (i g c a d b e f)
abbrev bt5 := Int × Int × (List Int) × Int × (List Int) × (List Int) × Int
abbrev b0d := bt5
def b2m {ρ : Type} (f : bt5 → Option ρ) : zc43 ρ := fun g h a b c d e => f (g, h, a, b, c, d, e)
def bxi {ρ : Type} : aeb bt5 b0d ρ := fun (f, g, a, b, c, d, e) next ex => an3 f g a b c d e (b2m next) (b2m ex)
def b3i {ρ : Type} := shut (lp (bxi (ρ := ρ)))
theorem b6e {ρ : Type} : b3i (ρ := ρ) = lp bxi := au _
def bxp {ρ : Type} (f : aec bt5 b0d ρ) (g h : Int) (a : List Int) (b : Int) (c d : List Int) (e : Int) (i : brg ρ) : Option ρ := f (g, h, a, b, c, d, e) (fun (g, h, a, b, c, d, e) => i g h a b c d e)
def avw {ρ : Type} := bxp (lp (bxi (ρ := ρ)))
def ajj {ρ : Type} := bxp (b3i (ρ := ρ))
theorem ayb {ρ : Type} : ajj (ρ := ρ) = avw := congrArg bxp b6e
def aol {ρ : Type} (a : Int) (c d : List Int) (b : Int) (k : (List Int) → Option ρ) : Option ρ := wz a fun J => arp J (IntKind.u64.wrap (b * 8)) [128] a c d b fun m n o p q r s => br (m == 128) (ars m n [128] p q r s fun M N e t u v i => gy (i.fdiv (2 ^ 61)) 8 fun f => br (decide ((e.length + f.length) * 1 ≤ 140737488355328)) (gy N 8 fun j => br (decide (((e ++ f).length + j.length) * 1 ≤ 140737488355328)) (abf t u v i (e ++ f ++ j) fun w y z A => ajj M 0 [] w y z A fun O Q g B U W Z => br (B == 2) (br (decide (48 ≤ (↑g.length : Int))) (k (List.take ((48 : Int) - (0 : Int)).toNat g)) none) (k g)) none) none) (gy n 8 fun l => br (decide ((o.length + l.length) * 1 ≤ 140737488355328)) (abf p q r s (o ++ l) fun C F G H => ajj m 0 [] C F G H fun aa ab h I ac ad ae => br (I == 2) (br (decide (48 ≤ (↑h.length : Int))) (k (List.take ((48 : Int) - (0 : Int)).toNat h)) none) (k h)) none)
def ag4 {ρ : Type} := shut (aol (ρ := ρ))
theorem azj {ρ : Type} (b : Int) (a : List Int) (c : List Int) (d : Int) (k : (List Int) → Option ρ) : ag4 b a c d k = aol b a c d k := by unfold ag4; rw [au]

def anw {ρ : Type} (b : Int) (c : List Int) (k : (List Int) → Int → Option ρ) : Option ρ := ag2 b fun d e f g a => br (a != 0) (k [] a) (abf d e f g c fun h i j l => ag4 h i j l fun m => k m 0)
def agw {ρ : Type} := shut (anw (ρ := ρ))
theorem azx {ρ : Type} (a : Int) (b : List Int) (k : (List Int) → Int → Option ρ) : agw a b k = anw a b k := by unfold agw; rw [au]

def au5 {ρ : Type} (a : List (List Int)) (k : (List Int) → Option ρ) : Option ρ := kr a fun b => agw 1 b fun c d => k c
def ad1 {ρ : Type} := shut (au5 (ρ := ρ))
theorem bjd {ρ : Type} (a : List (List Int)) (k : (List Int) → Option ρ) : ad1 a k = au5 a k := by unfold ad1; rw [au]

def ama {ρ : Type} (a : List Int) (b c : Int) (d : List Int) (k : (List Int) → Option ρ) : Option ρ := gy (IntKind.u64.wrap b) 4 fun e => gy (IntKind.u64.wrap c) 2 fun f => ad1 [a, e, f, [255], d] fun g => k g
def acf {ρ : Type} := shut (ama (ρ := ρ))
theorem avc {ρ : Type} (a : List Int) (b : Int) (c : Int) (d : List Int) (k : (List Int) → Option ρ) : acf a b c d k = ama a b c d k := by unfold acf; rw [au]

abbrev b34 (ρ : Type) := (List Int) → Int → Int → Int → (List Int) → Int → Option ρ
def akx {ρ : Type} (b : List Int) (c d e : Int) (f : List Int) (a : Int) (nx g : b34 ρ) : Option ρ := br (decide (a < e)) (gy (IntKind.u64.wrap c) 4 fun h => gy (IntKind.u64.wrap d) 2 fun i => ad1 [b, h, i, [IntKind.u8.wrap a], f] fun j => nx b c d e j (IntKind.i64.wrap (a + 1))) (g b c d e f a)
abbrev bun := (List Int) × Int × Int × Int × (List Int) × Int
abbrev b5i := bun
def bz0 {ρ : Type} (f : bun → Option ρ) : b34 ρ := fun b c d e g a => f (b, c, d, e, g, a)
def bw8 {ρ : Type} : aeb bun b5i ρ := fun (b, c, d, e, f, a) next ex => akx b c d e f a (bz0 next) (bz0 ex)
def b4s {ρ : Type} := shut (lp (bw8 (ρ := ρ)))
theorem b6f {ρ : Type} : b4s (ρ := ρ) = lp bw8 := au _
def by3 {ρ : Type} (f : aec bun b5i ρ) (b : List Int) (c d e : Int) (g : List Int) (a : Int) (h : b34 ρ) : Option ρ := f (b, c, d, e, g, a) (fun (b, c, d, e, g, a) => h b c d e g a)
def atw {ρ : Type} := by3 (lp (bw8 (ρ := ρ)))
def asy {ρ : Type} := by3 (b4s (ρ := ρ))
theorem axc {ρ : Type} : asy (ρ := ρ) = atw := congrArg by3 b6f
def ajd {ρ : Type} (a : List Int) (b c d e : Int) (f : List Int) (k : (List Int) → Option ρ) : Option ρ := asy a b c e f d fun h i j l g m => k g
def aaq {ρ : Type} := shut (ajd (ρ := ρ))
theorem as3 {ρ : Type} (a : List Int) (b : Int) (c : Int) (d : Int) (e : Int) (f : List Int) (k : (List Int) → Option ρ) : aaq a b c d e f k = ajd a b c d e f k := by unfold aaq; rw [au]

def anr {ρ : Type} (a : List Int) (b : Int) (c : List (List Int)) (k : (List Int) → Option ρ) : Option ρ := gy (IntKind.u64.wrap b) 4 fun d => gy 32896 2 fun e => kr c fun f => ad1 [a, d, e, f] fun g => k g
def ajr {ρ : Type} := shut (anr (ρ := ρ))
theorem ayu {ρ : Type} (a : List Int) (b : Int) (c : List (List Int)) (k : (List Int) → Option ρ) : ajr a b c k = anr a b c k := by unfold ajr; rw [au]

abbrev bzo (ρ : Type) := Int → (List Int) → Int → (List Int) → Int → Int → (List (List Int)) → Option ρ
def ajy {ρ : Type} (c : Int) (d : List Int) (e : Int) (f : List Int) (b a : Int) (g : List (List Int)) (nx h : bzo ρ) : Option ρ := br (decide (a < b)) (br (decide (c < 0)) none (acf d e a f fun i => aaq d e a 0 (IntKind.i64.wrap (IntKind.i64.wrap (1 * 2 ^ min c.toNat 64) - 1)) i fun j => br (decide ((g.length + 1) * 24 ≤ 140737488355328)) (nx c d e f b (IntKind.i64.wrap (a + 1)) (g ++ [j])) none)) (h c d e f b a g)
abbrev bwm := Int × (List Int) × Int × (List Int) × Int × Int × (List (List Int))
abbrev b0b := bwm
def b2d {ρ : Type} (f : bwm → Option ρ) : bzo ρ := fun c d e g a b h => f (c, d, e, g, a, b, h)
def bw4 {ρ : Type} : aeb bwm b0b ρ := fun (c, d, e, f, a, b, g) next ex => ajy c d e f a b g (b2d next) (b2d ex)
def b2g {ρ : Type} := shut (lp (bw4 (ρ := ρ)))
theorem b6w {ρ : Type} : b2g (ρ := ρ) = lp bw4 := au _
def byw {ρ : Type} (f : aec bwm b0b ρ) (c : Int) (d : List Int) (e : Int) (g : List Int) (a b : Int) (h : List (List Int)) (i : bzo ρ) : Option ρ := f (c, d, e, g, a, b, h) (fun (c, d, e, g, a, b, h) => i c d e g a b h)
def ao9 {ρ : Type} := byw (lp (bw4 (ρ := ρ)))
def apg {ρ : Type} := byw (b2g (ρ := ρ))
theorem aul {ρ : Type} : apg (ρ := ρ) = ao9 := congrArg byw b6w
def aii {ρ : Type} (a : Int) (b : List Int) (g : Int) (c : List Int) (k : (List Int) → Int → Option ρ) : Option ρ := aap a b c fun d => br (d != 0) (k [] d) (om a fun h l m => apg a b g c h 0 [] fun n i j o p q e => ajr i j e fun f => k f 0)
def ab9 {ρ : Type} := shut (aii (ρ := ρ))
theorem aqx {ρ : Type} (a : Int) (b : List Int) (c : Int) (d : List Int) (k : (List Int) → Int → Option ρ) : ab9 a b c d k = aii a b c d k := by unfold ab9; rw [au]

def ahg {ρ : Type} (a : List Int) (b : Int) (c : List Int) (k : (List Int) → Option ρ) : Option ρ := gy b 4 fun d => gy 33410 2 fun e => ad1 [a, d, e, c] fun f => k f
def x9 {ρ : Type} := shut (ahg (ρ := ρ))
theorem am1 {ρ : Type} (a : List Int) (b : Int) (c : List Int) (k : (List Int) → Option ρ) : x9 a b c k = ahg a b c k := by unfold x9; rw [au]

def akv {ρ : Type} (a : List Int) (b : Int) (c d : List Int) (k : (List Int) → Option ρ) : Option ρ := gy b 4 fun e => gy 33667 2 fun f => ad1 [a, e, f, c, d] fun g => k g
def adv {ρ : Type} := shut (akv (ρ := ρ))
theorem axg {ρ : Type} (a : List Int) (b : Int) (c : List Int) (d : List Int) (k : (List Int) → Option ρ) : adv a b c d k = akv a b c d k := by unfold adv; rw [au]

abbrev bzv (ρ : Type) := (List Int) → (List Int) → Int → Int → Int → Int → (List (List Int)) → Option ρ
def aku {ρ : Type} (e g : List Int) (f a d b : Int) (c : List (List Int)) (nx h : bzv ρ) : Option ρ := br (decide (a ≥ 1)) (br (decide (a ≥ f)) (ab9 b e (IntKind.u32.wrap (IntKind.i64.wrap (a - f))) g fun i l => x9 e (IntKind.u64.wrap a) i fun j => br (decide (0 ≤ a)) (br (decide (a < (↑c.length : Int))) (nx e g f (IntKind.i64.wrap (a - 1)) d b (c.set a.toNat j)) none) none) (br (decide (0 ≤ IntKind.i64.wrap (2 * a))) (br (decide (IntKind.i64.wrap (2 * a) < (↑c.length : Int))) (br (decide (0 ≤ IntKind.i64.wrap (IntKind.i64.wrap (2 * a) + 1))) (br (decide (IntKind.i64.wrap (IntKind.i64.wrap (2 * a) + 1) < (↑c.length : Int))) (adv e (IntKind.u64.wrap a) (c.getD (IntKind.i64.wrap (2 * a)).toNat []) (c.getD (IntKind.i64.wrap (IntKind.i64.wrap (2 * a) + 1)).toNat []) fun k => br (decide (0 ≤ a)) (br (decide (a < (↑c.length : Int))) (nx e g f (IntKind.i64.wrap (a - 1)) d b (c.set a.toNat k)) none) none) none) none) none) none)) (h e g f a d b c)
abbrev bwe := (List Int) × (List Int) × Int × Int × Int × Int × (List (List Int))
abbrev b5f := bwe
def b05 {ρ : Type} (f : bwe → Option ρ) : bzv ρ := fun c d e g a b h => f (c, d, e, g, a, b, h)
def bup {ρ : Type} : aeb bwe b5f ρ := fun (c, d, e, f, a, b, g) next ex => aku c d e f a b g (b05 next) (b05 ex)
def b3o {ρ : Type} := shut (lp (bup (ρ := ρ)))
theorem b5v {ρ : Type} : b3o (ρ := ρ) = lp bup := au _
def bya {ρ : Type} (f : aec bwe b5f ρ) (c d : List Int) (e g a b : Int) (h : List (List Int)) (i : bzv ρ) : Option ρ := f (c, d, e, g, a, b, h) (fun (c, d, e, g, a, b, h) => i c d e g a b h)
def atg {ρ : Type} := bya (lp (bup (ρ := ρ)))
def ath {ρ : Type} := bya (b3o (ρ := ρ))
theorem avd {ρ : Type} : ath (ρ := ρ) = atg := congrArg bya b5v
def ajp {ρ : Type} (a b : Int) (c d : List Int) (k : (List (List Int)) → Option ρ) : Option ρ := br (decide (a < 0)) none (br (decide (0 ≤ IntKind.i64.wrap (2 * IntKind.i64.wrap (1 * 2 ^ min a.toNat 64)))) (br (decide (IntKind.i64.wrap (2 * IntKind.i64.wrap (1 * 2 ^ min a.toNat 64)) ≤ IntKind.i64.wrap (2 * IntKind.i64.wrap (1 * 2 ^ min a.toNat 64)))) (br (decide (IntKind.i64.wrap (2 * IntKind.i64.wrap (1 * 2 ^ min a.toNat 64)) * (↑24 : Int) ≤ (↑140737488355328 : Int))) (ath c d (IntKind.i64.wrap (1 * 2 ^ min a.toNat 64)) (IntKind.i64.wrap (IntKind.i64.wrap (2 * IntKind.i64.wrap (1 * 2 ^ min a.toNat 64)) - 1)) a b (List.replicate (IntKind.i64.wrap (2 * IntKind.i64.wrap (1 * 2 ^ min a.toNat 64))).toNat []) fun f g h i j l e => k e) none) none) none)
def aam {ρ : Type} := shut (ajp (ρ := ρ))
theorem atq {ρ : Type} (a : Int) (b : Int) (c : List Int) (d : List Int) (k : (List (List Int)) → Option ρ) : aam a b c d k = ajp a b c d k := by unfold aam; rw [au]

def aij {ρ : Type} (a b : Int) (c d : List Int) (k : (List Int) → Int → Option ρ) : Option ρ := wm a b c d fun e => br (e != 0) (k [] e) (af6 a b fun g => aam a b c d fun f => br (decide (1 < (↑f.length : Int))) (kr [g, c, f.getD 1 []] fun h => k h 0) none)
def wh {ρ : Type} := shut (aij (ρ := ρ))
theorem aqi {ρ : Type} (a : Int) (b : Int) (c : List Int) (d : List Int) (k : (List Int) → Int → Option ρ) : wh a b c d k = aij a b c d k := by unfold wh; rw [au]

def ae7 {ρ : Type} (a : Nat) (b c e d : List Int) (k : (List Int) → Int → Option ρ) : Option ρ := zm a b c e d fun h => br (!h) (k [] 10) (br (decide (0 < (↑a : Int))) (wh (b.getD 0 0) (c.getD 0 0) e d fun f i => gy (IntKind.u64.wrap (↑a : Int)) 4 fun g => br (decide ((g.length + f.length) * 1 ≤ 140737488355328)) (k (g ++ f) 0) none) none)
def aas {ρ : Type} := shut (ae7 (ρ := ρ))
theorem aju {ρ : Type} (a : Nat) (b : List Int) (c : List Int) (e : List Int) (d : List Int) (k : (List Int) → Int → Option ρ) : aas a b c e d k = ae7 a b c e d k := by unfold aas; rw [au]

end P
end
