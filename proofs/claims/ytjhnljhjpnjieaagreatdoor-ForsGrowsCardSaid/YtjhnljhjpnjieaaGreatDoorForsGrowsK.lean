/-
  ForsGrows, part 11: an interpreter of my own over abstract values, the pure functions, the walks and the plain law.
-/

import Derived.Test.YtjhnljhjpnjieaaGreatDoorForsGrowsG
import Derived.Test.YtjhnljhjpnjieaaGreatDoorForsGrowsI
import Derived.Test.YtjhnljhjpnjieaaGreatDoorForsGrowsJ

noncomputable section
open Go Go.Abs
set_option linter.unusedVariables false
namespace P

abbrev zc8 (ρ : Type) := Int → (List Int) → (List Int) → (List Int) → Option ρ
def agt {ρ : Type} (a : Int) (c b d : List Int) (nx e : zc8 ρ) : Option ρ := br (decide (a < 5)) (br (decide (0 ≤ a)) (br (decide (a < (↑25 : Int))) (br (decide (0 ≤ IntKind.i64.wrap (a + 5))) (br (decide (IntKind.i64.wrap (a + 5) < (↑25 : Int))) (br (decide (0 ≤ IntKind.i64.wrap (a + 10))) (br (decide (IntKind.i64.wrap (a + 10) < (↑25 : Int))) (br (decide (0 ≤ IntKind.i64.wrap (a + 15))) (br (decide (IntKind.i64.wrap (a + 15) < (↑25 : Int))) (br (decide (0 ≤ IntKind.i64.wrap (a + 20))) (br (decide (IntKind.i64.wrap (a + 20) < (↑25 : Int))) (br (decide (0 ≤ a)) (br (decide (a < (↑5 : Int))) (nx (IntKind.i64.wrap (a + 1)) c b (d.set a.toNat (bits BinOp.xor IntKind.u64 (bits BinOp.xor IntKind.u64 (bits BinOp.xor IntKind.u64 (bits BinOp.xor IntKind.u64 (b.getD a.toNat 0) (b.getD (IntKind.i64.wrap (a + 5)).toNat 0)) (b.getD (IntKind.i64.wrap (a + 10)).toNat 0)) (b.getD (IntKind.i64.wrap (a + 15)).toNat 0)) (b.getD (IntKind.i64.wrap (a + 20)).toNat 0)))) none) none) none) none) none) none) none) none) none) none) none) none) (e a c b d)
abbrev zt8 := Int × (List Int) × (List Int) × (List Int)
abbrev zy8 := zt8
def zu8 {ρ : Type} (f : zt8 → Option ρ) : zc8 ρ := fun d a b c => f (d, a, b, c)
def zs8 {ρ : Type} : aea zt8 zy8 ρ := fun (d, a, b, c) next ex => agt d a b c (zu8 next) (zu8 ex)
def zm8 {ρ : Type} := shut (lp (zs8 (ρ := ρ)))
theorem ze8 {ρ : Type} : zm8 (ρ := ρ) = lp zs8 := bn _
def zk8 {ρ : Type} (f : aeg zt8 zy8 ρ) (d : Int) (a b c : List Int) (e : zc8 ρ) : Option ρ := f (d, a, b, c) (fun (d, a, b, c) => e d a b c)
def agz {ρ : Type} := zk8 (lp (zs8 (ρ := ρ)))
def ac1 {ρ : Type} := zk8 (zm8 (ρ := ρ))
theorem akr {ρ : Type} : ac1 (ρ := ρ) = agz := congrArg zk8 ze8
abbrev zc9 (ρ : Type) := Int → Int → Int → Int → Int → (List Int) → (List Int) → (List Int) → (List Int) → Option ρ
def aaq {ρ : Type} (i b h a g : Int) (d e f c : List Int) (nx j : zc9 ρ) : Option ρ := br (decide (a < 25)) (br (decide (0 ≤ IntKind.i64.wrap (b + a))) (br (decide (IntKind.i64.wrap (b + a) < (↑25 : Int))) (br (decide (0 ≤ IntKind.i64.wrap (b + a))) (br (decide (IntKind.i64.wrap (b + a) < (↑25 : Int))) (nx i b h (IntKind.i64.wrap (a + 5)) g d e f (c.set (IntKind.i64.wrap (b + a)).toNat (bits BinOp.xor IntKind.u64 (c.getD (IntKind.i64.wrap (b + a)).toNat 0) h))) none) none) none) none) (j i b h a g d e f c)
abbrev zt9 := Int × Int × Int × Int × Int × (List Int) × (List Int) × (List Int) × (List Int)
abbrev zy9 := zt9
def zu9 {ρ : Type} (f : zt9 → Option ρ) : zc9 ρ := fun g h i j e a b c d => f (g, h, i, j, e, a, b, c, d)
def zs9 {ρ : Type} : aea zt9 zy9 ρ := fun (f, g, h, i, e, a, b, c, d) next ex => aaq f g h i e a b c d (zu9 next) (zu9 ex)
def zm9 {ρ : Type} := shut (lp (zs9 (ρ := ρ)))
theorem ze9 {ρ : Type} : zm9 (ρ := ρ) = lp zs9 := bn _
def zk9 {ρ : Type} (f : aeg zt9 zy9 ρ) (g h i j e : Int) (a b c d : List Int) (k : zc9 ρ) : Option ρ := f (g, h, i, j, e, a, b, c, d) (fun (g, h, i, j, e, a, b, c, d) => k g h i j e a b c d)
def aar {ρ : Type} := zk9 (lp (zs9 (ρ := ρ)))
def aha {ρ : Type} := zk9 (zm9 (ρ := ρ))
theorem aa6 {ρ : Type} : aha (ρ := ρ) = aar := congrArg zk9 ze9
abbrev bs7 (ρ : Type) := Int → Int → (List Int) → (List Int) → (List Int) → (List Int) → Option ρ
def ahj {ρ : Type} (f a : Int) (c d e b : List Int) (nx g : bs7 ρ) : Option ρ := br (decide (a < 5)) (br (decide (0 ≤ (IntKind.i64.wrap (a + 4)).tmod 5)) (br (decide ((IntKind.i64.wrap (a + 4)).tmod 5 < (↑5 : Int))) (br (decide (0 ≤ (IntKind.i64.wrap (a + 1)).tmod 5)) (br (decide ((IntKind.i64.wrap (a + 1)).tmod 5 < (↑5 : Int))) (iq (b.getD ((IntKind.i64.wrap (a + 1)).tmod 5).toNat 0) 1 fun h => aha f a (bits BinOp.xor IntKind.u64 (b.getD ((IntKind.i64.wrap (a + 4)).tmod 5).toNat 0) h) 0 a b e d c fun i o p q j k l m n => nx i (IntKind.i64.wrap (j + 1)) n m l k) none) none) none) none) (g f a c d e b)
abbrev bsx := Int × Int × (List Int) × (List Int) × (List Int) × (List Int)
abbrev b1r := bsx
def bx3 {ρ : Type} (f : bsx → Option ρ) : bs7 ρ := fun g e a b c d => f (g, e, a, b, c, d)
def bqo {ρ : Type} : aea bsx b1r ρ := fun (f, e, a, b, c, d) next ex => ahj f e a b c d (bx3 next) (bx3 ex)
def b2h {ρ : Type} := shut (lp (bqo (ρ := ρ)))
theorem b2s {ρ : Type} : b2h (ρ := ρ) = lp bqo := bn _
def bvv {ρ : Type} (f : aeg bsx b1r ρ) (g e : Int) (a b c d : List Int) (h : bs7 ρ) : Option ρ := f (g, e, a, b, c, d) (fun (g, e, a, b, c, d) => h g e a b c d)
def ahl {ρ : Type} := bvv (lp (bqo (ρ := ρ)))
def ac7 {ρ : Type} := bvv (b2h (ρ := ρ))
theorem aks {ρ : Type} : ac7 (ρ := ρ) = ahl := congrArg bvv b2s
abbrev b03 (ρ : Type) := Int → Int → (List Int) → Int → (List Int) → (List Int) → (List Int) → (List Int) → Option ρ
def af6 {ρ : Type} (g h : Int) (b : List Int) (a : Int) (d e f c : List Int) (nx i : b03 ρ) : Option ρ := br (decide (a < 24)) (br (decide (0 ≤ a)) (br (decide (a < (↑24 : Int))) (br (decide (0 ≤ a)) (br (decide (a < (↑24 : Int))) (iq h (bva.getD a.toNat 0) fun j => br (decide (0 ≤ b.getD a.toNat 0)) (br (decide (b.getD a.toNat 0 < (↑25 : Int))) (br (decide (0 ≤ b.getD a.toNat 0)) (br (decide (b.getD a.toNat 0 < (↑25 : Int))) (nx g (c.getD (b.getD a.toNat 0).toNat 0) b (IntKind.i64.wrap (a + 1)) d e f (c.set (b.getD a.toNat 0).toNat j)) none) none) none) none) none) none) none) none) (i g h b a d e f c)
abbrev bse := Int × Int × (List Int) × Int × (List Int) × (List Int) × (List Int) × (List Int)
abbrev bx7 := bse
def bwm {ρ : Type} (f : bse → Option ρ) : b03 ρ := fun h i e g a b c d => f (h, i, e, g, a, b, c, d)
def bsm {ρ : Type} : aea bse bx7 ρ := fun (g, h, e, f, a, b, c, d) next ex => af6 g h e f a b c d (bwm next) (bwm ex)
def bwq {ρ : Type} := shut (lp (bsm (ρ := ρ)))
theorem b21 {ρ : Type} : bwq (ρ := ρ) = lp bsm := bn _
def bvl {ρ : Type} (f : aeg bse bx7 ρ) (h i : Int) (e : List Int) (g : Int) (a b c d : List Int) (j : b03 ρ) : Option ρ := f (h, i, e, g, a, b, c, d) (fun (h, i, e, g, a, b, c, d) => j h i e g a b c d)
def af9 {ρ : Type} := bvl (lp (bsm (ρ := ρ)))
def aco {ρ : Type} := bvl (bwq (ρ := ρ))
theorem ajk {ρ : Type} : aco (ρ := ρ) = af9 := congrArg bvl b21
abbrev b1d (ρ : Type) := Int → Int → Int → (List Int) → (List Int) → (List Int) → (List Int) → (List Int) → Option ρ
def zw {ρ : Type} (h c a : Int) (d e f g b : List Int) (nx i : b1d ρ) : Option ρ := br (decide (a < 5)) (br (decide (0 ≤ a)) (br (decide (a < (↑5 : Int))) (br (decide (0 ≤ (IntKind.i64.wrap (a + 2)).tmod 5)) (br (decide ((IntKind.i64.wrap (a + 2)).tmod 5 < (↑5 : Int))) (br (decide (0 ≤ (IntKind.i64.wrap (a + 1)).tmod 5)) (br (decide ((IntKind.i64.wrap (a + 1)).tmod 5 < (↑5 : Int))) (br (decide (0 ≤ IntKind.i64.wrap (c + a))) (br (decide (IntKind.i64.wrap (c + a) < (↑25 : Int))) (nx h c (IntKind.i64.wrap (a + 1)) d e f (g.set (IntKind.i64.wrap (c + a)).toNat (bits BinOp.xor IntKind.u64 (b.getD a.toNat 0) (bits BinOp.andNot IntKind.u64 (b.getD ((IntKind.i64.wrap (a + 2)).tmod 5).toNat 0) (b.getD ((IntKind.i64.wrap (a + 1)).tmod 5).toNat 0)))) b) none) none) none) none) none) none) none) none) (i h c a d e f g b)
abbrev btn := Int × Int × Int × (List Int) × (List Int) × (List Int) × (List Int) × (List Int)
abbrev bwn := btn
def br3 {ρ : Type} (f : btn → Option ρ) : b1d ρ := fun i g h a b c d e => f (i, g, h, a, b, c, d, e)
def zs12 {ρ : Type} : aea btn bwn ρ := fun (h, f, g, a, b, c, d, e) next ex => zw h f g a b c d e (br3 next) (br3 ex)
def b06 {ρ : Type} := shut (lp (zs12 (ρ := ρ)))
theorem b22 {ρ : Type} : b06 (ρ := ρ) = lp zs12 := bn _
def bp5 {ρ : Type} (f : aeg btn bwn ρ) (i g h : Int) (a b c d e : List Int) (j : b1d ρ) : Option ρ := f (i, g, h, a, b, c, d, e) (fun (i, g, h, a, b, c, d, e) => j i g h a b c d e)
def zq {ρ : Type} := bp5 (lp (zs12 (ρ := ρ)))
def af7 {ρ : Type} := bp5 (b06 (ρ := ρ))
theorem aao {ρ : Type} : af7 (ρ := ρ) = zq := congrArg bp5 b22
abbrev zc13 (ρ : Type) := Int → Int → (List Int) → (List Int) → (List Int) → (List Int) → Option ρ
def af8 {ρ : Type} (f a : Int) (b c d e : List Int) (nx g : bs7 ρ) : Option ρ := br (decide (a < 25)) (br (decide (0 ≤ a)) (br (decide (a ≤ IntKind.i64.wrap (a + 5))) (br (decide (IntKind.i64.wrap (a + 5) ≤ (↑25 : Int))) (br (decide (5 ≤ (IntKind.i64.wrap (a + 5) - a).toNat)) (br (decide (a.toNat + 5 ≤ 25)) (af7 f a 0 e d c b (List.take 5 (List.drop a.toNat b)) fun h i n j k l m o => nx h (IntKind.i64.wrap (i + 5)) m l k j) none) none) none) none) none) (g f a b c d e)
abbrev bq8 := Int × Int × (List Int) × (List Int) × (List Int) × (List Int)
abbrev bzz := bq8
def bxa {ρ : Type} (f : bq8 → Option ρ) : zc13 ρ := fun g e a b c d => f (g, e, a, b, c, d)
def bqt {ρ : Type} : aea bq8 bzz ρ := fun (f, e, a, b, c, d) next ex => af8 f e a b c d (bxa next) (bxa ex)
def b04 {ρ : Type} := shut (lp (bqt (ρ := ρ)))
theorem b3m {ρ : Type} : b04 (ρ := ρ) = lp bqt := bn _
def bv5 {ρ : Type} (f : aeg bq8 bzz ρ) (g e : Int) (a b c d : List Int) (h : bs7 ρ) : Option ρ := f (g, e, a, b, c, d) (fun (g, e, a, b, c, d) => h g e a b c d)
def af5 {ρ : Type} := bv5 (lp (bqt (ρ := ρ)))
def acr {ρ : Type} := bv5 (b04 (ρ := ρ))
theorem aju {ρ : Type} : acr (ρ := ρ) = af5 := congrArg bv5 b3m
abbrev b0c (ρ : Type) := (List Int) → Int → (List Int) → (List Int) → Option ρ
def ael {ρ : Type} (e : List Int) (a : Int) (b c : List Int) (nx o : b0c ρ) : Option ρ := br (decide (a < 24)) (br (decide (0 ≤ a)) (br (decide (a < (↑24 : Int))) (ac1 0 c b [0, 0, 0, 0, 0] fun C p q f => ac7 (e.getD a.toNat 0) 0 q p f f fun r F g s t u => aco r (g.getD 1 0) bpu 0 u t s g fun h v w y i j k l => acr h 0 l k j i fun m z d n A B => nx e (IntKind.i64.wrap (a + 1)) (d.set 0 (bits BinOp.xor IntKind.u64 (d.getD 0 0) m)) n) none) none) (o e a b c)
abbrev bul := (List Int) × Int × (List Int) × (List Int)
abbrev b08 := bul
def bzr {ρ : Type} (f : bul → Option ρ) : b0c ρ := fun c d a b => f (c, d, a, b)
def btr {ρ : Type} : aea bul b08 ρ := fun (c, d, a, b) next ex => ael c d a b (bzr next) (bzr ex)
def b07 {ρ : Type} := shut (lp (btr (ρ := ρ)))
theorem b37 {ρ : Type} : b07 (ρ := ρ) = lp btr := bn _
def bvp {ρ : Type} (f : aeg bul b08 ρ) (c : List Int) (d : Int) (a b : List Int) (e : b0c ρ) : Option ρ := f (c, d, a, b) (fun (c, d, a, b) => e c d a b)
def ai4 {ρ : Type} := bvp (lp (btr (ρ := ρ)))
def ai1 {ρ : Type} := bvp (b07 (ρ := ρ))
theorem amj {ρ : Type} : ai1 (ρ := ρ) = ai4 := congrArg bvp b37
def adw {ρ : Type} (a : List Int) (k : (List Int) → Option ρ) : Option ρ := ai1 bgi 0 a [0, 0, 0, 0, 0, 0, 0, 0, 0, 0, 0, 0, 0, 0, 0, 0, 0, 0, 0, 0, 0, 0, 0, 0, 0] fun c d b e => k b
def ig {ρ : Type} := shut (adw (ρ := ρ))
theorem ajf {ρ : Type} (a : List Int) (k : (List Int) → Option ρ) : ig a k = adw a k := by unfold ig; rw [bn]

abbrev b0i (ρ : Type) := (List Int) → Int → Int → Int → Int → (List Int) → Int → Bool → Int → (List Int) → Int → Bool → Option ρ
def aft {ρ : Type} (k : List Int) (l j b d : Int) (c : List Int) (a : Int) (e : Bool) (f : Int) (g : List Int) (h : Int) (i : Bool) (nx m : b0i ρ) : Option ρ := br (decide (b < j)) (br (decide (0 ≤ b)) (br (decide (b < (↑k.length : Int))) (br (decide (0 ≤ IntKind.i64.wrap (a.tdiv 8))) (br (decide (IntKind.i64.wrap (a.tdiv 8) < (↑25 : Int))) (br (decide (IntKind.i64.wrap (8 * a.tmod 8) < 0)) none (br (decide (0 ≤ IntKind.i64.wrap (a.tdiv 8))) (br (decide (IntKind.i64.wrap (a.tdiv 8) < (↑25 : Int))) (br (IntKind.i64.wrap (a + 1) == l) (ig (c.set (IntKind.i64.wrap (a.tdiv 8)).toNat (bits BinOp.xor IntKind.u64 (c.getD (IntKind.i64.wrap (a.tdiv 8)).toNat 0) (IntKind.u64.wrap (IntKind.u64.wrap (k.getD b.toNat 0) * 2 ^ min (IntKind.i64.wrap (8 * a.tmod 8)).toNat 64)))) fun n => nx k l j (IntKind.i64.wrap (b + 1)) d n 0 e f g h i) (nx k l j (IntKind.i64.wrap (b + 1)) d (c.set (IntKind.i64.wrap (a.tdiv 8)).toNat (bits BinOp.xor IntKind.u64 (c.getD (IntKind.i64.wrap (a.tdiv 8)).toNat 0) (IntKind.u64.wrap (IntKind.u64.wrap (k.getD b.toNat 0) * 2 ^ min (IntKind.i64.wrap (8 * a.tmod 8)).toNat 64)))) (IntKind.i64.wrap (a + 1)) e f g h i)) none) none)) none) none) none) none) (m k l j b d c a e f g h i)
abbrev br4 := (List Int) × Int × Int × Int × Int × (List Int) × Int × Bool × Int × (List Int) × Int × Bool
abbrev bxc := br4
def b1u {ρ : Type} (f : br4 → Option ρ) : b0i ρ := fun l m j k a b c d e g h i => f (l, m, j, k, a, b, c, d, e, g, h, i)
def brb {ρ : Type} : aea br4 bxc ρ := fun (k, l, i, j, a, b, c, d, e, f, g, h) next ex => aft k l i j a b c d e f g h (b1u next) (b1u ex)
def b1v {ρ : Type} := shut (lp (brb (ρ := ρ)))
theorem b3q {ρ : Type} : b1v (ρ := ρ) = lp brb := bn _
def bv7 {ρ : Type} (f : aeg br4 bxc ρ) (l : List Int) (m j k a : Int) (b : List Int) (c : Int) (d : Bool) (e : Int) (g : List Int) (h : Int) (i : Bool) (n : b0i ρ) : Option ρ := f (l, m, j, k, a, b, c, d, e, g, h, i) (fun (l, m, j, k, a, b, c, d, e, g, h, i) => n l m j k a b c d e g h i)
def akg {ρ : Type} := bv7 (lp (brb (ρ := ρ)))
def akc {ρ : Type} := bv7 (b1v (ρ := ρ))
theorem anf {ρ : Type} : akc (ρ := ρ) = akg := congrArg bv7 b3q
def aeo {ρ : Type} (a : Int) (b : List Int) (d : Int) (c : Bool) (e : List Int) (k : Int → (List Int) → Int → Bool → Option ρ) : Option ρ := br c (k a b d c) (j5 a fun f => akc e f (↑e.length : Int) 0 a b d c 0 [0, 0, 0, 0, 0, 0, 0, 0, 0, 0, 0, 0, 0, 0, 0, 0, 0, 0, 0, 0, 0, 0, 0, 0, 0] 0 false fun o p q r g h i j s l m n => k g h i j)
def mq {ρ : Type} := shut (aeo (ρ := ρ))
theorem akn {ρ : Type} (b : Int) (a : List Int) (d : Int) (c : Bool) (e : List Int) (k : Int → (List Int) → Int → Bool → Option ρ) : mq b a d c e k = aeo b a d c e k := by unfold mq; rw [bn]

def aer {ρ : Type} (c : Int) (b : List Int) (a : Int) (g : Bool) (k : Int → (List Int) → Int → Bool → Option ρ) : Option ρ := br (c == 4) (br (decide (0 ≤ IntKind.i64.wrap (a.tdiv 8))) (br (decide (IntKind.i64.wrap (a.tdiv 8) < (↑25 : Int))) (br (decide (IntKind.i64.wrap (8 * a.tmod 8) < 0)) none (br (decide (0 ≤ IntKind.i64.wrap (a.tdiv 8))) (br (decide (IntKind.i64.wrap (a.tdiv 8) < (↑25 : Int))) (j5 c fun d => br (decide (0 ≤ IntKind.i64.wrap ((IntKind.i64.wrap (d - 1)).tdiv 8))) (br (decide (IntKind.i64.wrap ((IntKind.i64.wrap (d - 1)).tdiv 8) < (↑25 : Int))) (br (decide (IntKind.i64.wrap (8 * (IntKind.i64.wrap (d - 1)).tmod 8) < 0)) none (br (decide (0 ≤ IntKind.i64.wrap ((IntKind.i64.wrap (d - 1)).tdiv 8))) (br (decide (IntKind.i64.wrap ((IntKind.i64.wrap (d - 1)).tdiv 8) < (↑25 : Int))) (ig ((b.set (IntKind.i64.wrap (a.tdiv 8)).toNat (bits BinOp.xor IntKind.u64 (b.getD (IntKind.i64.wrap (a.tdiv 8)).toNat 0) (IntKind.u64.wrap (IntKind.u64.wrap 6 * 2 ^ min (IntKind.i64.wrap (8 * a.tmod 8)).toNat 64)))).set (IntKind.i64.wrap ((IntKind.i64.wrap (d - 1)).tdiv 8)).toNat (bits BinOp.xor IntKind.u64 ((b.set (IntKind.i64.wrap (a.tdiv 8)).toNat (bits BinOp.xor IntKind.u64 (b.getD (IntKind.i64.wrap (a.tdiv 8)).toNat 0) (IntKind.u64.wrap (IntKind.u64.wrap 6 * 2 ^ min (IntKind.i64.wrap (8 * a.tmod 8)).toNat 64)))).getD (IntKind.i64.wrap ((IntKind.i64.wrap (d - 1)).tdiv 8)).toNat 0) (IntKind.u64.wrap (IntKind.u64.wrap 128 * 2 ^ min (IntKind.i64.wrap (8 * (IntKind.i64.wrap (d - 1)).tmod 8)).toNat 64)))) fun h => k c h 0 true) none) none)) none) none) none) none)) none) none) (br (c == 5) (br (decide (0 ≤ IntKind.i64.wrap (a.tdiv 8))) (br (decide (IntKind.i64.wrap (a.tdiv 8) < (↑25 : Int))) (br (decide (IntKind.i64.wrap (8 * a.tmod 8) < 0)) none (br (decide (0 ≤ IntKind.i64.wrap (a.tdiv 8))) (br (decide (IntKind.i64.wrap (a.tdiv 8) < (↑25 : Int))) (j5 c fun e => br (decide (0 ≤ IntKind.i64.wrap ((IntKind.i64.wrap (e - 1)).tdiv 8))) (br (decide (IntKind.i64.wrap ((IntKind.i64.wrap (e - 1)).tdiv 8) < (↑25 : Int))) (br (decide (IntKind.i64.wrap (8 * (IntKind.i64.wrap (e - 1)).tmod 8) < 0)) none (br (decide (0 ≤ IntKind.i64.wrap ((IntKind.i64.wrap (e - 1)).tdiv 8))) (br (decide (IntKind.i64.wrap ((IntKind.i64.wrap (e - 1)).tdiv 8) < (↑25 : Int))) (ig ((b.set (IntKind.i64.wrap (a.tdiv 8)).toNat (bits BinOp.xor IntKind.u64 (b.getD (IntKind.i64.wrap (a.tdiv 8)).toNat 0) (IntKind.u64.wrap (IntKind.u64.wrap 6 * 2 ^ min (IntKind.i64.wrap (8 * a.tmod 8)).toNat 64)))).set (IntKind.i64.wrap ((IntKind.i64.wrap (e - 1)).tdiv 8)).toNat (bits BinOp.xor IntKind.u64 ((b.set (IntKind.i64.wrap (a.tdiv 8)).toNat (bits BinOp.xor IntKind.u64 (b.getD (IntKind.i64.wrap (a.tdiv 8)).toNat 0) (IntKind.u64.wrap (IntKind.u64.wrap 6 * 2 ^ min (IntKind.i64.wrap (8 * a.tmod 8)).toNat 64)))).getD (IntKind.i64.wrap ((IntKind.i64.wrap (e - 1)).tdiv 8)).toNat 0) (IntKind.u64.wrap (IntKind.u64.wrap 128 * 2 ^ min (IntKind.i64.wrap (8 * (IntKind.i64.wrap (e - 1)).tmod 8)).toNat 64)))) fun i => k c i 0 true) none) none)) none) none) none) none)) none) none) (br (decide (0 ≤ IntKind.i64.wrap (a.tdiv 8))) (br (decide (IntKind.i64.wrap (a.tdiv 8) < (↑25 : Int))) (br (decide (IntKind.i64.wrap (8 * a.tmod 8) < 0)) none (br (decide (0 ≤ IntKind.i64.wrap (a.tdiv 8))) (br (decide (IntKind.i64.wrap (a.tdiv 8) < (↑25 : Int))) (j5 c fun f => br (decide (0 ≤ IntKind.i64.wrap ((IntKind.i64.wrap (f - 1)).tdiv 8))) (br (decide (IntKind.i64.wrap ((IntKind.i64.wrap (f - 1)).tdiv 8) < (↑25 : Int))) (br (decide (IntKind.i64.wrap (8 * (IntKind.i64.wrap (f - 1)).tmod 8) < 0)) none (br (decide (0 ≤ IntKind.i64.wrap ((IntKind.i64.wrap (f - 1)).tdiv 8))) (br (decide (IntKind.i64.wrap ((IntKind.i64.wrap (f - 1)).tdiv 8) < (↑25 : Int))) (ig ((b.set (IntKind.i64.wrap (a.tdiv 8)).toNat (bits BinOp.xor IntKind.u64 (b.getD (IntKind.i64.wrap (a.tdiv 8)).toNat 0) (IntKind.u64.wrap (IntKind.u64.wrap 31 * 2 ^ min (IntKind.i64.wrap (8 * a.tmod 8)).toNat 64)))).set (IntKind.i64.wrap ((IntKind.i64.wrap (f - 1)).tdiv 8)).toNat (bits BinOp.xor IntKind.u64 ((b.set (IntKind.i64.wrap (a.tdiv 8)).toNat (bits BinOp.xor IntKind.u64 (b.getD (IntKind.i64.wrap (a.tdiv 8)).toNat 0) (IntKind.u64.wrap (IntKind.u64.wrap 31 * 2 ^ min (IntKind.i64.wrap (8 * a.tmod 8)).toNat 64)))).getD (IntKind.i64.wrap ((IntKind.i64.wrap (f - 1)).tdiv 8)).toNat 0) (IntKind.u64.wrap (IntKind.u64.wrap 128 * 2 ^ min (IntKind.i64.wrap (8 * (IntKind.i64.wrap (f - 1)).tmod 8)).toNat 64)))) fun j => k c j 0 true) none) none)) none) none) none) none)) none) none))
def qo {ρ : Type} := shut (aer (ρ := ρ))
theorem akh {ρ : Type} (b : Int) (a : List Int) (d : Int) (c : Bool) (k : Int → (List Int) → Int → Bool → Option ρ) : qo b a d c k = aer b a d c k := by unfold qo; rw [bn]

abbrev b2o (ρ : Type) := Int → Int → Int → (List Int) → Int → Bool → Int → (List Int) → Int → Bool → (List Int) → Option ρ
def aeh {ρ : Type} (j b c : Int) (d : List Int) (a : Int) (e : Bool) (f : Int) (g : List Int) (h : Int) (i : Bool) (k : List Int) (nx m : b2o ρ) : Option ρ := br (decide (b < j)) (j5 c fun n => br (a == n) (ig d fun l => br (decide (0 ≤ b)) (br (decide (b < (↑k.length : Int))) (nx j (IntKind.i64.wrap (b + 1)) c l (IntKind.i64.wrap (0 + 1)) e f g h i (k.set b.toNat (IntKind.u8.wrap ((l.getD 0 0).fdiv (2 ^ 0))))) none) none) (br (decide (0 ≤ IntKind.i64.wrap (a.tdiv 8))) (br (decide (IntKind.i64.wrap (a.tdiv 8) < (↑25 : Int))) (br (decide (IntKind.i64.wrap (8 * a.tmod 8) < 0)) none (br (decide (0 ≤ b)) (br (decide (b < (↑k.length : Int))) (nx j (IntKind.i64.wrap (b + 1)) c d (IntKind.i64.wrap (a + 1)) e f g h i (k.set b.toNat (IntKind.u8.wrap ((d.getD (IntKind.i64.wrap (a.tdiv 8)).toNat 0).fdiv (2 ^ min (IntKind.i64.wrap (8 * a.tmod 8)).toNat 64))))) none) none)) none) none)) (m j b c d a e f g h i k)
abbrev bp8 := Int × Int × Int × (List Int) × Int × Bool × Int × (List Int) × Int × Bool × (List Int)
abbrev bxn := bp8
def b1w {ρ : Type} (f : bp8 → Option ρ) : b2o ρ := fun j k a b c d e g h i l => f (j, k, a, b, c, d, e, g, h, i, l)
def bqr {ρ : Type} : aea bp8 bxn ρ := fun (i, j, a, b, c, d, e, f, g, h, k) next ex => aeh i j a b c d e f g h k (b1w next) (b1w ex)
def b1a {ρ : Type} := shut (lp (bqr (ρ := ρ)))
theorem b24 {ρ : Type} : b1a (ρ := ρ) = lp bqr := bn _
def bu6 {ρ : Type} (f : aeg bp8 bxn ρ) (j k a : Int) (b : List Int) (c : Int) (d : Bool) (e : Int) (g : List Int) (h : Int) (i : Bool) (l : List Int) (m : b2o ρ) : Option ρ := f (j, k, a, b, c, d, e, g, h, i, l) (fun (j, k, a, b, c, d, e, g, h, i, l) => m j k a b c d e g h i l)
def ai0 {ρ : Type} := bu6 (lp (bqr (ρ := ρ)))
def ab5 {ρ : Type} := bu6 (b1a (ρ := ρ))
theorem amh {ρ : Type} : ab5 (ρ := ρ) = ai0 := congrArg bu6 b24
def ads {ρ : Type} (c : Int) (a : List Int) (e : Int) (b : Bool) (d : Int) (k : Int → (List Int) → Int → Bool → (List Int) → Option ρ) : Option ρ := br (decide (d < 0)) (k c a e b []) (br (!b) (qo c a e b fun m n o p => br (decide (0 ≤ d)) (br (decide (d ≤ d)) (br (decide (d * (↑1 : Int) ≤ (↑140737488355328 : Int))) (ab5 (↑(List.replicate d.toNat (0 : Int)).length : Int) 0 m n o p 0 [0, 0, 0, 0, 0, 0, 0, 0, 0, 0, 0, 0, 0, 0, 0, 0, 0, 0, 0, 0, 0, 0, 0, 0, 0] 0 false (List.replicate d.toNat (0 : Int)) fun H I q r s t u v w y f => k q r s t f) none) none) none) (br (decide (0 ≤ d)) (br (decide (d ≤ d)) (br (decide (d * (↑1 : Int) ≤ (↑140737488355328 : Int))) (ab5 (↑(List.replicate d.toNat (0 : Int)).length : Int) 0 c a e b 0 [0, 0, 0, 0, 0, 0, 0, 0, 0, 0, 0, 0, 0, 0, 0, 0, 0, 0, 0, 0, 0, 0, 0, 0, 0] 0 false (List.replicate d.toNat (0 : Int)) fun z A g h i j B C F G l => k g h i j l) none) none) none))
def o8 {ρ : Type} := shut (ads (ρ := ρ))
theorem ajb {ρ : Type} (b : Int) (a : List Int) (d : Int) (c : Bool) (e : Int) (k : Int → (List Int) → Int → Bool → (List Int) → Option ρ) : o8 b a d c e k = ads b a d c e k := by unfold o8; rw [bn]

def ady {ρ : Type} (e f : List Int) (b : Int) (a : List Int) (d : Int) (c : Bool) (g : Int) (k : (List Int) → Option ρ) : Option ρ := jo [List.take 32 (List.drop 0 e), f] fun h => mq b a d c h fun i j l m => o8 i j l m g fun o p q r n => k n
def l5 {ρ : Type} := shut (ady (ρ := ρ))
theorem ajd {ρ : Type} (e : List Int) (f : List Int) (b : Int) (a : List Int) (d : Int) (c : Bool) (g : Int) (k : (List Int) → Option ρ) : l5 e f b a d c g k = ady e f b a d c g k := by unfold l5; rw [bn]

def agv {ρ : Type} (a : Int) (b : List Int) (k : Int → (List Int) → Int → Bool → Int → Option ρ) : Option ρ := ade 7 fun c d e f l => mq c d e f b fun g h i j => k g h i j a
def abm {ρ : Type} := shut (agv (ρ := ρ))
theorem amk {ρ : Type} (a : Int) (b : List Int) (k : Int → (List Int) → Int → Bool → Int → Option ρ) : abm a b k = agv a b k := by unfold abm; rw [bn]

def aos {ρ : Type} (a : Int) (k : (List Int) → Bool → Option ρ) : Option ρ := br (a == 1) (k [1779033703, 3144134277, 1013904242, 2773480762, 1359893119, 2600822924, 528734635, 1541459225] true) (br (a == 2) (k [14680500436340154072, 7105036623409894663, 10473403895298186519, 1526699215303891257, 7436329637833083697, 10282925794625328401, 15784041429090275239, 5167115440072839076] true) (br (a == 3) (k [7640891576956012808, 13503953896175478587, 4354685564936845355, 11912009170470909681, 5840696475078001361, 11170449401992604703, 2270897969802886507, 6620516959819538809] true) (k [0, 0, 0, 0, 0, 0, 0, 0] false)))
def adt {ρ : Type} := shut (aos (ρ := ρ))
theorem aq4 {ρ : Type} (a : Int) (k : (List Int) → Bool → Option ρ) : adt a k = aos a k := by unfold adt; rw [bn]

def an9 {ρ : Type} (a : Int) (k : Int → (List Int) → (List Int) → Int → Int → Option ρ) : Option ρ := adt a fun b c => br (!c) (k 0 [0, 0, 0, 0, 0, 0, 0, 0] [] 0 9) (k a b [] 0 0)
def ag4 {ρ : Type} := shut (an9 (ρ := ρ))
theorem awl {ρ : Type} (a : Int) (k : Int → (List Int) → (List Int) → Int → Int → Option ρ) : ag4 a k = an9 a k := by unfold ag4; rw [bn]

abbrev bwy (ρ : Type) := Int → (List Int) → Int → Int → Option ρ
def anr {ρ : Type} (d : Int) (b : List Int) (c a : Int) (nx e : bwy ρ) : Option ρ := br (decide (a < c)) (br (decide (0 ≤ a)) (br (decide (a < (↑b.length : Int))) (nx (bits BinOp.or IntKind.u64 (IntKind.u64.wrap (d * 2 ^ 8)) (IntKind.u64.wrap (b.getD a.toNat 0))) b c (IntKind.i64.wrap (a + 1))) none) none) (e d b c a)
abbrev bri := Int × (List Int) × Int × Int
abbrev bwt := bri
def b0m {ρ : Type} (f : bri → Option ρ) : bwy ρ := fun a b c d => f (a, b, c, d)
def bth {ρ : Type} : aea bri bwt ρ := fun (a, b, c, d) next ex => anr a b c d (b0m next) (b0m ex)
def by7 {ρ : Type} := shut (lp (bth (ρ := ρ)))
theorem b35 {ρ : Type} : by7 (ρ := ρ) = lp bth := bn _
def bvx {ρ : Type} (f : aeg bri bwt ρ) (a : Int) (b : List Int) (c d : Int) (e : bwy ρ) : Option ρ := f (a, b, c, d) (fun (a, b, c, d) => e a b c d)
def aut {ρ : Type} := bvx (lp (bth (ρ := ρ)))
def asz {ρ : Type} := bvx (by7 (ρ := ρ))
theorem avk {ρ : Type} : asz (ρ := ρ) = aut := congrArg bvx b35
def ala {ρ : Type} (a : List Int) (k : Int → Option ρ) : Option ρ := asz 0 a (↑a.length : Int) 0 fun b c d e => k b
def tu {ρ : Type} := shut (ala (ρ := ρ))
theorem asw {ρ : Type} (a : List Int) (k : Int → Option ρ) : tu a k = ala a k := by unfold tu; rw [bn]

def ahi {ρ : Type} (a : Int) (k : Int → Option ρ) : Option ρ := br (decide (0 ≤ a)) (br (decide (a < (↑64 : Int))) (k (roots256.getD a.toNat 0)) none) none
def mg {ρ : Type} := shut (ahi (ρ := ρ))
theorem amx {ρ : Type} (a : Int) (k : Int → Option ρ) : mg a k = ahi a k := by unfold mg; rw [bn]

def uw {ρ : Type} (a g : Int) (b c d e : List Int) (h f : Int) (k : Int → Option ρ) : Option ρ := br (decide (f < 0)) none (br (decide (IntKind.i64.wrap (a - f) < 0)) none (k (bits BinOp.or IntKind.u32 (h.fdiv (2 ^ min f.toNat 32)) (IntKind.u32.wrap (h * 2 ^ min (IntKind.i64.wrap (a - f)).toNat 32)))))
def bf {ρ : Type} := shut (uw (ρ := ρ))
theorem aa7 {ρ : Type} (f : Int) (e : Int) (a : List Int) (b : List Int) (c : List Int) (d : List Int) (g : Int) (h : Int) (k : Int → Option ρ) : bf f e a b c d g h k = uw f e a b c d g h k := by unfold bf; rw [bn]

def ru {ρ : Type} (f e : Int) (a b c d : List Int) (g h : Int) (k : Int → Option ρ) : Option ρ := br (decide (h = (↑0 : Int))) (bf f e a b c d g (a.getD 0 0) fun l => bf f e a b c d g (a.getD 1 0) fun m => bf f e a b c d g (a.getD 2 0) fun n => k (bits BinOp.xor IntKind.u32 (bits BinOp.xor IntKind.u32 l m) n)) (br (decide (h = (↑1 : Int))) (bf f e a b c d g (b.getD 0 0) fun o => bf f e a b c d g (b.getD 1 0) fun p => bf f e a b c d g (b.getD 2 0) fun q => k (bits BinOp.xor IntKind.u32 (bits BinOp.xor IntKind.u32 o p) q)) (br (decide (h = (↑2 : Int))) (bf f e a b c d g (c.getD 0 0) fun r => bf f e a b c d g (c.getD 1 0) fun s => bf f e a b c d g (c.getD 2 0) fun t => k (bits BinOp.xor IntKind.u32 (bits BinOp.xor IntKind.u32 r s) t)) (br (decide (h = (↑3 : Int))) (bf f e a b c d g (d.getD 0 0) fun u => bf f e a b c d g (d.getD 1 0) fun i => bf f e a b c d g (d.getD 2 0) fun j => k (bits BinOp.xor IntKind.u32 (bits BinOp.xor IntKind.u32 u i) j)) none)))
def jf {ρ : Type} := shut (ru (ρ := ρ))
theorem zl {ρ : Type} (f : Int) (e : Int) (a : List Int) (b : List Int) (c : List Int) (d : List Int) (g : Int) (h : Int) (k : Int → Option ρ) : jf f e a b c d g h k = ru f e a b c d g h k := by unfold jf; rw [bn]

def sw {ρ : Type} (f e : Int) (a b c d : List Int) (g h : Int) (k : Int → Option ρ) : Option ρ := br (decide (h = (↑0 : Int))) (bf f e a b c d g (a.getD 0 (0 : Int)) fun i => bf f e a b c d g (a.getD 1 (0 : Int)) fun j => br (decide (a.getD 2 (0 : Int) < (0 : Int))) none (k (bits BinOp.xor IntKind.u32 (bits BinOp.xor IntKind.u32 i j) (g.fdiv ((2 : Int) ^ min (a.getD 2 (0 : Int)).toNat 32))))) (br (decide (h = (↑1 : Int))) (bf f e a b c d g (b.getD 0 (0 : Int)) fun l => bf f e a b c d g (b.getD 1 (0 : Int)) fun m => br (decide (b.getD 2 (0 : Int) < (0 : Int))) none (k (bits BinOp.xor IntKind.u32 (bits BinOp.xor IntKind.u32 l m) (g.fdiv ((2 : Int) ^ min (b.getD 2 (0 : Int)).toNat 32))))) (br (decide (h = (↑2 : Int))) (bf f e a b c d g (c.getD 0 (0 : Int)) fun n => bf f e a b c d g (c.getD 1 (0 : Int)) fun o => br (decide (c.getD 2 (0 : Int) < (0 : Int))) none (k (bits BinOp.xor IntKind.u32 (bits BinOp.xor IntKind.u32 n o) (g.fdiv ((2 : Int) ^ min (c.getD 2 (0 : Int)).toNat 32))))) (br (decide (h = (↑3 : Int))) (bf f e a b c d g (d.getD 0 (0 : Int)) fun p => bf f e a b c d g (d.getD 1 (0 : Int)) fun q => br (decide (d.getD 2 (0 : Int) < (0 : Int))) none (k (bits BinOp.xor IntKind.u32 (bits BinOp.xor IntKind.u32 p q) (g.fdiv ((2 : Int) ^ min (d.getD 2 (0 : Int)).toNat 32))))) none)))
def jm {ρ : Type} := shut (sw (ρ := ρ))
theorem aae {ρ : Type} (f : Int) (e : Int) (a : List Int) (b : List Int) (c : List Int) (d : List Int) (g : Int) (h : Int) (k : Int → Option ρ) : jm f e a b c d g h k = sw f e a b c d g h k := by unfold jm; rw [bn]

abbrev b0j (ρ : Type) := (List Int) → Int → Int → Int → Int → (List Int) → (List Int) → (List Int) → (List Int) → (List Int) → (List Int) → (List Int) → Option ρ
def y7 {ρ : Type} (l : List Int) (b a c d : Int) (e f g h i j k : List Int) (nx m : b0j ρ) : Option ρ := br (decide (a < 16)) (br (decide (0 ≤ IntKind.i64.wrap (a * b))) (br (decide (IntKind.i64.wrap (a * b) ≤ IntKind.i64.wrap (IntKind.i64.wrap (a + 1) * b))) (br (decide (IntKind.i64.wrap (IntKind.i64.wrap (a + 1) * b) ≤ (↑l.length : Int))) (tu (List.drop (IntKind.i64.wrap (a * b)).toNat (List.take (IntKind.i64.wrap (IntKind.i64.wrap (a + 1) * b)).toNat l)) fun n => br (decide (0 ≤ a)) (br (decide (a < (↑16 : Int))) (nx l b (IntKind.i64.wrap (a + 1)) c d e f g h i j (k.set a.toNat (IntKind.u32.wrap n))) none) none) none) none) none) (m l b a c d e f g h i j k)
abbrev brs := (List Int) × Int × Int × Int × Int × (List Int) × (List Int) × (List Int) × (List Int) × (List Int) × (List Int) × (List Int)
abbrev b1j := brs
def bwv {ρ : Type} (f : brs → Option ρ) : b0j ρ := fun l m k a b c d e g h i j => f (l, m, k, a, b, c, d, e, g, h, i, j)
def bsa {ρ : Type} : aea brs b1j ρ := fun (k, l, j, a, b, c, d, e, f, g, h, i) next ex => y7 k l j a b c d e f g h i (bwv next) (bwv ex)
def byl {ρ : Type} := shut (lp (bsa (ρ := ρ)))
theorem b25 {ρ : Type} : byl (ρ := ρ) = lp bsa := bn _
def buv {ρ : Type} (f : aeg brs b1j ρ) (l : List Int) (m k a b : Int) (c d e g h i j : List Int) (n : b0j ρ) : Option ρ := f (l, m, k, a, b, c, d, e, g, h, i, j) (fun (l, m, k, a, b, c, d, e, g, h, i, j) => n l m k a b c d e g h i j)
def ach {ρ : Type} := buv (lp (bsa (ρ := ρ)))
def yx {ρ : Type} := buv (byl (ρ := ρ))
theorem afv {ρ : Type} : yx (ρ := ρ) = ach := congrArg buv b25
abbrev b0x (ρ : Type) := Int → Int → (List Int) → (List Int) → (List Int) → Int → Int → (List Int) → (List Int) → (List Int) → (List Int) → (List Int) → Option ρ
def xw {ρ : Type} (j b : Int) (c k l : List Int) (d e : Int) (f g h i a : List Int) (nx o : b0x ρ) : Option ρ := br (decide (b < j)) (br (decide (0 ≤ b.tmod 16)) (br (decide (b.tmod 16 < (↑16 : Int))) (jf d e f g h i (a.getD 4 0) 3 fun m => mg b fun n => jf d e f g h i (a.getD 0 0) 2 fun p => br (decide (0 ≤ (IntKind.i64.wrap (b + 1)).tmod 16)) (br (decide ((IntKind.i64.wrap (b + 1)).tmod 16 < (↑16 : Int))) (jm d e f g h i (c.getD ((IntKind.i64.wrap (b + 1)).tmod 16).toNat 0) 0 fun q => br (decide (0 ≤ (IntKind.i64.wrap (b + 9)).tmod 16)) (br (decide ((IntKind.i64.wrap (b + 9)).tmod 16 < (↑16 : Int))) (br (decide (0 ≤ (IntKind.i64.wrap (b + 14)).tmod 16)) (br (decide ((IntKind.i64.wrap (b + 14)).tmod 16 < (↑16 : Int))) (jm d e f g h i (c.getD ((IntKind.i64.wrap (b + 14)).tmod 16).toNat 0) 1 fun r => br (decide (0 ≤ b.tmod 16)) (br (decide (b.tmod 16 < (↑16 : Int))) (nx j (IntKind.i64.wrap (b + 1)) (c.set (b.tmod 16).toNat (IntKind.u32.wrap (IntKind.u32.wrap (IntKind.u32.wrap (c.getD (b.tmod 16).toNat 0 + q) + c.getD ((IntKind.i64.wrap (b + 9)).tmod 16).toNat 0) + r))) k l d e f g h i ((((List.take 1 a).append (List.take 7 (List.take 7 (List.drop 0 a)) ++ List.drop (1 + min 7 (List.take 7 (List.drop 0 a)).length) a)).set 4 (IntKind.u32.wrap (((List.take 1 a).append (List.take 7 (List.take 7 (List.drop 0 a)) ++ List.drop (1 + min 7 (List.take 7 (List.drop 0 a)).length) a)).getD 4 0 + IntKind.u32.wrap (IntKind.u32.wrap (IntKind.u32.wrap (IntKind.u32.wrap (a.getD 7 0 + m) + bits BinOp.xor IntKind.u32 (a.getD 6 0) (bits BinOp.and IntKind.u32 (a.getD 4 0) (bits BinOp.xor IntKind.u32 (a.getD 5 0) (a.getD 6 0)))) + n) + c.getD (b.tmod 16).toNat 0)))).set 0 (IntKind.u32.wrap (IntKind.u32.wrap (IntKind.u32.wrap (IntKind.u32.wrap (IntKind.u32.wrap (a.getD 7 0 + m) + bits BinOp.xor IntKind.u32 (a.getD 6 0) (bits BinOp.and IntKind.u32 (a.getD 4 0) (bits BinOp.xor IntKind.u32 (a.getD 5 0) (a.getD 6 0)))) + n) + c.getD (b.tmod 16).toNat 0) + IntKind.u32.wrap (p + bits BinOp.or IntKind.u32 (bits BinOp.and IntKind.u32 (a.getD 0 0) (a.getD 1 0)) (bits BinOp.and IntKind.u32 (a.getD 2 0) (bits BinOp.or IntKind.u32 (a.getD 0 0) (a.getD 1 0)))))))) none) none) none) none) none) none) none) none) none) none) (o j b c k l d e f g h i a)
abbrev btg := Int × Int × (List Int) × (List Int) × (List Int) × Int × Int × (List Int) × (List Int) × (List Int) × (List Int) × (List Int)
abbrev bz4 := btg
def bx8 {ρ : Type} (f : btg → Option ρ) : b0x ρ := fun l m a b c d e g h i j k => f (l, m, a, b, c, d, e, g, h, i, j, k)
def bst {ρ : Type} : aea btg bz4 ρ := fun (k, l, a, b, c, d, e, f, g, h, i, j) next ex => xw k l a b c d e f g h i j (bx8 next) (bx8 ex)
def b2e {ρ : Type} := shut (lp (bst (ρ := ρ)))
theorem b36 {ρ : Type} : b2e (ρ := ρ) = lp bst := bn _
def bvr {ρ : Type} (f : aeg btg bz4 ρ) (l m : Int) (a b c : List Int) (d e : Int) (g h i j k : List Int) (n : b0x ρ) : Option ρ := f (l, m, a, b, c, d, e, g, h, i, j, k) (fun (l, m, a, b, c, d, e, g, h, i, j, k) => n l m a b c d e g h i j k)
def abu {ρ : Type} := bvr (lp (bst (ρ := ρ)))
def qy {ρ : Type} := bvr (b2e (ρ := ρ))
theorem afg {ρ : Type} : qy (ρ := ρ) = abu := congrArg bvr b36
abbrev b1g (ρ : Type) := Int → (List Int) → (List Int) → (List Int) → Option ρ
def wu {ρ : Type} (a : Int) (b d c : List Int) (nx e : b1g ρ) : Option ρ := br (decide (a < 8)) (br (decide (0 ≤ a)) (br (decide (a < (↑8 : Int))) (br (decide (0 ≤ a)) (br (decide (a < (↑8 : Int))) (br (decide (0 ≤ a)) (br (decide (a < (↑8 : Int))) (nx (IntKind.i64.wrap (a + 1)) b d (c.set a.toNat (IntKind.u32.wrap (c.getD a.toNat 0 + b.getD a.toNat 0)))) none) none) none) none) none) none) (e a b d c)
abbrev btt := Int × (List Int) × (List Int) × (List Int)
abbrev bxb := btt
def b2l {ρ : Type} (f : btt → Option ρ) : b1g ρ := fun a b c d => f (a, b, c, d)
def btd {ρ : Type} : aea btt bxb ρ := fun (a, b, c, d) next ex => wu a b c d (b2l next) (b2l ex)
def bwh {ρ : Type} := shut (lp (btd (ρ := ρ)))
theorem b4c {ρ : Type} : bwh (ρ := ρ) = lp btd := bn _
def bv3 {ρ : Type} (f : aeg btt bxb ρ) (a : Int) (b c d : List Int) (e : b1g ρ) : Option ρ := f (a, b, c, d) (fun (a, b, c, d) => e a b c d)
def abk {ρ : Type} := bv3 (lp (btd (ρ := ρ)))
def ql {ρ : Type} := bv3 (bwh (ρ := ρ))
theorem ae9 {ρ : Type} : ql (ρ := ρ) = abk := congrArg bv3 b4c
def xg {ρ : Type} (a f : Int) (b c d e p q : List Int) (k : (List Int) → Option ρ) : Option ρ := yx q (IntKind.i64.wrap (a.tdiv 8)) 0 a f b c d e p [0, 0, 0, 0, 0, 0, 0, 0] [0, 0, 0, 0, 0, 0, 0, 0, 0, 0, 0, 0, 0, 0, 0, 0] fun N O Q r g s t u v h i j => qy g 0 j i h r g s t u v h fun w y z l m A B C F G H n => ql 0 m l n fun I J M o => k o
def j6 {ρ : Type} := shut (xg (ρ := ρ))
theorem acj {ρ : Type} (f : Int) (e : Int) (a : List Int) (b : List Int) (c : List Int) (d : List Int) (g : List Int) (h : List Int) (k : (List Int) → Option ρ) : j6 f e a b c d g h k = xg f e a b c d g h k := by unfold j6; rw [bn]

abbrev bxm (ρ : Type) := (List Int) → (List Int) → Int → Int → Int → (List Int) → (List Int) → (List Int) → (List Int) → (List Int) → (List Int) → (List Int) → Option ρ
def abn {ρ : Type} (l b : List Int) (a c d : Int) (e f g h i j k : List Int) (nx m : bxm ρ) : Option ρ := br (decide (a < 8)) (br (decide (0 ≤ a)) (br (decide (a < (↑8 : Int))) (br (decide (0 ≤ a)) (br (decide (a < (↑8 : Int))) (nx l b (IntKind.i64.wrap (a + 1)) c d e f g h i j (k.set a.toNat (IntKind.u32.wrap (b.getD a.toNat 0)))) none) none) none) none) (m l b a c d e f g h i j k)
abbrev bt4 := (List Int) × (List Int) × Int × Int × Int × (List Int) × (List Int) × (List Int) × (List Int) × (List Int) × (List Int) × (List Int)
abbrev bzl := bt4
def b2m {ρ : Type} (f : bt4 → Option ρ) : bxm ρ := fun m k l a b c d e g h i j => f (m, k, l, a, b, c, d, e, g, h, i, j)
def btk {ρ : Type} : aea bt4 bzl ρ := fun (l, j, k, a, b, c, d, e, f, g, h, i) next ex => abn l j k a b c d e f g h i (b2m next) (b2m ex)
def bzn {ρ : Type} := shut (lp (btk (ρ := ρ)))
theorem b2t {ρ : Type} : bzn (ρ := ρ) = lp btk := bn _
def bvh {ρ : Type} (f : aeg bt4 bzl ρ) (m k : List Int) (l a b : Int) (c d e g h i j : List Int) (n : bxm ρ) : Option ρ := f (m, k, l, a, b, c, d, e, g, h, i, j) (fun (m, k, l, a, b, c, d, e, g, h, i, j) => n m k l a b c d e g h i j)
def afn {ρ : Type} := bvh (lp (btk (ρ := ρ)))
def abo {ρ : Type} := bvh (bzn (ρ := ρ))
theorem aiy {ρ : Type} : abo (ρ := ρ) = afn := congrArg bvh b2t
abbrev b0s (ρ : Type) := (List Int) → Int → (List Int) → (List Int) → (List Int) → Int → Int → (List Int) → (List Int) → (List Int) → (List Int) → Option ρ
def abz {ρ : Type} (b : List Int) (a : Int) (i j k : List Int) (c d : Int) (e f g h : List Int) (nx l : b0s ρ) : Option ρ := br (decide ((↑b.length : Int) ≥ a)) (br (decide (0 ≤ a)) (br (decide (a ≤ (↑b.length : Int))) (j6 c d e f g h i (List.drop 0 (List.take a.toNat b)) fun m => br (decide (0 ≤ a)) (br (decide (a ≤ (↑b.length : Int))) (br (decide ((↑b.length : Int) ≤ (↑b.length : Int))) (nx (List.drop a.toNat (List.take (↑b.length : Int).toNat b)) a m j k c d e f g h) none) none) none) none) none) (l b a i j k c d e f g h)
abbrev btf := (List Int) × Int × (List Int) × (List Int) × (List Int) × Int × Int × (List Int) × (List Int) × (List Int) × (List Int)
abbrev byj := btf
def b1k {ρ : Type} (f : btf → Option ρ) : b0s ρ := fun l k a b c d e g h i j => f (l, k, a, b, c, d, e, g, h, i, j)
def btw {ρ : Type} : aea btf byj ρ := fun (k, j, a, b, c, d, e, f, g, h, i) next ex => abz k j a b c d e f g h i (b1k next) (b1k ex)
def bxj {ρ : Type} := shut (lp (btw (ρ := ρ)))
theorem b3f {ρ : Type} : bxj (ρ := ρ) = lp btw := bn _
def bvs {ρ : Type} (f : aeg btf byj ρ) (l : List Int) (k : Int) (a b c : List Int) (d e : Int) (g h i j : List Int) (m : b0s ρ) : Option ρ := f (l, k, a, b, c, d, e, g, h, i, j) (fun (l, k, a, b, c, d, e, g, h, i, j) => m l k a b c d e g h i j)
def afa {ρ : Type} := bvs (lp (btw (ρ := ρ)))
def abq {ρ : Type} := bvs (bxj (ρ := ρ))
theorem ai2 {ρ : Type} : abq (ρ := ρ) = afa := congrArg bvs b3f
abbrev b0u (ρ : Type) := (List Int) → (List Int) → Int → (List Int) → (List Int) → Option ρ
def aa3 {ρ : Type} (e b : List Int) (a : Int) (c d : List Int) (nx f : b0u ρ) : Option ρ := br (decide (a < 8)) (br (decide (0 ≤ a)) (br (decide (a < (↑8 : Int))) (br (decide (0 ≤ a)) (br (decide (a < (↑8 : Int))) (nx e b (IntKind.i64.wrap (a + 1)) (c.set a.toNat (IntKind.u64.wrap (b.getD a.toNat 0))) d) none) none) none) none) (f e b a c d)
abbrev buj := (List Int) × (List Int) × Int × (List Int) × (List Int)
abbrev bym := buj
def bw2 {ρ : Type} (f : buj → Option ρ) : b0u ρ := fun e c d a b => f (e, c, d, a, b)
def bqz {ρ : Type} : aea buj bym ρ := fun (e, c, d, a, b) next ex => aa3 e c d a b (bw2 next) (bw2 ex)
def bya {ρ : Type} := shut (lp (bqz (ρ := ρ)))
theorem b4d {ρ : Type} : bya (ρ := ρ) = lp bqz := bn _
def bvb {ρ : Type} (f : aeg buj bym ρ) (e c : List Int) (d : Int) (a b : List Int) (g : b0u ρ) : Option ρ := f (e, c, d, a, b) (fun (e, c, d, a, b) => g e c d a b)
def aec {ρ : Type} := bvb (lp (bqz (ρ := ρ)))
def aaz {ρ : Type} := bvb (bya (ρ := ρ))
theorem aiq {ρ : Type} : aaz (ρ := ρ) = aec := congrArg bvb b4d
def aa4 {ρ : Type} (f e : Int) (a b c d g r : List Int) (k : (List Int) → (List Int) → Option ρ) : Option ρ := abo r g 0 f e a b c d g [0, 0, 0, 0, 0, 0, 0, 0] [0, 0, 0, 0, 0, 0, 0, 0] fun s O Q h t u v w y z i j => abq s (IntKind.i64.wrap (h * 2)) j i z h t u v w y fun l A m n o B C F G H I => aaz l m 0 o n fun p J M q N => k q p
def ny {ρ : Type} := shut (aa4 (ρ := ρ))
theorem afk {ρ : Type} (f : Int) (e : Int) (a : List Int) (b : List Int) (c : List Int) (d : List Int) (g : List Int) (h : List Int) (k : (List Int) → (List Int) → Option ρ) : ny f e a b c d g h k = aa4 f e a b c d g h k := by unfold ny; rw [bn]

def ao2 {ρ : Type} (k : Int → Int → (List Int) → (List Int) → (List Int) → (List Int) → Option ρ) : Option ρ := k 32 64 [7, 18, 3] [17, 19, 10] [2, 13, 22] [6, 11, 25]
def abv {ρ : Type} := shut (ao2 (ρ := ρ))
theorem aq7 {ρ : Type}  (k : Int → Int → (List Int) → (List Int) → (List Int) → (List Int) → Option ρ) : abv  k = ao2  k := by unfold abv; rw [bn]

def ahh {ρ : Type} (a : Int) (k : Int → Option ρ) : Option ρ := br (decide (0 ≤ a)) (br (decide (a < (↑80 : Int))) (k (roots512.getD a.toNat 0)) none) none
def mh {ρ : Type} := shut (ahh (ρ := ρ))
theorem am1 {ρ : Type} (a : Int) (k : Int → Option ρ) : mh a k = ahh a k := by unfold mh; rw [bn]

def uy {ρ : Type} (a g : Int) (b c d e : List Int) (h f : Int) (k : Int → Option ρ) : Option ρ := br (decide (f < 0)) none (br (decide (IntKind.i64.wrap (a - f) < 0)) none (k (bits BinOp.or IntKind.u64 (h.fdiv (2 ^ min f.toNat 64)) (IntKind.u64.wrap (h * 2 ^ min (IntKind.i64.wrap (a - f)).toNat 64)))))
def bg {ρ : Type} := shut (uy (ρ := ρ))
theorem aa8 {ρ : Type} (f : Int) (e : Int) (a : List Int) (b : List Int) (c : List Int) (d : List Int) (g : Int) (h : Int) (k : Int → Option ρ) : bg f e a b c d g h k = uy f e a b c d g h k := by unfold bg; rw [bn]

def qz {ρ : Type} (f e : Int) (a b c d : List Int) (g h : Int) (k : Int → Option ρ) : Option ρ := br (decide (h = (↑0 : Int))) (bg f e a b c d g (a.getD 0 0) fun l => bg f e a b c d g (a.getD 1 0) fun m => bg f e a b c d g (a.getD 2 0) fun n => k (bits BinOp.xor IntKind.u64 (bits BinOp.xor IntKind.u64 l m) n)) (br (decide (h = (↑1 : Int))) (bg f e a b c d g (b.getD 0 0) fun o => bg f e a b c d g (b.getD 1 0) fun p => bg f e a b c d g (b.getD 2 0) fun q => k (bits BinOp.xor IntKind.u64 (bits BinOp.xor IntKind.u64 o p) q)) (br (decide (h = (↑2 : Int))) (bg f e a b c d g (c.getD 0 0) fun r => bg f e a b c d g (c.getD 1 0) fun s => bg f e a b c d g (c.getD 2 0) fun t => k (bits BinOp.xor IntKind.u64 (bits BinOp.xor IntKind.u64 r s) t)) (br (decide (h = (↑3 : Int))) (bg f e a b c d g (d.getD 0 0) fun u => bg f e a b c d g (d.getD 1 0) fun i => bg f e a b c d g (d.getD 2 0) fun j => k (bits BinOp.xor IntKind.u64 (bits BinOp.xor IntKind.u64 u i) j)) none)))
def jg {ρ : Type} := shut (qz (ρ := ρ))
theorem zh {ρ : Type} (f : Int) (e : Int) (a : List Int) (b : List Int) (c : List Int) (d : List Int) (g : Int) (h : Int) (k : Int → Option ρ) : jg f e a b c d g h k = qz f e a b c d g h k := by unfold jg; rw [bn]

def ug {ρ : Type} (f e : Int) (a b c d : List Int) (g h : Int) (k : Int → Option ρ) : Option ρ := br (decide (h = (↑0 : Int))) (bg f e a b c d g (a.getD 0 (0 : Int)) fun i => bg f e a b c d g (a.getD 1 (0 : Int)) fun j => br (decide (a.getD 2 (0 : Int) < (0 : Int))) none (k (bits BinOp.xor IntKind.u64 (bits BinOp.xor IntKind.u64 i j) (g.fdiv ((2 : Int) ^ min (a.getD 2 (0 : Int)).toNat 64))))) (br (decide (h = (↑1 : Int))) (bg f e a b c d g (b.getD 0 (0 : Int)) fun l => bg f e a b c d g (b.getD 1 (0 : Int)) fun m => br (decide (b.getD 2 (0 : Int) < (0 : Int))) none (k (bits BinOp.xor IntKind.u64 (bits BinOp.xor IntKind.u64 l m) (g.fdiv ((2 : Int) ^ min (b.getD 2 (0 : Int)).toNat 64))))) (br (decide (h = (↑2 : Int))) (bg f e a b c d g (c.getD 0 (0 : Int)) fun n => bg f e a b c d g (c.getD 1 (0 : Int)) fun o => br (decide (c.getD 2 (0 : Int) < (0 : Int))) none (k (bits BinOp.xor IntKind.u64 (bits BinOp.xor IntKind.u64 n o) (g.fdiv ((2 : Int) ^ min (c.getD 2 (0 : Int)).toNat 64))))) (br (decide (h = (↑3 : Int))) (bg f e a b c d g (d.getD 0 (0 : Int)) fun p => bg f e a b c d g (d.getD 1 (0 : Int)) fun q => br (decide (d.getD 2 (0 : Int) < (0 : Int))) none (k (bits BinOp.xor IntKind.u64 (bits BinOp.xor IntKind.u64 p q) (g.fdiv ((2 : Int) ^ min (d.getD 2 (0 : Int)).toNat 64))))) none)))
def jl {ρ : Type} := shut (ug (ρ := ρ))
theorem aah {ρ : Type} (f : Int) (e : Int) (a : List Int) (b : List Int) (c : List Int) (d : List Int) (g : Int) (h : Int) (k : Int → Option ρ) : jl f e a b c d g h k = ug f e a b c d g h k := by unfold jl; rw [bn]

abbrev bz2 (ρ : Type) := (List Int) → Int → Int → Int → Int → (List Int) → (List Int) → (List Int) → (List Int) → (List Int) → (List Int) → (List Int) → Option ρ
def yw {ρ : Type} (l : List Int) (b a c d : Int) (e f g h i j k : List Int) (nx m : bz2 ρ) : Option ρ := br (decide (a < 16)) (br (decide (0 ≤ IntKind.i64.wrap (a * b))) (br (decide (IntKind.i64.wrap (a * b) ≤ IntKind.i64.wrap (IntKind.i64.wrap (a + 1) * b))) (br (decide (IntKind.i64.wrap (IntKind.i64.wrap (a + 1) * b) ≤ (↑l.length : Int))) (tu (List.drop (IntKind.i64.wrap (a * b)).toNat (List.take (IntKind.i64.wrap (IntKind.i64.wrap (a + 1) * b)).toNat l)) fun n => br (decide (0 ≤ a)) (br (decide (a < (↑16 : Int))) (nx l b (IntKind.i64.wrap (a + 1)) c d e f g h i j (k.set a.toNat n)) none) none) none) none) none) (m l b a c d e f g h i j k)
abbrev buc := (List Int) × Int × Int × Int × Int × (List Int) × (List Int) × (List Int) × (List Int) × (List Int) × (List Int) × (List Int)
abbrev b1c := buc
def b2a {ρ : Type} (f : buc → Option ρ) : bz2 ρ := fun l m k a b c d e g h i j => f (l, m, k, a, b, c, d, e, g, h, i, j)
def bum {ρ : Type} : aea buc b1c ρ := fun (k, l, j, a, b, c, d, e, f, g, h, i) next ex => yw k l j a b c d e f g h i (b2a next) (b2a ex)
def by2 {ρ : Type} := shut (lp (bum (ρ := ρ)))
theorem b2v {ρ : Type} : by2 (ρ := ρ) = lp bum := bn _
def bvf {ρ : Type} (f : aeg buc b1c ρ) (l : List Int) (m k a b : Int) (c d e g h i j : List Int) (n : bz2 ρ) : Option ρ := f (l, m, k, a, b, c, d, e, g, h, i, j) (fun (l, m, k, a, b, c, d, e, g, h, i, j) => n l m k a b c d e g h i j)
def aci {ρ : Type} := bvf (lp (bum (ρ := ρ)))
def y5 {ρ : Type} := bvf (by2 (ρ := ρ))
theorem af3 {ρ : Type} : y5 (ρ := ρ) = aci := congrArg bvf b2v
abbrev bz8 (ρ : Type) := Int → Int → (List Int) → (List Int) → (List Int) → Int → Int → (List Int) → (List Int) → (List Int) → (List Int) → (List Int) → Option ρ
def xu {ρ : Type} (j b : Int) (c k l : List Int) (d e : Int) (f g h i a : List Int) (nx o : bz8 ρ) : Option ρ := br (decide (b < j)) (br (decide (0 ≤ b.tmod 16)) (br (decide (b.tmod 16 < (↑16 : Int))) (jg d e f g h i (a.getD 4 0) 3 fun m => mh b fun n => jg d e f g h i (a.getD 0 0) 2 fun p => br (decide (0 ≤ (IntKind.i64.wrap (b + 1)).tmod 16)) (br (decide ((IntKind.i64.wrap (b + 1)).tmod 16 < (↑16 : Int))) (jl d e f g h i (c.getD ((IntKind.i64.wrap (b + 1)).tmod 16).toNat 0) 0 fun q => br (decide (0 ≤ (IntKind.i64.wrap (b + 9)).tmod 16)) (br (decide ((IntKind.i64.wrap (b + 9)).tmod 16 < (↑16 : Int))) (br (decide (0 ≤ (IntKind.i64.wrap (b + 14)).tmod 16)) (br (decide ((IntKind.i64.wrap (b + 14)).tmod 16 < (↑16 : Int))) (jl d e f g h i (c.getD ((IntKind.i64.wrap (b + 14)).tmod 16).toNat 0) 1 fun r => br (decide (0 ≤ b.tmod 16)) (br (decide (b.tmod 16 < (↑16 : Int))) (nx j (IntKind.i64.wrap (b + 1)) (c.set (b.tmod 16).toNat (IntKind.u64.wrap (IntKind.u64.wrap (IntKind.u64.wrap (c.getD (b.tmod 16).toNat 0 + q) + c.getD ((IntKind.i64.wrap (b + 9)).tmod 16).toNat 0) + r))) k l d e f g h i ((((List.take 1 a).append (List.take 7 (List.take 7 (List.drop 0 a)) ++ List.drop (1 + min 7 (List.take 7 (List.drop 0 a)).length) a)).set 4 (IntKind.u64.wrap (((List.take 1 a).append (List.take 7 (List.take 7 (List.drop 0 a)) ++ List.drop (1 + min 7 (List.take 7 (List.drop 0 a)).length) a)).getD 4 0 + IntKind.u64.wrap (IntKind.u64.wrap (IntKind.u64.wrap (IntKind.u64.wrap (a.getD 7 0 + m) + bits BinOp.xor IntKind.u64 (a.getD 6 0) (bits BinOp.and IntKind.u64 (a.getD 4 0) (bits BinOp.xor IntKind.u64 (a.getD 5 0) (a.getD 6 0)))) + n) + c.getD (b.tmod 16).toNat 0)))).set 0 (IntKind.u64.wrap (IntKind.u64.wrap (IntKind.u64.wrap (IntKind.u64.wrap (IntKind.u64.wrap (a.getD 7 0 + m) + bits BinOp.xor IntKind.u64 (a.getD 6 0) (bits BinOp.and IntKind.u64 (a.getD 4 0) (bits BinOp.xor IntKind.u64 (a.getD 5 0) (a.getD 6 0)))) + n) + c.getD (b.tmod 16).toNat 0) + IntKind.u64.wrap (p + bits BinOp.or IntKind.u64 (bits BinOp.and IntKind.u64 (a.getD 0 0) (a.getD 1 0)) (bits BinOp.and IntKind.u64 (a.getD 2 0) (bits BinOp.or IntKind.u64 (a.getD 0 0) (a.getD 1 0)))))))) none) none) none) none) none) none) none) none) none) none) (o j b c k l d e f g h i a)
abbrev bs0 := Int × Int × (List Int) × (List Int) × (List Int) × Int × Int × (List Int) × (List Int) × (List Int) × (List Int) × (List Int)
abbrev bx2 := bs0
def bzx {ρ : Type} (f : bs0 → Option ρ) : bz8 ρ := fun l m a b c d e g h i j k => f (l, m, a, b, c, d, e, g, h, i, j, k)
def bq5 {ρ : Type} : aea bs0 bx2 ρ := fun (k, l, a, b, c, d, e, f, g, h, i, j) next ex => xu k l a b c d e f g h i j (bzx next) (bzx ex)
def bys {ρ : Type} := shut (lp (bq5 (ρ := ρ)))
theorem b3b {ρ : Type} : bys (ρ := ρ) = lp bq5 := bn _
def bvo {ρ : Type} (f : aeg bs0 bx2 ρ) (l m : Int) (a b c : List Int) (d e : Int) (g h i j k : List Int) (n : bz8 ρ) : Option ρ := f (l, m, a, b, c, d, e, g, h, i, j, k) (fun (l, m, a, b, c, d, e, g, h, i, j, k) => n l m a b c d e g h i j k)
def abe {ρ : Type} := bvo (lp (bq5 (ρ := ρ)))
def qp {ρ : Type} := bvo (bys (ρ := ρ))
theorem afs {ρ : Type} : qp (ρ := ρ) = abe := congrArg bvo b3b
abbrev bwo (ρ : Type) := Int → (List Int) → (List Int) → (List Int) → Option ρ
def xk {ρ : Type} (a : Int) (b d c : List Int) (nx e : bwo ρ) : Option ρ := br (decide (a < 8)) (br (decide (0 ≤ a)) (br (decide (a < (↑8 : Int))) (br (decide (0 ≤ a)) (br (decide (a < (↑8 : Int))) (br (decide (0 ≤ a)) (br (decide (a < (↑8 : Int))) (nx (IntKind.i64.wrap (a + 1)) b d (c.set a.toNat (IntKind.u64.wrap (c.getD a.toNat 0 + b.getD a.toNat 0)))) none) none) none) none) none) none) (e a b d c)
abbrev bqx := Int × (List Int) × (List Int) × (List Int)
abbrev b2q := bqx
def bwl {ρ : Type} (f : bqx → Option ρ) : bwo ρ := fun a b c d => f (a, b, c, d)
def bua {ρ : Type} : aea bqx b2q ρ := fun (a, b, c, d) next ex => xk a b c d (bwl next) (bwl ex)
def byd {ρ : Type} := shut (lp (bua (ρ := ρ)))
theorem b3g {ρ : Type} : byd (ρ := ρ) = lp bua := bn _
def bvd {ρ : Type} (f : aeg bqx b2q ρ) (a : Int) (b c d : List Int) (e : bwo ρ) : Option ρ := f (a, b, c, d) (fun (a, b, c, d) => e a b c d)
def abg {ρ : Type} := bvd (lp (bua (ρ := ρ)))
def qw {ρ : Type} := bvd (byd (ρ := ρ))
theorem afl {ρ : Type} : qw (ρ := ρ) = abg := congrArg bvd b3g
def yj {ρ : Type} (a f : Int) (b c d e p q : List Int) (k : (List Int) → Option ρ) : Option ρ := y5 q (IntKind.i64.wrap (a.tdiv 8)) 0 a f b c d e p [0, 0, 0, 0, 0, 0, 0, 0] [0, 0, 0, 0, 0, 0, 0, 0, 0, 0, 0, 0, 0, 0, 0, 0] fun N O Q r g s t u v h i j => qp g 0 j i h r g s t u v h fun w y z l m A B C F G H n => qw 0 m l n fun I J M o => k o
def jy {ρ : Type} := shut (yj (ρ := ρ))
theorem acn {ρ : Type} (f : Int) (e : Int) (a : List Int) (b : List Int) (c : List Int) (d : List Int) (g : List Int) (h : List Int) (k : (List Int) → Option ρ) : jy f e a b c d g h k = yj f e a b c d g h k := by unfold jy; rw [bn]

abbrev bx9 (ρ : Type) := (List Int) → (List Int) → Int → Int → Int → (List Int) → (List Int) → (List Int) → (List Int) → (List Int) → (List Int) → (List Int) → Option ρ
def abl {ρ : Type} (l b : List Int) (a c d : Int) (e f g h i j k : List Int) (nx m : bx9 ρ) : Option ρ := br (decide (a < 8)) (br (decide (0 ≤ a)) (br (decide (a < (↑8 : Int))) (br (decide (0 ≤ a)) (br (decide (a < (↑8 : Int))) (nx l b (IntKind.i64.wrap (a + 1)) c d e f g h i j (k.set a.toNat (b.getD a.toNat 0))) none) none) none) none) (m l b a c d e f g h i j k)
abbrev bqi := (List Int) × (List Int) × Int × Int × Int × (List Int) × (List Int) × (List Int) × (List Int) × (List Int) × (List Int) × (List Int)
abbrev bzg := bqi
def b1s {ρ : Type} (f : bqi → Option ρ) : bx9 ρ := fun m k l a b c d e g h i j => f (m, k, l, a, b, c, d, e, g, h, i, j)
def buh {ρ : Type} : aea bqi bzg ρ := fun (l, j, k, a, b, c, d, e, f, g, h, i) next ex => abl l j k a b c d e f g h i (b1s next) (b1s ex)
def byq {ρ : Type} := shut (lp (buh (ρ := ρ)))
theorem b3l {ρ : Type} : byq (ρ := ρ) = lp buh := bn _
def buw {ρ : Type} (f : aeg bqi bzg ρ) (m k : List Int) (l a b : Int) (c d e g h i j : List Int) (n : bx9 ρ) : Option ρ := f (m, k, l, a, b, c, d, e, g, h, i, j) (fun (m, k, l, a, b, c, d, e, g, h, i, j) => n m k l a b c d e g h i j)
def afp {ρ : Type} := buw (lp (buh (ρ := ρ)))
def abw {ρ : Type} := buw (byq (ρ := ρ))
theorem ai6 {ρ : Type} : abw (ρ := ρ) = afp := congrArg buw b3l
abbrev bxg (ρ : Type) := (List Int) → Int → (List Int) → (List Int) → (List Int) → Int → Int → (List Int) → (List Int) → (List Int) → (List Int) → Option ρ
def abr {ρ : Type} (b : List Int) (a : Int) (i j k : List Int) (c d : Int) (e f g h : List Int) (nx l : bxg ρ) : Option ρ := br (decide ((↑b.length : Int) ≥ a)) (br (decide (0 ≤ a)) (br (decide (a ≤ (↑b.length : Int))) (jy c d e f g h i (List.drop 0 (List.take a.toNat b)) fun m => br (decide (0 ≤ a)) (br (decide (a ≤ (↑b.length : Int))) (br (decide ((↑b.length : Int) ≤ (↑b.length : Int))) (nx (List.drop a.toNat (List.take (↑b.length : Int).toNat b)) a m j k c d e f g h) none) none) none) none) none) (l b a i j k c d e f g h)
abbrev bt8 := (List Int) × Int × (List Int) × (List Int) × (List Int) × Int × Int × (List Int) × (List Int) × (List Int) × (List Int)
abbrev b1z := bt8
def byk {ρ : Type} (f : bt8 → Option ρ) : bxg ρ := fun l k a b c d e g h i j => f (l, k, a, b, c, d, e, g, h, i, j)
def br9 {ρ : Type} : aea bt8 b1z ρ := fun (k, j, a, b, c, d, e, f, g, h, i) next ex => abr k j a b c d e f g h i (byk next) (byk ex)
def b1t {ρ : Type} := shut (lp (br9 (ρ := ρ)))
theorem b2x {ρ : Type} : b1t (ρ := ρ) = lp br9 := bn _
def bu8 {ρ : Type} (f : aeg bt8 b1z ρ) (l : List Int) (k : Int) (a b c : List Int) (d e : Int) (g h i j : List Int) (m : bxg ρ) : Option ρ := f (l, k, a, b, c, d, e, g, h, i, j) (fun (l, k, a, b, c, d, e, g, h, i, j) => m l k a b c d e g h i j)
def afo {ρ : Type} := bu8 (lp (br9 (ρ := ρ)))
def aby {ρ : Type} := bu8 (b1t (ρ := ρ))
theorem ai7 {ρ : Type} : aby (ρ := ρ) = afo := congrArg bu8 b2x
abbrev bzk (ρ : Type) := (List Int) → (List Int) → Int → (List Int) → (List Int) → Option ρ
def aa2 {ρ : Type} (e b : List Int) (a : Int) (c d : List Int) (nx f : bzk ρ) : Option ρ := br (decide (a < 8)) (br (decide (0 ≤ a)) (br (decide (a < (↑8 : Int))) (br (decide (0 ≤ a)) (br (decide (a < (↑8 : Int))) (nx e b (IntKind.i64.wrap (a + 1)) (c.set a.toNat (b.getD a.toNat 0)) d) none) none) none) none) (f e b a c d)
abbrev btc := (List Int) × (List Int) × Int × (List Int) × (List Int)
abbrev b0z := btc
def by8 {ρ : Type} (f : btc → Option ρ) : bzk ρ := fun e c d a b => f (e, c, d, a, b)
def bui {ρ : Type} : aea btc b0z ρ := fun (e, c, d, a, b) next ex => aa2 e c d a b (by8 next) (by8 ex)
def bwk {ρ : Type} := shut (lp (bui (ρ := ρ)))
theorem b4k {ρ : Type} : bwk (ρ := ρ) = lp bui := bn _
def bvg {ρ : Type} (f : aeg btc b0z ρ) (e c : List Int) (d : Int) (a b : List Int) (g : bzk ρ) : Option ρ := f (e, c, d, a, b) (fun (e, c, d, a, b) => g e c d a b)
def aed {ρ : Type} := bvg (lp (bui (ρ := ρ)))
def aa0 {ρ : Type} := bvg (bwk (ρ := ρ))
theorem aij {ρ : Type} : aa0 (ρ := ρ) = aed := congrArg bvg b4k
def aay {ρ : Type} (f e : Int) (a b c d g r : List Int) (k : (List Int) → (List Int) → Option ρ) : Option ρ := abw r g 0 f e a b c d g [0, 0, 0, 0, 0, 0, 0, 0] [0, 0, 0, 0, 0, 0, 0, 0] fun s O Q h t u v w y z i j => aby s (IntKind.i64.wrap (h * 2)) j i z h t u v w y fun l A m n o B C F G H I => aa0 l m 0 o n fun p J M q N => k q p
def og {ρ : Type} := shut (aay (ρ := ρ))
theorem afe {ρ : Type} (f : Int) (e : Int) (a : List Int) (b : List Int) (c : List Int) (d : List Int) (g : List Int) (h : List Int) (k : (List Int) → (List Int) → Option ρ) : og f e a b c d g h k = aay f e a b c d g h k := by unfold og; rw [bn]

def apc {ρ : Type} (k : Int → Int → (List Int) → (List Int) → (List Int) → (List Int) → Option ρ) : Option ρ := k 64 80 [1, 8, 7] [19, 61, 6] [28, 34, 39] [14, 18, 41]
def abx {ρ : Type} := shut (apc (ρ := ρ))
theorem arw {ρ : Type}  (k : Int → Int → (List Int) → (List Int) → (List Int) → (List Int) → Option ρ) : abx  k = apc  k := by unfold abx; rw [bn]

def nu {ρ : Type} (a : List Int) (k : (List Int) → Option ρ) : Option ρ := br (decide (a.length * 1 ≤ 140737488355328)) (k a) none

def ank {ρ : Type} (a : Int) (b d : List Int) (c : Int) (e : List Int) (k : Int → (List Int) → (List Int) → Int → Option ρ) : Option ρ := jc [d, e] fun f => br (a == 1) (abv fun q r s t u v => ny q r s t u v b f fun w y => nu y fun z => k a w z (IntKind.u64.wrap (c + IntKind.u64.wrap (↑e.length : Int)))) (abx fun g h i j l m => og g h i j l m b f fun n o => nu o fun p => k a n p (IntKind.u64.wrap (c + IntKind.u64.wrap (↑e.length : Int))))
def x9 {ρ : Type} := shut (ank (ρ := ρ))
theorem av1 {ρ : Type} (b : Int) (a : List Int) (c : List Int) (d : Int) (e : List Int) (k : Int → (List Int) → (List Int) → Int → Option ρ) : x9 b a c d e k = ank b a c d e k := by unfold x9; rw [bn]

def ahb {ρ : Type} (d b : Int) (a : List Int) (k : Int → (List Int) → (List Int) → Int → Option ρ) : Option ρ := ag4 d fun e f g h n => jo [a] fun c => br (decide (0 ≤ IntKind.i64.wrap (b - (↑a.length : Int)))) (br (decide ((c.length + (IntKind.i64.wrap (b - (↑a.length : Int))).toNat) * 1 ≤ 140737488355328)) (x9 e f g h (c ++ List.replicate (IntKind.i64.wrap (b - (↑a.length : Int))).toNat (0 : Int)) fun i j l m => k i j l m) none) none
def sj {ρ : Type} := shut (ahb (ρ := ρ))
theorem amq {ρ : Type} (a : Int) (b : Int) (c : List Int) (k : Int → (List Int) → (List Int) → Int → Option ρ) : sj a b c k = ahb a b c k := by unfold sj; rw [bn]

def aes {ρ : Type} (a : Int) (k : Int → Option ρ) : Option ρ := br (a == 1) (k 64) (k 128)
def qh {ρ : Type} := shut (aes (ρ := ρ))
theorem akd {ρ : Type} (a : Int) (k : Int → Option ρ) : qh a k = aes a k := by unfold qh; rw [bn]

abbrev bxp (ρ : Type) := Int → (List Int) → Int → (List Int) → Int → (List Int) → Int → (List Int) → Option ρ
def an3 {ρ : Type} (g : Int) (b : List Int) (a : Int) (c : List Int) (d : Int) (e : List Int) (f : Int) (h : List Int) (nx j : bxp ρ) : Option ρ := br (decide (a < 8)) (br (decide (0 ≤ a)) (br (decide (a < (↑8 : Int))) (um (b.getD a.toNat 0) (IntKind.i64.wrap (g.tdiv 16)) fun i => br (decide ((c.length + i.length) * 1 ≤ 140737488355328)) (nx g b (IntKind.i64.wrap (a + 1)) (c ++ i) d e f h) none) none) none) (j g b a c d e f h)
abbrev bru := Int × (List Int) × Int × (List Int) × Int × (List Int) × Int × (List Int)
abbrev bzc := bru
def bxe {ρ : Type} (f : bru → Option ρ) : bxp ρ := fun h d e g a b c i => f (h, d, e, g, a, b, c, i)
def brv {ρ : Type} : aea bru bzc ρ := fun (g, d, e, f, a, b, c, h) next ex => an3 g d e f a b c h (bxe next) (bxe ex)
def b05 {ρ : Type} := shut (lp (brv (ρ := ρ)))
theorem b3r {ρ : Type} : b05 (ρ := ρ) = lp brv := bn _
def bvt {ρ : Type} (f : aeg bru bzc ρ) (h : Int) (d : List Int) (e : Int) (g : List Int) (a : Int) (b : List Int) (c : Int) (i : List Int) (j : bxp ρ) : Option ρ := f (h, d, e, g, a, b, c, i) (fun (h, d, e, g, a, b, c, i) => j h d e g a b c i)
def asu {ρ : Type} := bvt (lp (brv (ρ := ρ)))
def aoe {ρ : Type} := bvt (b05 (ρ := ρ))
theorem avi {ρ : Type} : aoe (ρ := ρ) = asu := congrArg bvt b3r
def an4 {ρ : Type} (c : Int) (e a : List Int) (d : Int) (k : (List Int) → Option ρ) : Option ρ := qh c fun b => br (decide (1 ≤ b)) (br (decide (b * (↑1 : Int) ≤ (↑140737488355328 : Int))) (br (decide (b = 0)) none (br (decide (0 ≤ IntKind.i64.wrap (IntKind.i64.wrap ((IntKind.i64.wrap (IntKind.i64.wrap (IntKind.i64.wrap (IntKind.i64.wrap (2 * b) - 1) - IntKind.i64.wrap (b.tdiv 8)) - (↑a.length : Int))).tmod b + IntKind.i64.wrap (b.tdiv 8)) - 8))) (br (decide ((1 + (IntKind.i64.wrap (IntKind.i64.wrap ((IntKind.i64.wrap (IntKind.i64.wrap (IntKind.i64.wrap (IntKind.i64.wrap (2 * b) - 1) - IntKind.i64.wrap (b.tdiv 8)) - (↑a.length : Int))).tmod b + IntKind.i64.wrap (b.tdiv 8)) - 8)).toNat) * 1 ≤ 140737488355328)) (um (IntKind.u64.wrap (d * 2 ^ 3)) 8 fun g => br (decide ((((List.replicate (IntKind.i64.wrap (IntKind.i64.wrap ((IntKind.i64.wrap (IntKind.i64.wrap (IntKind.i64.wrap (IntKind.i64.wrap (2 * b) - 1) - IntKind.i64.wrap (b.tdiv 8)) - (↑a.length : Int))).tmod b + IntKind.i64.wrap (b.tdiv 8)) - 8)).toNat (0 : Int)).length.add 0).succ + g.length) * 1 ≤ 140737488355328)) (x9 c e a d ((List.replicate 1 (0 : Int)).set 0 128 ++ List.replicate (IntKind.i64.wrap (IntKind.i64.wrap ((IntKind.i64.wrap (IntKind.i64.wrap (IntKind.i64.wrap (IntKind.i64.wrap (2 * b) - 1) - IntKind.i64.wrap (b.tdiv 8)) - (↑a.length : Int))).tmod b + IntKind.i64.wrap (b.tdiv 8)) - 8)).toNat (0 : Int) ++ g) fun j h l m => aoe b h 0 [] j h m l fun q r s f i n o p => br (i == 2) (br (decide (48 ≤ (↑f.length : Int))) (k (List.take ((48 : Int) - (0 : Int)).toNat f)) none) (k f)) none) none) none)) none) none
def ad3 {ρ : Type} := shut (an4 (ρ := ρ))
theorem axh {ρ : Type} (b : Int) (a : List Int) (c : List Int) (d : Int) (k : (List Int) → Option ρ) : ad3 b a c d k = an4 b a c d k := by unfold ad3; rw [bn]

def aib {ρ : Type} (a : List Int) (k : (List Int) → Option ρ) : Option ρ := jo [List.take 1 (List.drop 3 a), List.take 8 (List.drop 8 a), List.take 13 (List.drop 19 a)] fun b => k b
def su {ρ : Type} := shut (aib (ρ := ρ))
theorem ao7 {ρ : Type} (a : List Int) (k : (List Int) → Option ρ) : su a k = aib a k := by unfold su; rw [bn]

def ad6 {ρ : Type} (n j : List Int) (c : Int) (a d : List Int) (e b g : Int) (f h : List Int) (i : Int) (k : (List Int) → Option ρ) : Option ρ := br (decide (b > 16)) (br (decide ((↑j.length : Int) > b)) (su n fun z => jo [z, j] fun A => x9 g f h i A fun B C F G => ad3 B C F G fun o => br (decide (0 ≤ b)) (br (decide (b ≤ (↑o.length : Int))) (k (List.take (b - 0).toNat (List.drop 0 o))) none) none) (su n fun H => jo [H, j] fun I => x9 c a d e I fun J p q r => ad3 J p q r fun l => br (decide (0 ≤ b)) (br (decide (b ≤ (↑l.length : Int))) (k (List.take (b - 0).toNat (List.drop 0 l))) none) none)) (su n fun s => jo [s, j] fun t => x9 c a d e t fun u v w y => ad3 u v w y fun m => br (decide (0 ≤ b)) (br (decide (b ≤ (↑m.length : Int))) (k (List.take (b - 0).toNat (List.drop 0 m))) none) none)
def lq {ρ : Type} := shut (ad6 (ρ := ρ))
theorem aja {ρ : Type} (i : List Int) (j : List Int) (c : Int) (a : List Int) (d : List Int) (e : Int) (l : Int) (f : Int) (b : List Int) (g : List Int) (h : Int) (k : (List Int) → Option ρ) : lq i j c a d e l f b g h k = ad6 i j c a d e l f b g h k := by unfold lq; rw [bn]

def ag9 {ρ : Type} (b : Int) (a : List Int) (k : Int → (List Int) → (List Int) → Int → Int → Int → (List Int) → (List Int) → Int → Option ρ) : Option ρ := sj 1 64 a fun c d e f => sj 3 128 a fun g h i j => k c d e f b g h i j
def ab4 {ρ : Type} := shut (ag9 (ρ := ρ))
theorem am5 {ρ : Type} (a : Int) (b : List Int) (k : Int → (List Int) → (List Int) → Int → Int → Int → (List Int) → (List Int) → Int → Option ρ) : ab4 a b k = ag9 a b k := by unfold ab4; rw [bn]

def ae6 {ρ : Type} (b c d e f : Int) (a : Bool) (g : List Int) (k : Int → Int → Int → Int → Int → Bool → Nat → Int → (List Int) → Int → Bool → Int → Int → (List Int) → (List Int) → Int → Int → Int → (List Int) → (List Int) → Int → Bool → Option ρ) : Option ρ := uf b c d e f a fun n => br (!n) (k 0 0 0 0 0 false 0 0 [] 0 false 0 0 [] [] 0 0 0 [] [] 0 false) (br ((↑g.length : Int) != b) (k 0 0 0 0 0 false 0 0 [] 0 false 0 0 [] [] 0 0 0 [] [] 0 false) (br a (abm b g fun o p q r s => k b c d e f a 1 o p q r s 0 [] [] 0 0 0 [] [] 0 true) (ab4 b g fun t u v w h i j l m => k b c d e f a 2 0 [] 0 false 0 t u v w h i j l m true)))
def ab7 {ρ : Type} := shut (ae6 (ρ := ρ))
theorem aji {ρ : Type} (b : Int) (c : Int) (d : Int) (e : Int) (f : Int) (a : Bool) (g : List Int) (k : Int → Int → Int → Int → Int → Bool → Nat → Int → (List Int) → Int → Bool → Int → Int → (List Int) → (List Int) → Int → Int → Int → (List Int) → (List Int) → Int → Bool → Option ρ) : ab7 b c d e f a g k = ae6 b c d e f a g k := by unfold ab7; rw [bn]

def alc {ρ : Type} (b c d e f : Int) (a : Bool) (z g h : List Int) (k : (List Int) → Option ρ) : Option ρ := ab7 b c d e f a z fun F G H I J M i A B C j l m n o p q r s t u v => br (!v) (k []) (br (decide (i = 1)) (l5 g h A B C j l fun w => k w) (br (decide (i = 2)) (lq g h m n o p q r s t u fun y => k y) none))
def vg {ρ : Type} := shut (alc (ρ := ρ))
theorem ath {ρ : Type} (b : Int) (c : Int) (d : Int) (e : Int) (f : Int) (a : Bool) (g : List Int) (h : List Int) (i : List Int) (k : (List Int) → Option ρ) : vg b c d e f a g h i k = alc b c d e f a g h i k := by unfold vg; rw [bn]

def ajw {ρ : Type} (b c d e f : Int) (a : Bool) (h g i : List Int) (k : (List Int) → Option ρ) : Option ρ := br ((↑g.length : Int) != b) (k []) (vg b c d e f a h i g fun j => k j)
def afc {ρ : Type} := shut (ajw (ρ := ρ))
theorem arh {ρ : Type} (b : Int) (c : Int) (d : Int) (e : Int) (f : Int) (a : Bool) (g : List Int) (h : List Int) (i : List Int) (k : (List Int) → Option ρ) : afc b c d e f a g h i k = ajw b c d e f a g h i k := by unfold afc; rw [bn]

def aej {ρ : Type} (d e f g h : Int) (b : Bool) (c i a : List Int) (j : Int) (k : (List Int) → Option ρ) : Option ρ := oh a 2 j fun l => tu (List.take 4 (List.drop 20 a)) fun m => oh l 3 m fun n => k n
def jk {ρ : Type} := shut (aej (ρ := ρ))
theorem akj {ρ : Type} (c : Int) (d : Int) (e : Int) (f : Int) (g : Int) (a : Bool) (b : List Int) (h : List Int) (i : List Int) (j : Int) (k : (List Int) → Option ρ) : jk c d e f g a b h i j k = aej c d e f g a b h i j k := by unfold jk; rw [bn]

def ac2 {ρ : Type} (c d e f g : Int) (a : Bool) (b h i : List Int) (j : Int) (k : (List Int) → Option ρ) : Option ρ := jk c d e f g a b h i 6 fun l => oh l 5 j fun m => afc c d e f g a h b m fun n => k n
def je {ρ : Type} := shut (ac2 (ρ := ρ))
theorem aht {ρ : Type} (c : Int) (d : Int) (e : Int) (f : Int) (g : Int) (a : Bool) (b : List Int) (h : List Int) (i : List Int) (j : Int) (k : (List Int) → Option ρ) : je c d e f g a b h i j k = ac2 c d e f g a b h i j k := by unfold je; rw [bn]

def abd {ρ : Type} (c d e f g : Int) (a : Bool) (b h i : List Int) (j l : Int) (k : (List Int) → Option ρ) : Option ρ := jk c d e f g a b h i 3 fun m => oh m 4 (IntKind.u64.wrap j) fun n => oh n 5 l fun o => k o
def oq {ρ : Type} := shut (abd (ρ := ρ))
theorem af4 {ρ : Type} (c : Int) (d : Int) (e : Int) (f : Int) (g : Int) (a : Bool) (b : List Int) (h : List Int) (i : List Int) (j : Int) (l : Int) (k : (List Int) → Option ρ) : oq c d e f g a b h i j l k = abd c d e f g a b h i j l k := by unfold oq; rw [bn]

def ac8 {ρ : Type} (b c d e f : Int) (a : Bool) (g h i : List Int) (j l : Int) (m : List (List Int)) (k : (List Int) → Option ρ) : Option ρ := oq b c d e f a g h i j l fun n => jo m fun o => vg b c d e f a h n o fun p => k p
def nk {ρ : Type} := shut (ac8 (ρ := ρ))
theorem ah6 {ρ : Type} (c : Int) (d : Int) (e : Int) (f : Int) (g : Int) (a : Bool) (b : List Int) (h : List Int) (i : List Int) (j : Int) (l : Int) (m : List (List Int)) (k : (List Int) → Option ρ) : nk c d e f g a b h i j l m k = ac8 c d e f g a b h i j l m k := by unfold nk; rw [bn]

abbrev bzp (ρ : Type) := Int → Int → Int → Int → Nat → (List Int) → (List (List Int)) → Int → Int → Int → Int → Int → Bool → (List Int) → (List Int) → (List Int) → Int → (List Int) → Option ρ
def ad8 {ρ : Type} (q r p a : Int) (c : Nat) (d : List Int) (e : List (List Int)) (f g h i j : Int) (k : Bool) (l m n : List Int) (b : Int) (o : List Int) (nx s : bzp ρ) : Option ρ := br (decide (a > 0)) (br (decide (0 ≤ IntKind.i64.wrap (a - 1))) (br (decide (IntKind.i64.wrap (a - 1) < (↑c : Int))) (br (d.getD (IntKind.i64.wrap (a - 1)).toNat 0 == b) (br (decide (IntKind.i64.wrap (b + 1) < 0)) none (br (decide (0 ≤ IntKind.i64.wrap (a - 1))) (br (decide (IntKind.i64.wrap (a - 1) < (↑c : Int))) (nk f g h i j k l m n (IntKind.i64.wrap (b + 1)) (p.fdiv (2 ^ min (IntKind.i64.wrap (b + 1)).toNat 64)) [e.getD (IntKind.i64.wrap (a - 1)).toNat [], o] fun t => br (decide (0 ≤ IntKind.i64.wrap (a - 1))) (br (decide (IntKind.i64.wrap (a - 1) ≤ (↑c : Int))) (nx q r p (↑(IntKind.i64.wrap (a - 1)).toNat : Int) (min (IntKind.i64.wrap (a - 1)).toNat c) (List.take (IntKind.i64.wrap (a - 1)).toNat d) (List.take (IntKind.i64.wrap (a - 1)).toNat e) f g h i j k l m n (IntKind.i64.wrap (b + 1)) t) none) none) none) none)) (s q r p a c d e f g h i j k l m n b o)) none) none) (s q r p a c d e f g h i j k l m n b o)
abbrev brn := Int × Int × Int × Int × Nat × (List Int) × (List (List Int)) × Int × Int × Int × Int × Int × Bool × (List Int) × (List Int) × (List Int) × Int × (List Int)
abbrev byb := brn
def bxx {ρ : Type} (f : brn → Option ρ) : bzp ρ := fun q r s p a b c d e g h i j k l m n o => f (q, r, s, p, a, b, c, d, e, g, h, i, j, k, l, m, n, o)
def bq2 {ρ : Type} : aea brn byb ρ := fun (p, q, r, o, a, b, c, d, e, f, g, h, i, j, k, l, m, n) next ex => ad8 p q r o a b c d e f g h i j k l m n (bxx next) (bxx ex)
def b0g {ρ : Type} := shut (lp (bq2 (ρ := ρ)))
theorem b3k {ρ : Type} : b0g (ρ := ρ) = lp bq2 := bn _
def bvc {ρ : Type} (f : aeg brn byb ρ) (q r s p : Int) (a : Nat) (b : List Int) (c : List (List Int)) (d e g h i : Int) (j : Bool) (k l m : List Int) (n : Int) (o : List Int) (t : bzp ρ) : Option ρ := f (q, r, s, p, a, b, c, d, e, g, h, i, j, k, l, m, n, o) (fun (q, r, s, p, a, b, c, d, e, g, h, i, j, k, l, m, n, o) => t q r s p a b c d e g h i j k l m n o)
def ah8 {ρ : Type} := bvc (lp (bq2 (ρ := ρ)))
def adl {ρ : Type} := bvc (b0g (ρ := ρ))
theorem als {ρ : Type} : adl (ρ := ρ) = ah8 := congrArg bvc b3k
abbrev b2j (ρ : Type) := Int → Int → Int → Nat → (List Int) → (List (List Int)) → Int → Int → Int → Int → Int → Bool → (List Int) → (List Int) → (List Int) → Option ρ
def adp {ρ : Type} (l p j : Int) (k : Nat) (n : List Int) (o : List (List Int)) (a b c d e : Int) (f : Bool) (g h i : List Int) (nx B : b2j ρ) : Option ρ := br (decide (l < 0)) none (br (decide (j < IntKind.u64.wrap (IntKind.u64.wrap (p + 1) * 2 ^ min l.toNat 64))) (je a b c d e f g h i j fun C => nk a b c d e f g h i 0 j [C] fun F => adl l p j (↑k : Int) k n o a b c d e f g h i 0 F fun G H I O m J M N q r s t u v w y z A => br (decide ((m + 1) * 32 ≤ 140737488355328)) (nx G H (IntKind.u64.wrap (I + 1)) (m + 1) (bgf m J 0 ++ [z]) (bgf m M [] ++ [A]) N q r s t u v w y) none) (B l p j k n o a b c d e f g h i))
abbrev bsg := Int × Int × Int × Nat × (List Int) × (List (List Int)) × Int × Int × Int × Int × Int × Bool × (List Int) × (List Int) × (List Int)
abbrev b2r := bsg
def b1x {ρ : Type} (f : bsg → Option ρ) : b2j ρ := fun n o p k l m a b c d e g h i j => f (n, o, p, k, l, m, a, b, c, d, e, g, h, i, j)
def buk {ρ : Type} : aea bsg b2r ρ := fun (m, n, o, j, k, l, a, b, c, d, e, f, g, h, i) next ex => adp m n o j k l a b c d e f g h i (b1x next) (b1x ex)
def byn {ρ : Type} := shut (lp (buk (ρ := ρ)))
theorem b3i {ρ : Type} : byn (ρ := ρ) = lp buk := bn _
def bvk {ρ : Type} (f : aeg bsg b2r ρ) (n o p : Int) (k : Nat) (l : List Int) (m : List (List Int)) (a b c d e : Int) (g : Bool) (h i j : List Int) (q : b2j ρ) : Option ρ := f (n, o, p, k, l, m, a, b, c, d, e, g, h, i, j) (fun (n, o, p, k, l, m, a, b, c, d, e, g, h, i, j) => q n o p k l m a b c d e g h i j)
def ah1 {ρ : Type} := bvk (lp (buk (ρ := ρ)))
def ahs {ρ : Type} := bvk (byn (ρ := ρ))
theorem alo {ρ : Type} : ahs (ρ := ρ) = ah1 := congrArg bvk b3i
def acz {ρ : Type} (c d e f g : Int) (a : Bool) (b h i : List Int) (j l : Int) (k : (List Int) → Option ρ) : Option ρ := br (decide (j < 0)) none (ahs j l (IntKind.u64.wrap (l * 2 ^ min j.toNat 64)) 0 [] [] c d e f g a b h i fun t u v m w n y z A B o p q r s => br (decide (0 < (↑m : Int))) (k (n.getD 0 [])) none)
def iw {ρ : Type} := shut (acz (ρ := ρ))
theorem ah3 {ρ : Type} (c : Int) (d : Int) (e : Int) (f : Int) (g : Int) (a : Bool) (b : List Int) (h : List Int) (i : List Int) (j : Int) (l : Int) (k : (List Int) → Option ρ) : iw c d e f g a b h i j l k = acz c d e f g a b h i j l k := by unfold iw; rw [bn]

abbrev b1l (ρ : Type) := Int → Int → Int → (List Int) → Int → Int → Int → Int → Int → Bool → Int → Int → Int → Int → Int → Bool → (List Int) → (List Int) → (List Int) → Int → Int → Int → Int → Int → Bool → (List Int) → (List Int) → (List Int) → (List Int) → Option ρ
def as6 {ρ : Type} (l m a : Int) (b : List Int) (n o p q r : Int) (s : Bool) (c d e f g : Int) (h : Bool) (i j k : List Int) (t u v w y : Int) (z : Bool) (A B C F : List Int) (nx H : b1l ρ) : Option ρ := br (decide (a < m)) (br (decide (a < 0)) none (iw c d e f g h i j k a (bits BinOp.xor IntKind.u64 (l.fdiv (2 ^ min a.toNat 64)) 1) fun G => br (decide ((b.length + G.length) * 1 ≤ 140737488355328)) (nx l m (IntKind.i64.wrap (a + 1)) (b ++ G) n o p q r s c d e f g h i j k t u v w y z A B C F) none)) (H l m a b n o p q r s c d e f g h i j k t u v w y z A B C F)
abbrev brq := Int × Int × Int × (List Int) × Int × Int × Int × Int × Int × Bool × Int × Int × Int × Int × Int × Bool × (List Int) × (List Int) × (List Int) × Int × Int × Int × Int × Int × Bool × (List Int) × (List Int) × (List Int) × (List Int)
abbrev by6 := brq
def b2y {ρ : Type} (f : brq → Option ρ) : b1l ρ := fun B C F a b c d e g h i j k l m n o p q r s t u v w y z A G => f (B, C, F, a, b, c, d, e, g, h, i, j, k, l, m, n, o, p, q, r, s, t, u, v, w, y, z, A, G)
def bvm {ρ : Type} : aea brq by6 ρ := fun (A, B, C, a, b, c, d, e, f, g, h, i, j, k, l, m, n, o, p, q, r, s, t, u, v, w, y, z, F) next ex => as6 A B C a b c d e f g h i j k l m n o p q r s t u v w y z F (b2y next) (b2y ex)
def bw9 {ρ : Type} := shut (lp (bvm (ρ := ρ)))
theorem b4g {ρ : Type} : bw9 (ρ := ρ) = lp bvm := bn _
def byo {ρ : Type} (f : aeg brq by6 ρ) (B C F : Int) (a : List Int) (b c d e g : Int) (h : Bool) (i j k l m : Int) (n : Bool) (o p q : List Int) (r s t u v : Int) (w : Bool) (y z A G : List Int) (H : b1l ρ) : Option ρ := f (B, C, F, a, b, c, d, e, g, h, i, j, k, l, m, n, o, p, q, r, s, t, u, v, w, y, z, A, G) (fun (B, C, F, a, b, c, d, e, g, h, i, j, k, l, m, n, o, p, q, r, s, t, u, v, w, y, z, A, G) => H B C F a b c d e g h i j k l m n o p q r s t u v w y z A G)
def auy {ρ : Type} := byo (lp (bvm (ρ := ρ)))
def akx {ρ : Type} := byo (bw9 (ρ := ρ))
theorem bfg {ρ : Type} : akx (ρ := ρ) = auy := congrArg byo b4g
abbrev b2d (ρ : Type) := Int → Int → (List Int) → Int → Int → Int → Int → Int → Bool → Int → Int → Int → Int → Int → Bool → (List Int) → (List Int) → (List Int) → Int → Int → Int → Int → Int → Bool → (List Int) → (List Int) → (List Int) → (List Int) → Option ρ
def avq {ρ : Type} (n a : Int) (c : List Int) (o p q d r : Int) (s : Bool) (e f g h i : Int) (j : Bool) (k l m : List Int) (t u v b w : Int) (y : Bool) (z A B C : List Int) (nx k0 : b2d ρ) : Option ρ := br (decide (a < n)) (br (decide (0 ≤ a)) (br (decide (a < (↑C.length : Int))) (br (decide (b < 0)) none (je e f g h i j k l m (bits BinOp.or IntKind.u64 (IntKind.u64.wrap (IntKind.u64.wrap a * 2 ^ min b.toNat 64)) (IntKind.u64.wrap (C.getD a.toNat 0))) fun F => br (decide ((c.length + F.length) * 1 ≤ 140737488355328)) (akx (bits BinOp.or IntKind.u64 (IntKind.u64.wrap (IntKind.u64.wrap a * 2 ^ min b.toNat 64)) (IntKind.u64.wrap (C.getD a.toNat 0))) d 0 (c ++ F) o p q d r s e f g h i j k l m t u v b w y z A B C fun q1 q2 q3 q4 q5 q6 q7 q8 q9 G H I J M N O Q U W Z aa ab ac ad ae af ag ah ai => nx n (IntKind.i64.wrap (a + 1)) q4 q5 q6 q7 q8 q9 G H I J M N O Q U W Z aa ab ac ad ae af ag ah ai) none)) none) none) (k0 n a c o p q d r s e f g h i j k l m t u v b w y z A B C)
abbrev bsb := Int × Int × (List Int) × Int × Int × Int × Int × Int × Bool × Int × Int × Int × Int × Int × Bool × (List Int) × (List Int) × (List Int) × Int × Int × Int × Int × Int × Bool × (List Int) × (List Int) × (List Int) × (List Int)
abbrev b2c := bsb
def b4l {ρ : Type} (f : bsb → Option ρ) : b2d ρ := fun B C a b c d e g h i j k l m n o p q r s t u v w y z A F => f (B, C, a, b, c, d, e, g, h, i, j, k, l, m, n, o, p, q, r, s, t, u, v, w, y, z, A, F)
def bv4 {ρ : Type} : aea bsb b2c ρ := fun (A, B, a, b, c, d, e, f, g, h, i, j, k, l, m, n, o, p, q, r, s, t, u, v, w, y, z, C) next ex => avq A B a b c d e f g h i j k l m n o p q r s t u v w y z C (b4l next) (b4l ex)
def bwj {ρ : Type} := shut (lp (bv4 (ρ := ρ)))
theorem b4i {ρ : Type} : bwj (ρ := ρ) = lp bv4 := bn _
def b1m {ρ : Type} (f : aeg bsb b2c ρ) (B C : Int) (a : List Int) (b c d e g : Int) (h : Bool) (i j k l m : Int) (n : Bool) (o p q : List Int) (r s t u v : Int) (w : Bool) (y z A F : List Int) (G : b2d ρ) : Option ρ := f (B, C, a, b, c, d, e, g, h, i, j, k, l, m, n, o, p, q, r, s, t, u, v, w, y, z, A, F) (fun (B, C, a, b, c, d, e, g, h, i, j, k, l, m, n, o, p, q, r, s, t, u, v, w, y, z, A, F) => G B C a b c d e g h i j k l m n o p q r s t u v w y z A F)
def avp {ρ : Type} := b1m (lp (bv4 (ρ := ρ)))
def am6 {ρ : Type} := b1m (bwj (ρ := ρ))
theorem bf8 {ρ : Type} : am6 (ρ := ρ) = avp := congrArg b1m b4i
def ajh {ρ : Type} (b c d e f : Int) (a : Bool) (j u v w : List Int) (k : (List Int) → Option ρ) : Option ρ := gy b c d e f a u v w fun l m n h i o p q r y => ko b c d e f a fun z s => br (!y) (k []) (br ((↑j.length : Int) != s) (k []) (oz j h i fun g => am6 (↑g.length : Int) 0 [] b c d e f a l m n h i o p q r l m n h i o p q r g fun A B t C F G H I J M N O Q U W Z aa ab ac ad ae af ag ah ai aj ak al => k t))
def afi {ρ : Type} := shut (ajh (ρ := ρ))
theorem arj {ρ : Type} (b : Int) (c : Int) (d : Int) (e : Int) (f : Int) (a : Bool) (g : List Int) (h : List Int) (i : List Int) (j : List Int) (k : (List Int) → Option ρ) : afi b c d e f a g h i j k = ajh b c d e f a g h i j k := by unfold afi; rw [bn]

def aj1 {ρ : Type} (k : Bool → Option ρ) : Option ρ := ko 16 2 1 2 3 false fun a b => br (a == 144) (br (b == 1) (afi 16 2 1 2 3 false (List.replicate 2 (0 : Int)) (List.replicate 16 (0 : Int)) (List.replicate 16 (0 : Int)) [0, 0, 0, 0, 0, 0, 0, 0, 0, 0, 0, 0, 0, 0, 0, 0, 0, 0, 0, 0, 0, 0, 0, 0, 0, 0, 0, 0, 0, 0, 0, 0] fun c => k ((↑c.length : Int) == 0)) (k false)) (k false)
def ze {ρ : Type} := shut (aj1 (ρ := ρ))
theorem aq3 {ρ : Type}  (k : Bool → Option ρ) : ze  k = aj1  k := by unfold ze; rw [bn]

def an0 {ρ : Type} (e b a c d : Int) (f : Bool) (k : Bool → Option ρ) : Option ρ := br (e != 16) (br (e != 24) (br (e != 32) (k false) (br (decide (a ≥ 1)) (br (decide (b ≤ 68)) (br (decide (b ≥ a)) (br (decide (a = 0)) none (br (b.tmod a == 0) (br (decide (a = 0)) none (br (decide (IntKind.i64.wrap (b.tdiv a) ≤ 9)) (br (decide (c ≥ 1)) (br (decide (c ≤ 14)) (br (decide (d ≥ 1)) (k (decide (d ≤ 40))) (k false)) (k false)) (k false)) (k false))) (k false))) (k false)) (k false)) (k false))) (br (decide (a ≥ 1)) (br (decide (b ≤ 68)) (br (decide (b ≥ a)) (br (decide (a = 0)) none (br (b.tmod a == 0) (br (decide (a = 0)) none (br (decide (IntKind.i64.wrap (b.tdiv a) ≤ 9)) (br (decide (c ≥ 1)) (br (decide (c ≤ 14)) (br (decide (d ≥ 1)) (k (decide (d ≤ 40))) (k false)) (k false)) (k false)) (k false))) (k false))) (k false)) (k false)) (k false))) (br (decide (a ≥ 1)) (br (decide (b ≤ 68)) (br (decide (b ≥ a)) (br (decide (a = 0)) none (br (b.tmod a == 0) (br (decide (a = 0)) none (br (decide (IntKind.i64.wrap (b.tdiv a) ≤ 9)) (br (decide (c ≥ 1)) (br (decide (c ≤ 14)) (br (decide (d ≥ 1)) (k (decide (d ≤ 40))) (k false)) (k false)) (k false)) (k false))) (k false))) (k false)) (k false)) (k false))
def vk {ρ : Type} := shut (an0 (ρ := ρ))
theorem axm {ρ : Type} (b : Int) (c : Int) (d : Int) (e : Int) (f : Int) (a : Bool) (k : Bool → Option ρ) : vk b c d e f a k = an0 b c d e f a k := by unfold vk; rw [bn]

def ah2 {ρ : Type} (d e f a b : Int) (c : Bool) (k : Int → Int → Option ρ) : Option ρ := vk d e f a b c fun g => br (!g) (k 0 0) (k (IntKind.i64.wrap (IntKind.i64.wrap (d * b) * IntKind.i64.wrap (a + 1))) (IntKind.i64.wrap ((IntKind.i64.wrap (IntKind.i64.wrap (b * a) + 7)).tdiv 8)))
def acv {ρ : Type} := shut (ah2 (ρ := ρ))
theorem anq {ρ : Type} (b : Int) (c : Int) (d : Int) (e : Int) (f : Int) (a : Bool) (k : Int → Int → Option ρ) : acv b c d e f a k = ah2 b c d e f a k := by unfold acv; rw [bn]

def agn {ρ : Type} (d e f b c : Int) (a : Bool) (k : Bool → Option ρ) : Option ρ := vk d e f b c a fun g => br g (br (decide (b ≤ 4)) (k (decide (c ≤ 6))) (k false)) (k false)
def zx {ρ : Type} := shut (agn (ρ := ρ))
theorem aq6 {ρ : Type} (b : Int) (c : Int) (d : Int) (e : Int) (f : Int) (a : Bool) (k : Bool → Option ρ) : zx b c d e f a k = agn b c d e f a k := by unfold zx; rw [bn]

abbrev bzt (ρ : Type) := (List Int) → (List Int) → Int → Option ρ
def an8 {ρ : Type} (b c : List Int) (a : Int) (nx d : bzt ρ) (e : Bool → Option ρ) : Option ρ := br (decide (a < (↑b.length : Int))) (br (decide (0 ≤ a)) (br (decide (a < (↑b.length : Int))) (br (decide (0 ≤ a)) (br (decide (a < (↑c.length : Int))) (br (b.getD a.toNat 0 != c.getD a.toNat 0) (e false) (nx b c (IntKind.i64.wrap (a + 1)))) none) none) none) none) (d b c a)
abbrev bvn := (List Int) × (List Int) × Int
abbrev b1h := ((List Int) × (List Int) × Int) ⊕ (Bool)
def b27 {ρ : Type} (f : bvn → Option ρ) : bzt ρ := fun a b c => f (a, b, c)
def brc {ρ : Type} : aea bvn b1h ρ := fun (a, b, c) next ex => an8 a b c (b27 next) (fun a b c => ex (.inl (a, b, c))) (fun d => ex (.inr d))
def byt {ρ : Type} := shut (lp (brc (ρ := ρ)))
theorem b29 {ρ : Type} : byt (ρ := ρ) = lp brc := bn _
def bvw {ρ : Type} (f : aeg bvn b1h ρ) (a b : List Int) (c : Int) (d : bzt ρ) (e : Bool → Option ρ) : Option ρ := f (a, b, c) (Sum.elim (fun (a, b, c) => d a b c) (fun x => e x))
def auz {ρ : Type} := bvw (lp (brc (ρ := ρ)))
def auk {ρ : Type} := bvw (byt (ρ := ρ))
theorem avr {ρ : Type} : auk (ρ := ρ) = auz := congrArg bvw b29
def ak4 {ρ : Type} (a b : List Int) (k : Bool → Option ρ) : Option ρ := br ((↑a.length : Int) != (↑b.length : Int)) (k false) (auk a b 0 (fun d e f => k true) fun c => k c)
def acf {ρ : Type} := shut (ak4 (ρ := ρ))
theorem as4 {ρ : Type} (a : List Int) (b : List Int) (k : Bool → Option ρ) : acf a b k = ak4 a b k := by unfold acf; rw [bn]

def aal {ρ : Type} (e f g a c : Int) (b : Bool) (j l m : List Int) (d h : Int) (k : (List Int) → Option ρ) : Option ρ := gy e f g a c b j l m fun n o p q r s t u v w => br (!w) (k []) (br (decide (d < 0)) (k []) (br (decide (d > a)) (k []) (br (decide (IntKind.i64.wrap (a - d) < 0)) none (br (decide (h ≥ IntKind.u64.wrap (IntKind.u64.wrap c * 2 ^ min (IntKind.i64.wrap (a - d)).toNat 64))) (k []) (iw n o p q r s t u v d h fun i => k i)))))
def adr {ρ : Type} := shut (aal (ρ := ρ))
theorem adg {ρ : Type} (b : Int) (c : Int) (d : Int) (e : Int) (f : Int) (a : Bool) (g : List Int) (h : List Int) (i : List Int) (j : Int) (l : Int) (k : (List Int) → Option ρ) : adr b c d e f a g h i j l k = aal b c d e f a g h i j l k := by unfold adr; rw [bn]

def aj6 {ρ : Type} (a c d e f : Int) (b : Bool) (g h : List Int) (k : Bool → Option ρ) : Option ρ := vk a c d e f b fun i => br (!i) (k true) (br ((↑g.length : Int) != a) (k true) (k ((↑h.length : Int) != a)))
def pz {ρ : Type} := shut (aj6 (ρ := ρ))
theorem arx {ρ : Type} (b : Int) (c : Int) (d : Int) (e : Int) (f : Int) (a : Bool) (g : List Int) (h : List Int) (k : Bool → Option ρ) : pz b c d e f a g h k = aj6 b c d e f a g h k := by unfold pz; rw [bn]

abbrev bx6 (ρ : Type) := (List (List Int)) → Int → (List Int) → Option ρ
def am9 {ρ : Type} (b : List (List Int)) (a : Int) (c : List Int) (nx d : bx6 ρ) : Option ρ := br (decide (a < (↑b.length : Int))) (br (decide (0 ≤ a)) (br (decide (a < (↑b.length : Int))) (br (decide ((c.length + (b.getD a.toNat []).length) * 1 ≤ 140737488355328)) (nx b (IntKind.i64.wrap (a + 1)) (c ++ b.getD a.toNat [])) none) none) none) (d b a c)
abbrev bq0 := (List (List Int)) × Int × (List Int)
abbrev bwc := bq0
def b0k {ρ : Type} (f : bq0 → Option ρ) : bx6 ρ := fun a b c => f (a, b, c)
def bs4 {ρ : Type} : aea bq0 bwc ρ := fun (a, b, c) next ex => am9 a b c (b0k next) (b0k ex)
def byh {ρ : Type} := shut (lp (bs4 (ρ := ρ)))
theorem b4m {ρ : Type} : byh (ρ := ρ) = lp bs4 := bn _
def bv1 {ρ : Type} (f : aeg bq0 bwc ρ) (a : List (List Int)) (b : Int) (c : List Int) (d : bx6 ρ) : Option ρ := f (a, b, c) (fun (a, b, c) => d a b c)
def atf {ρ : Type} := bv1 (lp (bs4 (ρ := ρ)))
def atj {ρ : Type} := bv1 (byh (ρ := ρ))
theorem avn {ρ : Type} : atj (ρ := ρ) = atf := congrArg bv1 b4m
def aky {ρ : Type} (a : List (List Int)) (k : (List Int) → Option ρ) : Option ρ := atj a 0 [] fun c d b => k b
def l8 {ρ : Type} := shut (aky (ρ := ρ))
theorem at6 {ρ : Type} (a : List (List Int)) (k : (List Int) → Option ρ) : l8 a k = aky a k := by unfold l8; rw [bn]

def alp {ρ : Type} (a : Int) (k : Int → Option ρ) : Option ρ := br (a == 4) (br (a == 4) (k 136) (br (a == 5) (k 72) (br (a == 6) (k 168) (k 0)))) (br (a == 7) (k 136) (br (a == 5) (k 72) (br (a == 6) (k 168) (k 0))))
def aak {ρ : Type} := shut (alp (ρ := ρ))
theorem au8 {ρ : Type} (a : Int) (k : Int → Option ρ) : aak a k = alp a k := by unfold aak; rw [bn]

def anb {ρ : Type} (a : Int) (k : Int → (List Int) → Int → Bool → Int → Option ρ) : Option ρ := aak a fun b => br (b == 0) (k 0 [0, 0, 0, 0, 0, 0, 0, 0, 0, 0, 0, 0, 0, 0, 0, 0, 0, 0, 0, 0, 0, 0, 0, 0, 0] 0 false 9) (k a [0, 0, 0, 0, 0, 0, 0, 0, 0, 0, 0, 0, 0, 0, 0, 0, 0, 0, 0, 0, 0, 0, 0, 0, 0] 0 false 0)
def alz {ρ : Type} := shut (anb (ρ := ρ))
theorem awd {ρ : Type} (a : Int) (k : Int → (List Int) → Int → Bool → Int → Option ρ) : alz a k = anb a k := by unfold alz; rw [bn]

abbrev bxd (ρ : Type) := Int → Int → (List Int) → (List Int) → Option ρ
def acw {ρ : Type} (d a : Int) (c b : List Int) (nx e : bxd ρ) : Option ρ := br (decide (a < (168 : Int))) (br (bits BinOp.and IntKind.u64 d (1 : Int) == (1 : Int)) (br (decide ((0 : Int) ≤ IntKind.i64.wrap (a.tdiv (7 : Int)))) (br (decide (IntKind.i64.wrap (a.tdiv (7 : Int)) < (↑24 : Int))) (br (decide (a.tmod (7 : Int) < (0 : Int))) none (br (decide (IntKind.u64.wrap (IntKind.u64.wrap ((1 : Int) * (2 : Int) ^ min (a.tmod (7 : Int)).toNat 64) - (1 : Int)) < (0 : Int))) none (br (decide ((0 : Int) ≤ IntKind.i64.wrap (a.tdiv (7 : Int)))) (br (decide (IntKind.i64.wrap (a.tdiv (7 : Int)) < (↑24 : Int))) (br (decide (IntKind.u64.wrap (d * (2 : Int)) ≥ (256 : Int))) (nx (bits BinOp.xor IntKind.u64 (bits BinOp.and IntKind.u64 (IntKind.u64.wrap (d * (2 : Int))) (255 : Int)) (113 : Int)) (IntKind.i64.wrap (a + (1 : Int))) c (b.set (IntKind.i64.wrap (a.tdiv (7 : Int))).toNat (bits BinOp.or IntKind.u64 (b.getD (IntKind.i64.wrap (a.tdiv (7 : Int))).toNat (0 : Int)) (IntKind.u64.wrap ((1 : Int) * (2 : Int) ^ min (IntKind.u64.wrap (IntKind.u64.wrap ((1 : Int) * (2 : Int) ^ min (a.tmod (7 : Int)).toNat 64) - (1 : Int))).toNat 64))))) (nx (IntKind.u64.wrap (d * (2 : Int))) (IntKind.i64.wrap (a + (1 : Int))) c (b.set (IntKind.i64.wrap (a.tdiv (7 : Int))).toNat (bits BinOp.or IntKind.u64 (b.getD (IntKind.i64.wrap (a.tdiv (7 : Int))).toNat (0 : Int)) (IntKind.u64.wrap ((1 : Int) * (2 : Int) ^ min (IntKind.u64.wrap (IntKind.u64.wrap ((1 : Int) * (2 : Int) ^ min (a.tmod (7 : Int)).toNat 64) - (1 : Int))).toNat 64)))))) none) none))) none) none) (br (decide (IntKind.u64.wrap (d * (2 : Int)) ≥ (256 : Int))) (nx (bits BinOp.xor IntKind.u64 (bits BinOp.and IntKind.u64 (IntKind.u64.wrap (d * (2 : Int))) (255 : Int)) (113 : Int)) (IntKind.i64.wrap (a + (1 : Int))) c b) (nx (IntKind.u64.wrap (d * (2 : Int))) (IntKind.i64.wrap (a + (1 : Int))) c b))) (e d a c b)
abbrev bt5 := Int × Int × (List Int) × (List Int)
abbrev by3 := bt5
def brg {ρ : Type} (f : bt5 → Option ρ) : bxd ρ := fun c d a b => f (c, d, a, b)
def bpq {ρ : Type} : aea bt5 by3 ρ := fun (c, d, a, b) next ex => acw c d a b (brg next) (brg ex)
def b2n {ρ : Type} := shut (lp (bpq (ρ := ρ)))
theorem b4b {ρ : Type} : b2n (ρ := ρ) = lp bpq := bn _
def bpx {ρ : Type} (f : aeg bt5 by3 ρ) (c d : Int) (a b : List Int) (e : bxd ρ) : Option ρ := f (c, d, a, b) (fun (c, d, a, b) => e c d a b)
def acy {ρ : Type} := bpx (lp (bpq (ρ := ρ)))
def aki {ρ : Type} := bpx (b2n (ρ := ρ))
theorem ac6 {ρ : Type} : aki (ρ := ρ) = acy := congrArg bpx b4b
def aeu {ρ : Type} (k : (List Int) → Option ρ) : Option ρ := aki 1 0 [0, 0, 0, 0, 0, 0, 0, 0, 0, 0, 0, 0, 0, 0, 0, 0, 0, 0, 0, 0, 0, 0, 0, 0] [0, 0, 0, 0, 0, 0, 0, 0, 0, 0, 0, 0, 0, 0, 0, 0, 0, 0, 0, 0, 0, 0, 0, 0] fun b c d a => k a
def u7 {ρ : Type} := shut (aeu (ρ := ρ))
theorem akf {ρ : Type}  (k : (List Int) → Option ρ) : u7  k = aeu  k := by unfold u7; rw [bn]

def aai {ρ : Type} (b a : Int) (k : Int → Option ρ) : Option ρ := br (decide (a.tmod (64 : Int) < (0 : Int))) none (br (decide (IntKind.i64.wrap ((64 : Int) - a.tmod (64 : Int)) < (0 : Int))) none (k (bits BinOp.or IntKind.u64 (IntKind.u64.wrap (b * (2 : Int) ^ min (a.tmod (64 : Int)).toNat 64)) (b.fdiv ((2 : Int) ^ min (IntKind.i64.wrap ((64 : Int) - a.tmod (64 : Int))).toNat 64)))))
def ad1 {ρ : Type} := shut (aai (ρ := ρ))
theorem ac5 {ρ : Type} (a : Int) (b : Int) (k : Int → Option ρ) : ad1 a b k = aai a b k := by unfold ad1; rw [bn]

abbrev bzo (ρ : Type) := Int → Int → Int → (List Int) → (List Int) → (List Int) → Option ρ
def ajs {ρ : Type} (b a d : Int) (c e f : List Int) (nx g : bzo ρ) : Option ρ := br (decide (d < 24)) (br (decide (0 ≤ IntKind.i64.wrap (b + IntKind.i64.wrap (5 * a)))) (br (decide (IntKind.i64.wrap (b + IntKind.i64.wrap (5 * a)) < (↑25 : Int))) (ad1 (c.getD (IntKind.i64.wrap (b + IntKind.i64.wrap (5 * a))).toNat 0) (IntKind.i64.wrap ((IntKind.i64.wrap (IntKind.i64.wrap (d + 1) * IntKind.i64.wrap (d + 2))).tdiv 2)) fun h => br (decide (0 ≤ IntKind.i64.wrap (a + IntKind.i64.wrap (5 * (IntKind.i64.wrap (IntKind.i64.wrap (2 * b) + IntKind.i64.wrap (3 * a))).tmod 5)))) (br (decide (IntKind.i64.wrap (a + IntKind.i64.wrap (5 * (IntKind.i64.wrap (IntKind.i64.wrap (2 * b) + IntKind.i64.wrap (3 * a))).tmod 5)) < (↑25 : Int))) (nx a ((IntKind.i64.wrap (IntKind.i64.wrap (2 * b) + IntKind.i64.wrap (3 * a))).tmod 5) (IntKind.i64.wrap (d + 1)) c e (f.set (IntKind.i64.wrap (a + IntKind.i64.wrap (5 * (IntKind.i64.wrap (IntKind.i64.wrap (2 * b) + IntKind.i64.wrap (3 * a))).tmod 5))).toNat h)) none) none) none) none) (g b a d c e f)
abbrev br7 := Int × Int × Int × (List Int) × (List Int) × (List Int)
abbrev bz0 := br7
def bqc {ρ : Type} (f : br7 → Option ρ) : bzo ρ := fun d e g a b c => f (d, e, g, a, b, c)
def bpw {ρ : Type} : aea br7 bz0 ρ := fun (d, e, f, a, b, c) next ex => ajs d e f a b c (bqc next) (bqc ex)
def bwi {ρ : Type} := shut (lp (bpw (ρ := ρ)))
theorem b34 {ρ : Type} : bwi (ρ := ρ) = lp bpw := bn _
def bpr {ρ : Type} (f : aeg br7 bz0 ρ) (d e g : Int) (a b c : List Int) (h : bzo ρ) : Option ρ := f (d, e, g, a, b, c) (fun (d, e, g, a, b, c) => h d e g a b c)
def aj2 {ρ : Type} := bpr (lp (bpw (ρ := ρ)))
def atz {ρ : Type} := bpr (bwi (ρ := ρ))
theorem aip {ρ : Type} : atz (ρ := ρ) = aj2 := congrArg bpr b34
def alk {ρ : Type} (a : List Int) (k : (List Int) → Option ρ) : Option ρ := atz 1 0 0 a [0, 0, 0, 0, 0, 0, 0, 0, 0, 0, 0, 0, 0, 0, 0, 0, 0, 0, 0, 0, 0, 0, 0, 0, 0] ([(0 : Int), (0 : Int), (0 : Int), (0 : Int), (0 : Int), (0 : Int), (0 : Int), (0 : Int), (0 : Int), (0 : Int), (0 : Int), (0 : Int), (0 : Int), (0 : Int), (0 : Int), (0 : Int), (0 : Int), (0 : Int), (0 : Int), (0 : Int), (0 : Int), (0 : Int), (0 : Int), (0 : Int), (0 : Int)].set 0 (a.getD 0 0)) fun c d e f g b => k b
def agp {ρ : Type} := shut (alk (ρ := ρ))
theorem as2 {ρ : Type} (a : List Int) (k : (List Int) → Option ρ) : agp a k = alk a k := by unfold agp; rw [bn]

abbrev btu (ρ : Type) := Int → (List Int) → (List Int) → (List Int) → Option ρ
def agj {ρ : Type} (a : Int) (b d c : List Int) (nx e : btu ρ) : Option ρ := br (decide (a < 25)) (br (decide (0 ≤ a.tmod 5)) (br (decide (a.tmod 5 < (↑5 : Int))) (br (decide (0 ≤ a)) (br (decide (a < (↑25 : Int))) (br (decide (0 ≤ a.tmod 5)) (br (decide (a.tmod 5 < (↑5 : Int))) (nx (IntKind.i64.wrap (a + 1)) b d (c.set (a.tmod 5).toNat (bits BinOp.xor IntKind.u64 (c.getD (a.tmod 5).toNat 0) (b.getD a.toNat 0)))) none) none) none) none) none) none) (e a b d c)
abbrev bsq := Int × (List Int) × (List Int) × (List Int)
abbrev bz3 := bsq
def bt9 {ρ : Type} (f : bsq → Option ρ) : btu ρ := fun d a b c => f (d, a, b, c)
def bpt {ρ : Type} : aea bsq bz3 ρ := fun (d, a, b, c) next ex => agj d a b c (bt9 next) (bt9 ex)
def bw3 {ρ : Type} := shut (lp (bpt (ρ := ρ)))
theorem b3p {ρ : Type} : bw3 (ρ := ρ) = lp bpt := bn _
def bps {ρ : Type} (f : aeg bsq bz3 ρ) (d : Int) (a b c : List Int) (e : btu ρ) : Option ρ := f (d, a, b, c) (fun (d, a, b, c) => e d a b c)
def agf {ρ : Type} := bps (lp (bpt (ρ := ρ)))
def aoo {ρ : Type} := bps (bw3 (ρ := ρ))
theorem afz {ρ : Type} : aoo (ρ := ρ) = agf := congrArg bps b3p
abbrev zc40 (ρ : Type) := Int → (List Int) → (List Int) → (List Int) → Option ρ
def agd {ρ : Type} (a : Int) (b d c : List Int) (nx e : btu ρ) : Option ρ := br (decide (a < 25)) (br (decide (0 ≤ a)) (br (decide (a < (↑25 : Int))) (br (decide (0 ≤ (IntKind.i64.wrap (a + 4)).tmod 5)) (br (decide ((IntKind.i64.wrap (a + 4)).tmod 5 < (↑5 : Int))) (br (decide (0 ≤ (IntKind.i64.wrap (a + 1)).tmod 5)) (br (decide ((IntKind.i64.wrap (a + 1)).tmod 5 < (↑5 : Int))) (ad1 (b.getD ((IntKind.i64.wrap (a + 1)).tmod 5).toNat 0) 1 fun f => br (decide (0 ≤ a)) (br (decide (a < (↑25 : Int))) (nx (IntKind.i64.wrap (a + 1)) b d (c.set a.toNat (bits BinOp.xor IntKind.u64 (bits BinOp.xor IntKind.u64 (c.getD a.toNat 0) (b.getD ((IntKind.i64.wrap (a + 4)).tmod 5).toNat 0)) f))) none) none) none) none) none) none) none) none) (e a b d c)
abbrev bqd := Int × (List Int) × (List Int) × (List Int)
abbrev bxo := bqd
def bt6 {ρ : Type} (f : bqd → Option ρ) : zc40 ρ := fun d a b c => f (d, a, b, c)
def bpv {ρ : Type} : aea bqd bxo ρ := fun (d, a, b, c) next ex => agd d a b c (bt6 next) (bt6 ex)
def by5 {ρ : Type} := shut (lp (bpv (ρ := ρ)))
theorem b4n {ρ : Type} : by5 (ρ := ρ) = lp bpv := bn _
def bpy {ρ : Type} (f : aeg bqd bxo ρ) (d : Int) (a b c : List Int) (e : btu ρ) : Option ρ := f (d, a, b, c) (fun (d, a, b, c) => e d a b c)
def agh {ρ : Type} := bpy (lp (bpv (ρ := ρ)))
def apr {ρ : Type} := bpy (by5 (ρ := ρ))
theorem afx {ρ : Type} : apr (ρ := ρ) = agh := congrArg bpy b4n
def aik {ρ : Type} (a : List Int) (k : (List Int) → Option ρ) : Option ρ := aoo 0 a [0, 0, 0, 0, 0, 0, 0, 0, 0, 0, 0, 0, 0, 0, 0, 0, 0, 0, 0, 0, 0, 0, 0, 0, 0] [0, 0, 0, 0, 0] fun f b c d => apr 0 d c b fun g h i e => k e
def ab9 {ρ : Type} := shut (aik (ρ := ρ))
theorem aow {ρ : Type} (a : List Int) (k : (List Int) → Option ρ) : ab9 a k = aik a k := by unfold ab9; rw [bn]

abbrev b1n (ρ : Type) := Int → Int → (List Int) → (List Int) → (List Int) → (List Int) → Option ρ
def amr {ρ : Type} (f a : Int) (c d e b : List Int) (nx g : b1n ρ) : Option ρ := br (decide (a < 25)) (br (decide (0 ≤ a)) (br (decide (a < (↑25 : Int))) (br (decide (0 ≤ IntKind.i64.wrap (IntKind.i64.wrap (IntKind.i64.wrap (a.tdiv 5) * 5) + (IntKind.i64.wrap (a + 1)).tmod 5))) (br (decide (IntKind.i64.wrap (IntKind.i64.wrap (IntKind.i64.wrap (a.tdiv 5) * 5) + (IntKind.i64.wrap (a + 1)).tmod 5) < (↑25 : Int))) (br (decide (0 ≤ IntKind.i64.wrap (IntKind.i64.wrap (IntKind.i64.wrap (a.tdiv 5) * 5) + (IntKind.i64.wrap (a + 2)).tmod 5))) (br (decide (IntKind.i64.wrap (IntKind.i64.wrap (IntKind.i64.wrap (a.tdiv 5) * 5) + (IntKind.i64.wrap (a + 2)).tmod 5) < (↑25 : Int))) (br (decide (0 ≤ a)) (br (decide (a < (↑25 : Int))) (nx f (IntKind.i64.wrap (a + 1)) c d (e.set a.toNat (bits BinOp.xor IntKind.u64 (b.getD a.toNat 0) (bits BinOp.and IntKind.u64 (bits BinOp.xor IntKind.u64 (b.getD (IntKind.i64.wrap (IntKind.i64.wrap (IntKind.i64.wrap (a.tdiv 5) * 5) + (IntKind.i64.wrap (a + 1)).tmod 5)).toNat 0) 18446744073709551615) (b.getD (IntKind.i64.wrap (IntKind.i64.wrap (IntKind.i64.wrap (a.tdiv 5) * 5) + (IntKind.i64.wrap (a + 2)).tmod 5)).toNat 0)))) b) none) none) none) none) none) none) none) none) (g f a c d e b)
abbrev bra := Int × Int × (List Int) × (List Int) × (List Int) × (List Int)
abbrev bye := bra
def b0r {ρ : Type} (f : bra → Option ρ) : b1n ρ := fun e g a b c d => f (e, g, a, b, c, d)
def brf {ρ : Type} : aea bra bye ρ := fun (e, f, a, b, c, d) next ex => amr e f a b c d (b0r next) (b0r ex)
def byc {ρ : Type} := shut (lp (brf (ρ := ρ)))
theorem b33 {ρ : Type} : byc (ρ := ρ) = lp brf := bn _
def bvz {ρ : Type} (f : aeg bra bye ρ) (e g : Int) (a b c d : List Int) (h : b1n ρ) : Option ρ := f (e, g, a, b, c, d) (fun (e, g, a, b, c, d) => h e g a b c d)
def amv {ρ : Type} := bvz (lp (brf (ρ := ρ)))
def aii {ρ : Type} := bvz (byc (ρ := ρ))
theorem aqe {ρ : Type} : aii (ρ := ρ) = amv := congrArg bvz b33
abbrev b0w (ρ : Type) := Int → (List Int) → (List Int) → (List Int) → Option ρ
def aie {ρ : Type} (e : Int) (a b c : List Int) (nx h : b0w ρ) : Option ρ := br (decide (e < 24)) (ab9 a fun i => agp i fun j => aii e 0 c b a j fun d l f k g m => br (decide (0 ≤ d)) (br (decide (d < (↑24 : Int))) (nx (IntKind.i64.wrap (d + 1)) (g.set 0 (bits BinOp.xor IntKind.u64 (g.getD 0 0) (f.getD d.toNat 0))) k f) none) none) (h e a b c)
abbrev bs8 := Int × (List Int) × (List Int) × (List Int)
abbrev b0q := bs8
def by0 {ρ : Type} (f : bs8 → Option ρ) : b0w ρ := fun d a b c => f (d, a, b, c)
def bql {ρ : Type} : aea bs8 b0q ρ := fun (d, a, b, c) next ex => aie d a b c (by0 next) (by0 ex)
def b2b {ρ : Type} := shut (lp (bql (ρ := ρ)))
theorem b31 {ρ : Type} : b2b (ρ := ρ) = lp bql := bn _
def bvq {ρ : Type} (f : aeg bs8 b0q ρ) (d : Int) (a b c : List Int) (e : b0w ρ) : Option ρ := f (d, a, b, c) (fun (d, a, b, c) => e d a b c)
def ams {ρ : Type} := bvq (lp (bql (ρ := ρ)))
def amu {ρ : Type} := bvq (b2b (ρ := ρ))
theorem aqs {ρ : Type} : amu (ρ := ρ) = ams := congrArg bvq b31
def ag0 {ρ : Type} (a : List Int) (k : (List Int) → Option ρ) : Option ρ := u7 fun b => amu 0 a [0, 0, 0, 0, 0, 0, 0, 0, 0, 0, 0, 0, 0, 0, 0, 0, 0, 0, 0, 0, 0, 0, 0, 0, 0] b fun d c e f => k c
def mo {ρ : Type} := shut (ag0 (ρ := ρ))
theorem am0 {ρ : Type} (a : List Int) (k : (List Int) → Option ρ) : mo a k = ag0 a k := by unfold mo; rw [bn]

def an6 {ρ : Type} (b : List Int) (a c : Int) (k : (List Int) → Option ρ) : Option ρ := br (decide (0 ≤ IntKind.i64.wrap (a.tdiv 8))) (br (decide (IntKind.i64.wrap (a.tdiv 8) < (↑25 : Int))) (br (decide (IntKind.i64.wrap (8 * a.tmod 8) < 0)) none (br (decide (0 ≤ IntKind.i64.wrap (a.tdiv 8))) (br (decide (IntKind.i64.wrap (a.tdiv 8) < (↑25 : Int))) (k (b.set (IntKind.i64.wrap (a.tdiv 8)).toNat (bits BinOp.xor IntKind.u64 (b.getD (IntKind.i64.wrap (a.tdiv 8)).toNat 0) (IntKind.u64.wrap (IntKind.u64.wrap c * 2 ^ min (IntKind.i64.wrap (8 * a.tmod 8)).toNat 64))))) none) none)) none) none
def w9 {ρ : Type} := shut (an6 (ρ := ρ))
theorem aw0 {ρ : Type} (a : List Int) (b : Int) (c : Int) (k : (List Int) → Option ρ) : w9 a b c k = an6 a b c k := by unfold w9; rw [bn]

end P
end
