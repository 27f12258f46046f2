/-
  ForsSigns, part 11: an interpreter of my own over abstract values, the pure functions, the walks and the plain law.
-/

import Derived.Test.YtjhnljhjpnjieaaGreatDoorForsSignsG
import Derived.Test.YtjhnljhjpnjieaaGreatDoorForsSignsI
import Derived.Test.YtjhnljhjpnjieaaGreatDoorForsSignsJ

noncomputable section
open Go Go.Abs
set_option linter.unusedVariables false
namespace P

abbrev zc8 (ρ : Type) := Int → (List Int) → (List Int) → (List Int) → Option ρ
def ahm {ρ : Type} (a : Int) (c b d : List Int) (nx e : zc8 ρ) : Option ρ := br (decide (a < 5)) (br (decide (0 ≤ a)) (br (decide (a < (↑25 : Int))) (br (decide (0 ≤ IntKind.i64.wrap (a + 5))) (br (decide (IntKind.i64.wrap (a + 5) < (↑25 : Int))) (br (decide (0 ≤ IntKind.i64.wrap (a + 10))) (br (decide (IntKind.i64.wrap (a + 10) < (↑25 : Int))) (br (decide (0 ≤ IntKind.i64.wrap (a + 15))) (br (decide (IntKind.i64.wrap (a + 15) < (↑25 : Int))) (br (decide (0 ≤ IntKind.i64.wrap (a + 20))) (br (decide (IntKind.i64.wrap (a + 20) < (↑25 : Int))) (br (decide (0 ≤ a)) (br (decide (a < (↑5 : Int))) (nx (IntKind.i64.wrap (a + 1)) c b (d.set a.toNat (bits BinOp.xor IntKind.u64 (bits BinOp.xor IntKind.u64 (bits BinOp.xor IntKind.u64 (bits BinOp.xor IntKind.u64 (b.getD a.toNat 0) (b.getD (IntKind.i64.wrap (a + 5)).toNat 0)) (b.getD (IntKind.i64.wrap (a + 10)).toNat 0)) (b.getD (IntKind.i64.wrap (a + 15)).toNat 0)) (b.getD (IntKind.i64.wrap (a + 20)).toNat 0)))) none) none) none) none) none) none) none) none) none) none) none) none) (e a c b d)
abbrev zt8 := Int × (List Int) × (List Int) × (List Int)
abbrev zy8 := zt8
def zu8 {ρ : Type} (f : zt8 → Option ρ) : zc8 ρ := fun d a b c => f (d, a, b, c)
def zs8 {ρ : Type} : adp zt8 zy8 ρ := fun (d, a, b, c) next ex => ahm d a b c (zu8 next) (zu8 ex)
def zm8 {ρ : Type} := shut (lp (zs8 (ρ := ρ)))
theorem ze8 {ρ : Type} : zm8 (ρ := ρ) = lp zs8 := bn _
def zk8 {ρ : Type} (f : adr zt8 zy8 ρ) (d : Int) (a b c : List Int) (e : zc8 ρ) : Option ρ := f (d, a, b, c) (fun (d, a, b, c) => e d a b c)
def aha {ρ : Type} := zk8 (lp (zs8 (ρ := ρ)))
def adh {ρ : Type} := zk8 (zm8 (ρ := ρ))
theorem alf {ρ : Type} : adh (ρ := ρ) = aha := congrArg zk8 ze8
abbrev zc9 (ρ : Type) := Int → Int → Int → Int → Int → (List Int) → (List Int) → (List Int) → (List Int) → Option ρ
def aa0 {ρ : Type} (i b h a g : Int) (d e f c : List Int) (nx j : zc9 ρ) : Option ρ := br (decide (a < 25)) (br (decide (0 ≤ IntKind.i64.wrap (b + a))) (br (decide (IntKind.i64.wrap (b + a) < (↑25 : Int))) (br (decide (0 ≤ IntKind.i64.wrap (b + a))) (br (decide (IntKind.i64.wrap (b + a) < (↑25 : Int))) (nx i b h (IntKind.i64.wrap (a + 5)) g d e f (c.set (IntKind.i64.wrap (b + a)).toNat (bits BinOp.xor IntKind.u64 (c.getD (IntKind.i64.wrap (b + a)).toNat 0) h))) none) none) none) none) (j i b h a g d e f c)
abbrev zt9 := Int × Int × Int × Int × Int × (List Int) × (List Int) × (List Int) × (List Int)
abbrev zy9 := zt9
def zu9 {ρ : Type} (f : zt9 → Option ρ) : zc9 ρ := fun g h i j e a b c d => f (g, h, i, j, e, a, b, c, d)
def zs9 {ρ : Type} : adp zt9 zy9 ρ := fun (f, g, h, i, e, a, b, c, d) next ex => aa0 f g h i e a b c d (zu9 next) (zu9 ex)
def zm9 {ρ : Type} := shut (lp (zs9 (ρ := ρ)))
theorem ze9 {ρ : Type} : zm9 (ρ := ρ) = lp zs9 := bn _
def zk9 {ρ : Type} (f : adr zt9 zy9 ρ) (g h i j e : Int) (a b c d : List Int) (k : zc9 ρ) : Option ρ := f (g, h, i, j, e, a, b, c, d) (fun (g, h, i, j, e, a, b, c, d) => k g h i j e a b c d)
def aaw {ρ : Type} := zk9 (lp (zs9 (ρ := ρ)))
def aht {ρ : Type} := zk9 (zm9 (ρ := ρ))
theorem abb {ρ : Type} : aht (ρ := ρ) = aaw := congrArg zk9 ze9
abbrev bv1 (ρ : Type) := Int → Int → (List Int) → (List Int) → (List Int) → (List Int) → Option ρ
def ah4 {ρ : Type} (f a : Int) (c d e b : List Int) (nx g : bv1 ρ) : Option ρ := br (decide (a < 5)) (br (decide (0 ≤ (IntKind.i64.wrap (a + 4)).tmod 5)) (br (decide ((IntKind.i64.wrap (a + 4)).tmod 5 < (↑5 : Int))) (br (decide (0 ≤ (IntKind.i64.wrap (a + 1)).tmod 5)) (br (decide ((IntKind.i64.wrap (a + 1)).tmod 5 < (↑5 : Int))) (ig (b.getD ((IntKind.i64.wrap (a + 1)).tmod 5).toNat 0) 1 fun h => aht f a (bits BinOp.xor IntKind.u64 (b.getD ((IntKind.i64.wrap (a + 4)).tmod 5).toNat 0) h) 0 a b e d c fun i o p q j k l m n => nx i (IntKind.i64.wrap (j + 1)) n m l k) none) none) none) none) (g f a c d e b)
abbrev bst := Int × Int × (List Int) × (List Int) × (List Int) × (List Int)
abbrev b1h := bst
def b4r {ρ : Type} (f : bst → Option ρ) : bv1 ρ := fun g e a b c d => f (g, e, a, b, c, d)
def brs {ρ : Type} : adp bst b1h ρ := fun (f, e, a, b, c, d) next ex => ah4 f e a b c d (b4r next) (b4r ex)
def b5c {ρ : Type} := shut (lp (brs (ρ := ρ)))
theorem b6x {ρ : Type} : b5c (ρ := ρ) = lp brs := bn _
def bx8 {ρ : Type} (f : adr bst b1h ρ) (g e : Int) (a b c d : List Int) (h : bv1 ρ) : Option ρ := f (g, e, a, b, c, d) (fun (g, e, a, b, c, d) => h g e a b c d)
def ahq {ρ : Type} := bx8 (lp (brs (ρ := ρ)))
def ada {ρ : Type} := bx8 (b5c (ρ := ρ))
theorem alh {ρ : Type} : ada (ρ := ρ) = ahq := congrArg bx8 b6x
abbrev b1d (ρ : Type) := Int → Int → (List Int) → Int → (List Int) → (List Int) → (List Int) → (List Int) → Option ρ
def agq {ρ : Type} (g h : Int) (b : List Int) (a : Int) (d e f c : List Int) (nx i : b1d ρ) : Option ρ := br (decide (a < 24)) (br (decide (0 ≤ a)) (br (decide (a < (↑24 : Int))) (br (decide (0 ≤ a)) (br (decide (a < (↑24 : Int))) (ig h (byh.getD a.toNat 0) fun j => br (decide (0 ≤ b.getD a.toNat 0)) (br (decide (b.getD a.toNat 0 < (↑25 : Int))) (br (decide (0 ≤ b.getD a.toNat 0)) (br (decide (b.getD a.toNat 0 < (↑25 : Int))) (nx g (c.getD (b.getD a.toNat 0).toNat 0) b (IntKind.i64.wrap (a + 1)) d e f (c.set (b.getD a.toNat 0).toNat j)) none) none) none) none) none) none) none) none) (i g h b a d e f c)
abbrev bs4 := Int × Int × (List Int) × Int × (List Int) × (List Int) × (List Int) × (List Int)
abbrev b0b := bs4
def b5n {ρ : Type} (f : bs4 → Option ρ) : b1d ρ := fun h i e g a b c d => f (h, i, e, g, a, b, c, d)
def brv {ρ : Type} : adp bs4 b0b ρ := fun (g, h, e, f, a, b, c, d) next ex => agq g h e f a b c d (b5n next) (b5n ex)
def b37 {ρ : Type} := shut (lp (brv (ρ := ρ)))
theorem b6e {ρ : Type} : b37 (ρ := ρ) = lp brv := bn _
def bx2 {ρ : Type} (f : adr bs4 b0b ρ) (h i : Int) (e : List Int) (g : Int) (a b c d : List Int) (j : b1d ρ) : Option ρ := f (h, i, e, g, a, b, c, d) (fun (h, i, e, g, a, b, c, d) => j h i e g a b c d)
def agn {ρ : Type} := bx2 (lp (brv (ρ := ρ)))
def ac2 {ρ : Type} := bx2 (b37 (ρ := ρ))
theorem akg {ρ : Type} : ac2 (ρ := ρ) = agn := congrArg bx2 b6e
abbrev b4v (ρ : Type) := Int → Int → Int → (List Int) → (List Int) → (List Int) → (List Int) → (List Int) → Option ρ
def aad {ρ : Type} (h c a : Int) (d e f g b : List Int) (nx i : b4v ρ) : Option ρ := br (decide (a < 5)) (br (decide (0 ≤ a)) (br (decide (a < (↑5 : Int))) (br (decide (0 ≤ (IntKind.i64.wrap (a + 2)).tmod 5)) (br (decide ((IntKind.i64.wrap (a + 2)).tmod 5 < (↑5 : Int))) (br (decide (0 ≤ (IntKind.i64.wrap (a + 1)).tmod 5)) (br (decide ((IntKind.i64.wrap (a + 1)).tmod 5 < (↑5 : Int))) (br (decide (0 ≤ IntKind.i64.wrap (c + a))) (br (decide (IntKind.i64.wrap (c + a) < (↑25 : Int))) (nx h c (IntKind.i64.wrap (a + 1)) d e f (g.set (IntKind.i64.wrap (c + a)).toNat (bits BinOp.xor IntKind.u64 (b.getD a.toNat 0) (bits BinOp.andNot IntKind.u64 (b.getD ((IntKind.i64.wrap (a + 2)).tmod 5).toNat 0) (b.getD ((IntKind.i64.wrap (a + 1)).tmod 5).toNat 0)))) b) none) none) none) none) none) none) none) none) (i h c a d e f g b)
abbrev bt8 := Int × Int × Int × (List Int) × (List Int) × (List Int) × (List Int) × (List Int)
abbrev bzg := bt8
def bu1 {ρ : Type} (f : bt8 → Option ρ) : b4v ρ := fun i g h a b c d e => f (i, g, h, a, b, c, d, e)
def zs12 {ρ : Type} : adp bt8 bzg ρ := fun (h, f, g, a, b, c, d, e) next ex => aad h f g a b c d e (bu1 next) (bu1 ex)
def b5t {ρ : Type} := shut (lp (zs12 (ρ := ρ)))
theorem b6j {ρ : Type} : b5t (ρ := ρ) = lp zs12 := bn _
def bro {ρ : Type} (f : adr bt8 bzg ρ) (i g h : Int) (a b c d e : List Int) (j : b4v ρ) : Option ρ := f (i, g, h, a, b, c, d, e) (fun (i, g, h, a, b, c, d, e) => j i g h a b c d e)
def aae {ρ : Type} := bro (lp (zs12 (ρ := ρ)))
def agm {ρ : Type} := bro (b5t (ρ := ρ))
theorem aa1 {ρ : Type} : agm (ρ := ρ) = aae := congrArg bro b6j
abbrev zc13 (ρ : Type) := Int → Int → (List Int) → (List Int) → (List Int) → (List Int) → Option ρ
def agp {ρ : Type} (f a : Int) (b c d e : List Int) (nx g : bv1 ρ) : Option ρ := br (decide (a < 25)) (br (decide (0 ≤ a)) (br (decide (a ≤ IntKind.i64.wrap (a + 5))) (br (decide (IntKind.i64.wrap (a + 5) ≤ (↑25 : Int))) (br (decide (5 ≤ (IntKind.i64.wrap (a + 5) - a).toNat)) (br (decide (a.toNat + 5 ≤ 25)) (agm f a 0 e d c b (List.take 5 (List.drop a.toNat b)) fun h i n j k l m o => nx h (IntKind.i64.wrap (i + 5)) m l k j) none) none) none) none) none) (g f a b c d e)
abbrev btj := Int × Int × (List Int) × (List Int) × (List Int) × (List Int)
abbrev b2c := btj
def b2a {ρ : Type} (f : btj → Option ρ) : zc13 ρ := fun g e a b c d => f (g, e, a, b, c, d)
def bt3 {ρ : Type} : adp btj b2c ρ := fun (f, e, a, b, c, d) next ex => agp f e a b c d (b2a next) (b2a ex)
def b2m {ρ : Type} := shut (lp (bt3 (ρ := ρ)))
theorem b56 {ρ : Type} : b2m (ρ := ρ) = lp bt3 := bn _
def bxp {ρ : Type} (f : adr btj b2c ρ) (g e : Int) (a b c d : List Int) (h : bv1 ρ) : Option ρ := f (g, e, a, b, c, d) (fun (g, e, a, b, c, d) => h g e a b c d)
def agk {ρ : Type} := bxp (lp (bt3 (ρ := ρ)))
def ac4 {ρ : Type} := bxp (b2m (ρ := ρ))
theorem aj8 {ρ : Type} : ac4 (ρ := ρ) = agk := congrArg bxp b56
abbrev b3n (ρ : Type) := (List Int) → Int → (List Int) → (List Int) → Option ρ
def ae8 {ρ : Type} (e : List Int) (a : Int) (b c : List Int) (nx o : b3n ρ) : Option ρ := br (decide (a < 24)) (br (decide (0 ≤ a)) (br (decide (a < (↑24 : Int))) (adh 0 c b [0, 0, 0, 0, 0] fun C p q f => ada (e.getD a.toNat 0) 0 q p f f fun r F g s t u => ac2 r (g.getD 1 0) brf 0 u t s g fun h v w y i j k l => ac4 h 0 l k j i fun m z d n A B => nx e (IntKind.i64.wrap (a + 1)) (d.set 0 (bits BinOp.xor IntKind.u64 (d.getD 0 0) m)) n) none) none) (o e a b c)
abbrev bvc := (List Int) × Int × (List Int) × (List Int)
abbrev byo := bvc
def b0u {ρ : Type} (f : bvc → Option ρ) : b3n ρ := fun c d a b => f (c, d, a, b)
def bsu {ρ : Type} : adp bvc byo ρ := fun (c, d, a, b) next ex => ae8 c d a b (b0u next) (b0u ex)
def b4c {ρ : Type} := shut (lp (bsu (ρ := ρ)))
theorem b7r {ρ : Type} : b4c (ρ := ρ) = lp bsu := bn _
def bw4 {ρ : Type} (f : adr bvc byo ρ) (c : List Int) (d : Int) (a b : List Int) (e : b3n ρ) : Option ρ := f (c, d, a, b) (fun (c, d, a, b) => e c d a b)
def ajh {ρ : Type} := bw4 (lp (bsu (ρ := ρ)))
def ajw {ρ : Type} := bw4 (b4c (ρ := ρ))
theorem anc {ρ : Type} : ajw (ρ := ρ) = ajh := congrArg bw4 b7r
def aeb {ρ : Type} (a : List Int) (k : (List Int) → Option ρ) : Option ρ := ajw bhz 0 a [0, 0, 0, 0, 0, 0, 0, 0, 0, 0, 0, 0, 0, 0, 0, 0, 0, 0, 0, 0, 0, 0, 0, 0, 0] fun c d b e => k b
def gy {ρ : Type} := shut (aeb (ρ := ρ))
theorem aji {ρ : Type} (a : List Int) (k : (List Int) → Option ρ) : gy a k = aeb a k := by unfold gy; rw [bn]

abbrev b3r (ρ : Type) := (List Int) → Int → Int → Int → Int → (List Int) → Int → Bool → Int → (List Int) → Int → Bool → Option ρ
def af8 {ρ : Type} (k : List Int) (l j b d : Int) (c : List Int) (a : Int) (e : Bool) (f : Int) (g : List Int) (h : Int) (i : Bool) (nx m : b3r ρ) : Option ρ := br (decide (b < j)) (br (decide (0 ≤ b)) (br (decide (b < (↑k.length : Int))) (br (decide (0 ≤ IntKind.i64.wrap (a.tdiv 8))) (br (decide (IntKind.i64.wrap (a.tdiv 8) < (↑25 : Int))) (br (decide (IntKind.i64.wrap (8 * a.tmod 8) < 0)) none (br (decide (0 ≤ IntKind.i64.wrap (a.tdiv 8))) (br (decide (IntKind.i64.wrap (a.tdiv 8) < (↑25 : Int))) (br (IntKind.i64.wrap (a + 1) == l) (gy (c.set (IntKind.i64.wrap (a.tdiv 8)).toNat (bits BinOp.xor IntKind.u64 (c.getD (IntKind.i64.wrap (a.tdiv 8)).toNat 0) (IntKind.u64.wrap (IntKind.u64.wrap (k.getD b.toNat 0) * 2 ^ min (IntKind.i64.wrap (8 * a.tmod 8)).toNat 64)))) fun n => nx k l j (IntKind.i64.wrap (b + 1)) d n 0 e f g h i) (nx k l j (IntKind.i64.wrap (b + 1)) d (c.set (IntKind.i64.wrap (a.tdiv 8)).toNat (bits BinOp.xor IntKind.u64 (c.getD (IntKind.i64.wrap (a.tdiv 8)).toNat 0) (IntKind.u64.wrap (IntKind.u64.wrap (k.getD b.toNat 0) * 2 ^ min (IntKind.i64.wrap (8 * a.tmod 8)).toNat 64)))) (IntKind.i64.wrap (a + 1)) e f g h i)) none) none)) none) none) none) none) (m k l j b d c a e f g h i)
abbrev bwk := (List Int) × Int × Int × Int × Int × (List Int) × Int × Bool × Int × (List Int) × Int × Bool
abbrev byy := bwk
def b3k {ρ : Type} (f : bwk → Option ρ) : b3r ρ := fun l m j k a b c d e g h i => f (l, m, j, k, a, b, c, d, e, g, h, i)
def bu8 {ρ : Type} : adp bwk byy ρ := fun (k, l, i, j, a, b, c, d, e, f, g, h) next ex => af8 k l i j a b c d e f g h (b3k next) (b3k ex)
def b08 {ρ : Type} := shut (lp (bu8 (ρ := ρ)))
theorem b6b {ρ : Type} : b08 (ρ := ρ) = lp bu8 := bn _
def bw3 {ρ : Type} (f : adr bwk byy ρ) (l : List Int) (m j k a : Int) (b : List Int) (c : Int) (d : Bool) (e : Int) (g : List Int) (h : Int) (i : Bool) (n : b3r ρ) : Option ρ := f (l, m, j, k, a, b, c, d, e, g, h, i) (fun (l, m, j, k, a, b, c, d, e, g, h, i) => n l m j k a b c d e g h i)
def akv {ρ : Type} := bw3 (lp (bu8 (ρ := ρ)))
def ak0 {ρ : Type} := bw3 (b08 (ρ := ρ))
theorem an7 {ρ : Type} : ak0 (ρ := ρ) = akv := congrArg bw3 b6b
def ae3 {ρ : Type} (a : Int) (b : List Int) (d : Int) (c : Bool) (e : List Int) (k : Int → (List Int) → Int → Bool → Option ρ) : Option ρ := br c (k a b d c) (ko a fun f => ak0 e f (↑e.length : Int) 0 a b d c 0 [0, 0, 0, 0, 0, 0, 0, 0, 0, 0, 0, 0, 0, 0, 0, 0, 0, 0, 0, 0, 0, 0, 0, 0, 0] 0 false fun o p q r g h i j s l m n => k g h i j)
def og {ρ : Type} := shut (ae3 (ρ := ρ))
theorem ak5 {ρ : Type} (b : Int) (a : List Int) (d : Int) (c : Bool) (e : List Int) (k : Int → (List Int) → Int → Bool → Option ρ) : og b a d c e k = ae3 b a d c e k := by unfold og; rw [bn]

def ae1 {ρ : Type} (c : Int) (b : List Int) (a : Int) (g : Bool) (k : Int → (List Int) → Int → Bool → Option ρ) : Option ρ := br (c == 4) (br (decide (0 ≤ IntKind.i64.wrap (a.tdiv 8))) (br (decide (IntKind.i64.wrap (a.tdiv 8) < (↑25 : Int))) (br (decide (IntKind.i64.wrap (8 * a.tmod 8) < 0)) none (br (decide (0 ≤ IntKind.i64.wrap (a.tdiv 8))) (br (decide (IntKind.i64.wrap (a.tdiv 8) < (↑25 : Int))) (ko c fun d => br (decide (0 ≤ IntKind.i64.wrap ((IntKind.i64.wrap (d - 1)).tdiv 8))) (br (decide (IntKind.i64.wrap ((IntKind.i64.wrap (d - 1)).tdiv 8) < (↑25 : Int))) (br (decide (IntKind.i64.wrap (8 * (IntKind.i64.wrap (d - 1)).tmod 8) < 0)) none (br (decide (0 ≤ IntKind.i64.wrap ((IntKind.i64.wrap (d - 1)).tdiv 8))) (br (decide (IntKind.i64.wrap ((IntKind.i64.wrap (d - 1)).tdiv 8) < (↑25 : Int))) (gy ((b.set (IntKind.i64.wrap (a.tdiv 8)).toNat (bits BinOp.xor IntKind.u64 (b.getD (IntKind.i64.wrap (a.tdiv 8)).toNat 0) (IntKind.u64.wrap (IntKind.u64.wrap 6 * 2 ^ min (IntKind.i64.wrap (8 * a.tmod 8)).toNat 64)))).set (IntKind.i64.wrap ((IntKind.i64.wrap (d - 1)).tdiv 8)).toNat (bits BinOp.xor IntKind.u64 ((b.set (IntKind.i64.wrap (a.tdiv 8)).toNat (bits BinOp.xor IntKind.u64 (b.getD (IntKind.i64.wrap (a.tdiv 8)).toNat 0) (IntKind.u64.wrap (IntKind.u64.wrap 6 * 2 ^ min (IntKind.i64.wrap (8 * a.tmod 8)).toNat 64)))).getD (IntKind.i64.wrap ((IntKind.i64.wrap (d - 1)).tdiv 8)).toNat 0) (IntKind.u64.wrap (IntKind.u64.wrap 128 * 2 ^ min (IntKind.i64.wrap (8 * (IntKind.i64.wrap (d - 1)).tmod 8)).toNat 64)))) fun h => k c h 0 true) none) none)) none) none) none) none)) none) none) (br (c == 5) (br (decide (0 ≤ IntKind.i64.wrap (a.tdiv 8))) (br (decide (IntKind.i64.wrap (a.tdiv 8) < (↑25 : Int))) (br (decide (IntKind.i64.wrap (8 * a.tmod 8) < 0)) none (br (decide (0 ≤ IntKind.i64.wrap (a.tdiv 8))) (br (decide (IntKind.i64.wrap (a.tdiv 8) < (↑25 : Int))) (ko c fun e => br (decide (0 ≤ IntKind.i64.wrap ((IntKind.i64.wrap (e - 1)).tdiv 8))) (br (decide (IntKind.i64.wrap ((IntKind.i64.wrap (e - 1)).tdiv 8) < (↑25 : Int))) (br (decide (IntKind.i64.wrap (8 * (IntKind.i64.wrap (e - 1)).tmod 8) < 0)) none (br (decide (0 ≤ IntKind.i64.wrap ((IntKind.i64.wrap (e - 1)).tdiv 8))) (br (decide (IntKind.i64.wrap ((IntKind.i64.wrap (e - 1)).tdiv 8) < (↑25 : Int))) (gy ((b.set (IntKind.i64.wrap (a.tdiv 8)).toNat (bits BinOp.xor IntKind.u64 (b.getD (IntKind.i64.wrap (a.tdiv 8)).toNat 0) (IntKind.u64.wrap (IntKind.u64.wrap 6 * 2 ^ min (IntKind.i64.wrap (8 * a.tmod 8)).toNat 64)))).set (IntKind.i64.wrap ((IntKind.i64.wrap (e - 1)).tdiv 8)).toNat (bits BinOp.xor IntKind.u64 ((b.set (IntKind.i64.wrap (a.tdiv 8)).toNat (bits BinOp.xor IntKind.u64 (b.getD (IntKind.i64.wrap (a.tdiv 8)).toNat 0) (IntKind.u64.wrap (IntKind.u64.wrap 6 * 2 ^ min (IntKind.i64.wrap (8 * a.tmod 8)).toNat 64)))).getD (IntKind.i64.wrap ((IntKind.i64.wrap (e - 1)).tdiv 8)).toNat 0) (IntKind.u64.wrap (IntKind.u64.wrap 128 * 2 ^ min (IntKind.i64.wrap (8 * (IntKind.i64.wrap (e - 1)).tmod 8)).toNat 64)))) fun i => k c i 0 true) none) none)) none) none) none) none)) none) none) (br (decide (0 ≤ IntKind.i64.wrap (a.tdiv 8))) (br (decide (IntKind.i64.wrap (a.tdiv 8) < (↑25 : Int))) (br (decide (IntKind.i64.wrap (8 * a.tmod 8) < 0)) none (br (decide (0 ≤ IntKind.i64.wrap (a.tdiv 8))) (br (decide (IntKind.i64.wrap (a.tdiv 8) < (↑25 : Int))) (ko c fun f => br (decide (0 ≤ IntKind.i64.wrap ((IntKind.i64.wrap (f - 1)).tdiv 8))) (br (decide (IntKind.i64.wrap ((IntKind.i64.wrap (f - 1)).tdiv 8) < (↑25 : Int))) (br (decide (IntKind.i64.wrap (8 * (IntKind.i64.wrap (f - 1)).tmod 8) < 0)) none (br (decide (0 ≤ IntKind.i64.wrap ((IntKind.i64.wrap (f - 1)).tdiv 8))) (br (decide (IntKind.i64.wrap ((IntKind.i64.wrap (f - 1)).tdiv 8) < (↑25 : Int))) (gy ((b.set (IntKind.i64.wrap (a.tdiv 8)).toNat (bits BinOp.xor IntKind.u64 (b.getD (IntKind.i64.wrap (a.tdiv 8)).toNat 0) (IntKind.u64.wrap (IntKind.u64.wrap 31 * 2 ^ min (IntKind.i64.wrap (8 * a.tmod 8)).toNat 64)))).set (IntKind.i64.wrap ((IntKind.i64.wrap (f - 1)).tdiv 8)).toNat (bits BinOp.xor IntKind.u64 ((b.set (IntKind.i64.wrap (a.tdiv 8)).toNat (bits BinOp.xor IntKind.u64 (b.getD (IntKind.i64.wrap (a.tdiv 8)).toNat 0) (IntKind.u64.wrap (IntKind.u64.wrap 31 * 2 ^ min (IntKind.i64.wrap (8 * a.tmod 8)).toNat 64)))).getD (IntKind.i64.wrap ((IntKind.i64.wrap (f - 1)).tdiv 8)).toNat 0) (IntKind.u64.wrap (IntKind.u64.wrap 128 * 2 ^ min (IntKind.i64.wrap (8 * (IntKind.i64.wrap (f - 1)).tmod 8)).toNat 64)))) fun j => k c j 0 true) none) none)) none) none) none) none)) none) none))
def tq {ρ : Type} := shut (ae1 (ρ := ρ))
theorem ak6 {ρ : Type} (b : Int) (a : List Int) (d : Int) (c : Bool) (k : Int → (List Int) → Int → Bool → Option ρ) : tq b a d c k = ae1 b a d c k := by unfold tq; rw [bn]

abbrev b48 (ρ : Type) := Int → Int → Int → (List Int) → Int → Bool → Int → (List Int) → Int → Bool → (List Int) → Option ρ
def aew {ρ : Type} (j b c : Int) (d : List Int) (a : Int) (e : Bool) (f : Int) (g : List Int) (h : Int) (i : Bool) (k : List Int) (nx m : b48 ρ) : Option ρ := br (decide (b < j)) (ko c fun n => br (a == n) (gy d fun l => br (decide (0 ≤ b)) (br (decide (b < (↑k.length : Int))) (nx j (IntKind.i64.wrap (b + 1)) c l (IntKind.i64.wrap (0 + 1)) e f g h i (k.set b.toNat (IntKind.u8.wrap ((l.getD 0 0).fdiv (2 ^ 0))))) none) none) (br (decide (0 ≤ IntKind.i64.wrap (a.tdiv 8))) (br (decide (IntKind.i64.wrap (a.tdiv 8) < (↑25 : Int))) (br (decide (IntKind.i64.wrap (8 * a.tmod 8) < 0)) none (br (decide (0 ≤ b)) (br (decide (b < (↑k.length : Int))) (nx j (IntKind.i64.wrap (b + 1)) c d (IntKind.i64.wrap (a + 1)) e f g h i (k.set b.toNat (IntKind.u8.wrap ((d.getD (IntKind.i64.wrap (a.tdiv 8)).toNat 0).fdiv (2 ^ min (IntKind.i64.wrap (8 * a.tmod 8)).toNat 64))))) none) none)) none) none)) (m j b c d a e f g h i k)
abbrev bs7 := Int × Int × Int × (List Int) × Int × Bool × Int × (List Int) × Int × Bool × (List Int)
abbrev bz2 := bs7
def b2l {ρ : Type} (f : bs7 → Option ρ) : b48 ρ := fun j k a b c d e g h i l => f (j, k, a, b, c, d, e, g, h, i, l)
def brx {ρ : Type} : adp bs7 bz2 ρ := fun (i, j, a, b, c, d, e, f, g, h, k) next ex => aew i j a b c d e f g h k (b2l next) (b2l ex)
def byv {ρ : Type} := shut (lp (brx (ρ := ρ)))
theorem b50 {ρ : Type} : byv (ρ := ρ) = lp brx := bn _
def bx5 {ρ : Type} (f : adr bs7 bz2 ρ) (j k a : Int) (b : List Int) (c : Int) (d : Bool) (e : Int) (g : List Int) (h : Int) (i : Bool) (l : List Int) (m : b48 ρ) : Option ρ := f (j, k, a, b, c, d, e, g, h, i, l) (fun (j, k, a, b, c, d, e, g, h, i, l) => m j k a b c d e g h i l)
def ajg {ρ : Type} := bx5 (lp (brx (ρ := ρ)))
def acn {ρ : Type} := bx5 (byv (ρ := ρ))
theorem ang {ρ : Type} : acn (ρ := ρ) = ajg := congrArg bx5 b50
def ad7 {ρ : Type} (c : Int) (a : List Int) (e : Int) (b : Bool) (d : Int) (k : Int → (List Int) → Int → Bool → (List Int) → Option ρ) : Option ρ := br (decide (d < 0)) (k c a e b []) (br (!b) (tq c a e b fun m n o p => br (decide (0 ≤ d)) (br (decide (d ≤ d)) (br (decide (d * (↑1 : Int) ≤ (↑140737488355328 : Int))) (acn (↑(List.replicate d.toNat (0 : Int)).length : Int) 0 m n o p 0 [0, 0, 0, 0, 0, 0, 0, 0, 0, 0, 0, 0, 0, 0, 0, 0, 0, 0, 0, 0, 0, 0, 0, 0, 0] 0 false (List.replicate d.toNat (0 : Int)) fun H I q r s t u v w y f => k q r s t f) none) none) none) (br (decide (0 ≤ d)) (br (decide (d ≤ d)) (br (decide (d * (↑1 : Int) ≤ (↑140737488355328 : Int))) (acn (↑(List.replicate d.toNat (0 : Int)).length : Int) 0 c a e b 0 [0, 0, 0, 0, 0, 0, 0, 0, 0, 0, 0, 0, 0, 0, 0, 0, 0, 0, 0, 0, 0, 0, 0, 0, 0] 0 false (List.replicate d.toNat (0 : Int)) fun z A g h i j B C F G l => k g h i j l) none) none) none))
def qh {ρ : Type} := shut (ad7 (ρ := ρ))
theorem ajs {ρ : Type} (b : Int) (a : List Int) (d : Int) (c : Bool) (e : Int) (k : Int → (List Int) → Int → Bool → (List Int) → Option ρ) : qh b a d c e k = ad7 b a d c e k := by unfold qh; rw [bn]

def aed {ρ : Type} (e f : List Int) (b : Int) (a : List Int) (d : Int) (c : Bool) (g : Int) (k : (List Int) → Option ρ) : Option ρ := jq [List.take 32 (List.drop 0 e), f] fun h => og b a d c h fun i j l m => qh i j l m g fun o p q r n => k n
def l9 {ρ : Type} := shut (aed (ρ := ρ))
theorem ajn {ρ : Type} (e : List Int) (f : List Int) (b : Int) (a : List Int) (d : Int) (c : Bool) (g : Int) (k : (List Int) → Option ρ) : l9 e f b a d c g k = aed e f b a d c g k := by unfold l9; rw [bn]

def ahi {ρ : Type} (a : Int) (b : List Int) (k : Int → (List Int) → Int → Bool → Int → Option ρ) : Option ρ := adt 7 fun c d e f l => og c d e f b fun g h i j => k g h i j a
def abu {ρ : Type} := shut (ahi (ρ := ρ))
theorem an5 {ρ : Type} (a : Int) (b : List Int) (k : Int → (List Int) → Int → Bool → Int → Option ρ) : abu a b k = ahi a b k := by unfold abu; rw [bn]

def aqz {ρ : Type} (a : Int) (k : (List Int) → Bool → Option ρ) : Option ρ := br (a == 1) (k [1779033703, 3144134277, 1013904242, 2773480762, 1359893119, 2600822924, 528734635, 1541459225] true) (br (a == 2) (k [14680500436340154072, 7105036623409894663, 10473403895298186519, 1526699215303891257, 7436329637833083697, 10282925794625328401, 15784041429090275239, 5167115440072839076] true) (br (a == 3) (k [7640891576956012808, 13503953896175478587, 4354685564936845355, 11912009170470909681, 5840696475078001361, 11170449401992604703, 2270897969802886507, 6620516959819538809] true) (k [0, 0, 0, 0, 0, 0, 0, 0] false)))
def adz {ρ : Type} := shut (aqz (ρ := ρ))
theorem atc {ρ : Type} (a : Int) (k : (List Int) → Bool → Option ρ) : adz a k = aqz a k := by unfold adz; rw [bn]

def ao8 {ρ : Type} (a : Int) (k : Int → (List Int) → (List Int) → Int → Int → Option ρ) : Option ρ := adz a fun b c => br (!c) (k 0 [0, 0, 0, 0, 0, 0, 0, 0] [] 0 9) (k a b [] 0 0)
def ag5 {ρ : Type} := shut (ao8 (ρ := ρ))
theorem ayy {ρ : Type} (a : Int) (k : Int → (List Int) → (List Int) → Int → Int → Option ρ) : ag5 a k = ao8 a k := by unfold ag5; rw [bn]

abbrev b2z (ρ : Type) := Int → (List Int) → Int → Int → Option ρ
def aox {ρ : Type} (d : Int) (b : List Int) (c a : Int) (nx e : b2z ρ) : Option ρ := br (decide (a < c)) (br (decide (0 ≤ a)) (br (decide (a < (↑b.length : Int))) (nx (bits BinOp.or IntKind.u64 (IntKind.u64.wrap (d * 2 ^ 8)) (IntKind.u64.wrap (b.getD a.toNat 0))) b c (IntKind.i64.wrap (a + 1))) none) none) (e d b c a)
abbrev bsj := Int × (List Int) × Int × Int
abbrev bzm := bsj
def b44 {ρ : Type} (f : bsj → Option ρ) : b2z ρ := fun a b c d => f (a, b, c, d)
def bto {ρ : Type} : adp bsj bzm ρ := fun (a, b, c, d) next ex => aox a b c d (b44 next) (b44 ex)
def by2 {ρ : Type} := shut (lp (bto (ρ := ρ)))
theorem b7c {ρ : Type} : by2 (ρ := ρ) = lp bto := bn _
def bw7 {ρ : Type} (f : adr bsj bzm ρ) (a : Int) (b : List Int) (c d : Int) (e : b2z ρ) : Option ρ := f (a, b, c, d) (fun (a, b, c, d) => e a b c d)
def avz {ρ : Type} := bw7 (lp (bto (ρ := ρ)))
def awl {ρ : Type} := bw7 (by2 (ρ := ρ))
theorem aww {ρ : Type} : awl (ρ := ρ) = avz := congrArg bw7 b7c
def amu {ρ : Type} (a : List Int) (k : Int → Option ρ) : Option ρ := awl 0 a (↑a.length : Int) 0 fun b c d e => k b
def u6 {ρ : Type} := shut (amu (ρ := ρ))
theorem awk {ρ : Type} (a : List Int) (k : Int → Option ρ) : u6 a k = amu a k := by unfold u6; rw [bn]

def ah1 {ρ : Type} (a : Int) (k : Int → Option ρ) : Option ρ := br (decide (0 ≤ a)) (br (decide (a < (↑64 : Int))) (k (roots256.getD a.toNat 0)) none) none
def ny {ρ : Type} := shut (ah1 (ρ := ρ))
theorem anq {ρ : Type} (a : Int) (k : Int → Option ρ) : ny a k = ah1 a k := by unfold ny; rw [bn]

def wo {ρ : Type} (a g : Int) (b c d e : List Int) (h f : Int) (k : Int → Option ρ) : Option ρ := br (decide (f < 0)) none (br (decide (IntKind.i64.wrap (a - f) < 0)) none (k (bits BinOp.or IntKind.u32 (h.fdiv (2 ^ min f.toNat 32)) (IntKind.u32.wrap (h * 2 ^ min (IntKind.i64.wrap (a - f)).toNat 32)))))
def bg {ρ : Type} := shut (wo (ρ := ρ))
theorem abl {ρ : Type} (f : Int) (e : Int) (a : List Int) (b : List Int) (c : List Int) (d : List Int) (g : Int) (h : Int) (k : Int → Option ρ) : bg f e a b c d g h k = wo f e a b c d g h k := by unfold bg; rw [bn]

def uh {ρ : Type} (f e : Int) (a b c d : List Int) (g h : Int) (k : Int → Option ρ) : Option ρ := br (decide (h = (↑0 : Int))) (bg f e a b c d g (a.getD 0 0) fun l => bg f e a b c d g (a.getD 1 0) fun m => bg f e a b c d g (a.getD 2 0) fun n => k (bits BinOp.xor IntKind.u32 (bits BinOp.xor IntKind.u32 l m) n)) (br (decide (h = (↑1 : Int))) (bg f e a b c d g (b.getD 0 0) fun o => bg f e a b c d g (b.getD 1 0) fun p => bg f e a b c d g (b.getD 2 0) fun q => k (bits BinOp.xor IntKind.u32 (bits BinOp.xor IntKind.u32 o p) q)) (br (decide (h = (↑2 : Int))) (bg f e a b c d g (c.getD 0 0) fun r => bg f e a b c d g (c.getD 1 0) fun s => bg f e a b c d g (c.getD 2 0) fun t => k (bits BinOp.xor IntKind.u32 (bits BinOp.xor IntKind.u32 r s) t)) (br (decide (h = (↑3 : Int))) (bg f e a b c d g (d.getD 0 0) fun u => bg f e a b c d g (d.getD 1 0) fun i => bg f e a b c d g (d.getD 2 0) fun j => k (bits BinOp.xor IntKind.u32 (bits BinOp.xor IntKind.u32 u i) j)) none)))
def jf {ρ : Type} := shut (uh (ρ := ρ))
theorem zx {ρ : Type} (f : Int) (e : Int) (a : List Int) (b : List Int) (c : List Int) (d : List Int) (g : Int) (h : Int) (k : Int → Option ρ) : jf f e a b c d g h k = uh f e a b c d g h k := by unfold jf; rw [bn]

def u7 {ρ : Type} (f e : Int) (a b c d : List Int) (g h : Int) (k : Int → Option ρ) : Option ρ := br (decide (h = (↑0 : Int))) (bg f e a b c d g (a.getD 0 (0 : Int)) fun i => bg f e a b c d g (a.getD 1 (0 : Int)) fun j => br (decide (a.getD 2 (0 : Int) < (0 : Int))) none (k (bits BinOp.xor IntKind.u32 (bits BinOp.xor IntKind.u32 i j) (g.fdiv ((2 : Int) ^ min (a.getD 2 (0 : Int)).toNat 32))))) (br (decide (h = (↑1 : Int))) (bg f e a b c d g (b.getD 0 (0 : Int)) fun l => bg f e a b c d g (b.getD 1 (0 : Int)) fun m => br (decide (b.getD 2 (0 : Int) < (0 : Int))) none (k (bits BinOp.xor IntKind.u32 (bits BinOp.xor IntKind.u32 l m) (g.fdiv ((2 : Int) ^ min (b.getD 2 (0 : Int)).toNat 32))))) (br (decide (h = (↑2 : Int))) (bg f e a b c d g (c.getD 0 (0 : Int)) fun n => bg f e a b c d g (c.getD 1 (0 : Int)) fun o => br (decide (c.getD 2 (0 : Int) < (0 : Int))) none (k (bits BinOp.xor IntKind.u32 (bits BinOp.xor IntKind.u32 n o) (g.fdiv ((2 : Int) ^ min (c.getD 2 (0 : Int)).toNat 32))))) (br (decide (h = (↑3 : Int))) (bg f e a b c d g (d.getD 0 (0 : Int)) fun p => bg f e a b c d g (d.getD 1 (0 : Int)) fun q => br (decide (d.getD 2 (0 : Int) < (0 : Int))) none (k (bits BinOp.xor IntKind.u32 (bits BinOp.xor IntKind.u32 p q) (g.fdiv ((2 : Int) ^ min (d.getD 2 (0 : Int)).toNat 32))))) none)))
def jo {ρ : Type} := shut (u7 (ρ := ρ))
theorem aak {ρ : Type} (f : Int) (e : Int) (a : List Int) (b : List Int) (c : List Int) (d : List Int) (g : Int) (h : Int) (k : Int → Option ρ) : jo f e a b c d g h k = u7 f e a b c d g h k := by unfold jo; rw [bn]

abbrev byp (ρ : Type) := (List Int) → Int → Int → Int → Int → (List Int) → (List Int) → (List Int) → (List Int) → (List Int) → (List Int) → (List Int) → Option ρ
def zo {ρ : Type} (l : List Int) (b a c d : Int) (e f g h i j k : List Int) (nx m : byp ρ) : Option ρ := br (decide (a < 16)) (br (decide (0 ≤ IntKind.i64.wrap (a * b))) (br (decide (IntKind.i64.wrap (a * b) ≤ IntKind.i64.wrap (IntKind.i64.wrap (a + 1) * b))) (br (decide (IntKind.i64.wrap (IntKind.i64.wrap (a + 1) * b) ≤ (↑l.length : Int))) (u6 (List.drop (IntKind.i64.wrap (a * b)).toNat (List.take (IntKind.i64.wrap (IntKind.i64.wrap (a + 1) * b)).toNat l)) fun n => br (decide (0 ≤ a)) (br (decide (a < (↑16 : Int))) (nx l b (IntKind.i64.wrap (a + 1)) c d e f g h i j (k.set a.toNat (IntKind.u32.wrap n))) none) none) none) none) none) (m l b a c d e f g h i j k)
abbrev bsk := (List Int) × Int × Int × Int × Int × (List Int) × (List Int) × (List Int) × (List Int) × (List Int) × (List Int) × (List Int)
abbrev bz0 := bsk
def b42 {ρ : Type} (f : bsk → Option ρ) : byp ρ := fun l m k a b c d e g h i j => f (l, m, k, a, b, c, d, e, g, h, i, j)
def br1 {ρ : Type} : adp bsk bz0 ρ := fun (k, l, j, a, b, c, d, e, f, g, h, i) next ex => zo k l j a b c d e f g h i (b42 next) (b42 ex)
def byu {ρ : Type} := shut (lp (br1 (ρ := ρ)))
theorem b68 {ρ : Type} : byu (ρ := ρ) = lp br1 := bn _
def byc {ρ : Type} (f : adr bsk bz0 ρ) (l : List Int) (m k a b : Int) (c d e g h i j : List Int) (n : byp ρ) : Option ρ := f (l, m, k, a, b, c, d, e, g, h, i, j) (fun (l, m, k, a, b, c, d, e, g, h, i, j) => n l m k a b c d e g h i j)
def acw {ρ : Type} := byc (lp (br1 (ρ := ρ)))
def zl {ρ : Type} := byc (byu (ρ := ρ))
theorem af7 {ρ : Type} : zl (ρ := ρ) = acw := congrArg byc b68
abbrev b2v (ρ : Type) := Int → Int → (List Int) → (List Int) → (List Int) → Int → Int → (List Int) → (List Int) → (List Int) → (List Int) → (List Int) → Option ρ
def zh {ρ : Type} (j b : Int) (c k l : List Int) (d e : Int) (f g h i a : List Int) (nx o : b2v ρ) : Option ρ := br (decide (b < j)) (br (decide (0 ≤ b.tmod 16)) (br (decide (b.tmod 16 < (↑16 : Int))) (jf d e f g h i (a.getD 4 0) 3 fun m => ny b fun n => jf d e f g h i (a.getD 0 0) 2 fun p => br (decide (0 ≤ (IntKind.i64.wrap (b + 1)).tmod 16)) (br (decide ((IntKind.i64.wrap (b + 1)).tmod 16 < (↑16 : Int))) (jo d e f g h i (c.getD ((IntKind.i64.wrap (b + 1)).tmod 16).toNat 0) 0 fun q => br (decide (0 ≤ (IntKind.i64.wrap (b + 9)).tmod 16)) (br (decide ((IntKind.i64.wrap (b + 9)).tmod 16 < (↑16 : Int))) (br (decide (0 ≤ (IntKind.i64.wrap (b + 14)).tmod 16)) (br (decide ((IntKind.i64.wrap (b + 14)).tmod 16 < (↑16 : Int))) (jo d e f g h i (c.getD ((IntKind.i64.wrap (b + 14)).tmod 16).toNat 0) 1 fun r => br (decide (0 ≤ b.tmod 16)) (br (decide (b.tmod 16 < (↑16 : Int))) (nx j (IntKind.i64.wrap (b + 1)) (c.set (b.tmod 16).toNat (IntKind.u32.wrap (IntKind.u32.wrap (IntKind.u32.wrap (c.getD (b.tmod 16).toNat 0 + q) + c.getD ((IntKind.i64.wrap (b + 9)).tmod 16).toNat 0) + r))) k l d e f g h i ((((List.take 1 a).append (List.take 7 (List.take 7 (List.drop 0 a)) ++ List.drop (1 + min 7 (List.take 7 (List.drop 0 a)).length) a)).set 4 (IntKind.u32.wrap (((List.take 1 a).append (List.take 7 (List.take 7 (List.drop 0 a)) ++ List.drop (1 + min 7 (List.take 7 (List.drop 0 a)).length) a)).getD 4 0 + IntKind.u32.wrap (IntKind.u32.wrap (IntKind.u32.wrap (IntKind.u32.wrap (a.getD 7 0 + m) + bits BinOp.xor IntKind.u32 (a.getD 6 0) (bits BinOp.and IntKind.u32 (a.getD 4 0) (bits BinOp.xor IntKind.u32 (a.getD 5 0) (a.getD 6 0)))) + n) + c.getD (b.tmod 16).toNat 0)))).set 0 (IntKind.u32.wrap (IntKind.u32.wrap (IntKind.u32.wrap (IntKind.u32.wrap (IntKind.u32.wrap (a.getD 7 0 + m) + bits BinOp.xor IntKind.u32 (a.getD 6 0) (bits BinOp.and IntKind.u32 (a.getD 4 0) (bits BinOp.xor IntKind.u32 (a.getD 5 0) (a.getD 6 0)))) + n) + c.getD (b.tmod 16).toNat 0) + IntKind.u32.wrap (p + bits BinOp.or IntKind.u32 (bits BinOp.and IntKind.u32 (a.getD 0 0) (a.getD 1 0)) (bits BinOp.and IntKind.u32 (a.getD 2 0) (bits BinOp.or IntKind.u32 (a.getD 0 0) (a.getD 1 0)))))))) none) none) none) none) none) none) none) none) none) none) (o j b c k l d e f g h i a)
abbrev bsp := Int × Int × (List Int) × (List Int) × (List Int) × Int × Int × (List Int) × (List Int) × (List Int) × (List Int) × (List Int)
abbrev b4y := bsp
def b2h {ρ : Type} (f : bsp → Option ρ) : b2v ρ := fun l m a b c d e g h i j k => f (l, m, a, b, c, d, e, g, h, i, j, k)
def bu3 {ρ : Type} : adp bsp b4y ρ := fun (k, l, a, b, c, d, e, f, g, h, i, j) next ex => zh k l a b c d e f g h i j (b2h next) (b2h ex)
def b45 {ρ : Type} := shut (lp (bu3 (ρ := ρ)))
theorem b6z {ρ : Type} : b45 (ρ := ρ) = lp bu3 := bn _
def bx3 {ρ : Type} (f : adr bsp b4y ρ) (l m : Int) (a b c : List Int) (d e : Int) (g h i j k : List Int) (n : b2v ρ) : Option ρ := f (l, m, a, b, c, d, e, g, h, i, j, k) (fun (l, m, a, b, c, d, e, g, h, i, j, k) => n l m a b c d e g h i j k)
def abx {ρ : Type} := bx3 (lp (bu3 (ρ := ρ)))
def qz {ρ : Type} := bx3 (b45 (ρ := ρ))
theorem afp {ρ : Type} : qz (ρ := ρ) = abx := congrArg bx3 b6z
abbrev b2e (ρ : Type) := Int → (List Int) → (List Int) → (List Int) → Option ρ
def y7 {ρ : Type} (a : Int) (b d c : List Int) (nx e : b2e ρ) : Option ρ := br (decide (a < 8)) (br (decide (0 ≤ a)) (br (decide (a < (↑8 : Int))) (br (decide (0 ≤ a)) (br (decide (a < (↑8 : Int))) (br (decide (0 ≤ a)) (br (decide (a < (↑8 : Int))) (nx (IntKind.i64.wrap (a + 1)) b d (c.set a.toNat (IntKind.u32.wrap (c.getD a.toNat 0 + b.getD a.toNat 0)))) none) none) none) none) none) none) (e a b d c)
abbrev bu6 := Int × (List Int) × (List Int) × (List Int)
abbrev b3z := bu6
def by1 {ρ : Type} (f : bu6 → Option ρ) : b2e ρ := fun a b c d => f (a, b, c, d)
def bv8 {ρ : Type} : adp bu6 b3z ρ := fun (a, b, c, d) next ex => y7 a b c d (by1 next) (by1 ex)
def b4e {ρ : Type} := shut (lp (bv8 (ρ := ρ)))
theorem b7g {ρ : Type} : b4e (ρ := ρ) = lp bv8 := bn _
def bxn {ρ : Type} (f : adr bu6 b3z ρ) (a : Int) (b c d : List Int) (e : b2e ρ) : Option ρ := f (a, b, c, d) (fun (a, b, c, d) => e a b c d)
def abr {ρ : Type} := bxn (lp (bv8 (ρ := ρ)))
def qx {ρ : Type} := bxn (b4e (ρ := ρ))
theorem afr {ρ : Type} : qx (ρ := ρ) = abr := congrArg bxn b7g
def yu {ρ : Type} (a f : Int) (b c d e p q : List Int) (k : (List Int) → Option ρ) : Option ρ := zl q (IntKind.i64.wrap (a.tdiv 8)) 0 a f b c d e p [0, 0, 0, 0, 0, 0, 0, 0] [0, 0, 0, 0, 0, 0, 0, 0, 0, 0, 0, 0, 0, 0, 0, 0] fun N O Q r g s t u v h i j => qz g 0 j i h r g s t u v h fun w y z l m A B C F G H n => qx 0 m l n fun I J M o => k o
def ku {ρ : Type} := shut (yu (ρ := ρ))
theorem ac0 {ρ : Type} (f : Int) (e : Int) (a : List Int) (b : List Int) (c : List Int) (d : List Int) (g : List Int) (h : List Int) (k : (List Int) → Option ρ) : ku f e a b c d g h k = yu f e a b c d g h k := by unfold ku; rw [bn]

abbrev b2p (ρ : Type) := (List Int) → (List Int) → Int → Int → Int → (List Int) → (List Int) → (List Int) → (List Int) → (List Int) → (List Int) → (List Int) → Option ρ
def ace {ρ : Type} (l b : List Int) (a c d : Int) (e f g h i j k : List Int) (nx m : b2p ρ) : Option ρ := br (decide (a < 8)) (br (decide (0 ≤ a)) (br (decide (a < (↑8 : Int))) (br (decide (0 ≤ a)) (br (decide (a < (↑8 : Int))) (nx l b (IntKind.i64.wrap (a + 1)) c d e f g h i j (k.set a.toNat (IntKind.u32.wrap (b.getD a.toNat 0)))) none) none) none) none) (m l b a c d e f g h i j k)
abbrev btq := (List Int) × (List Int) × Int × Int × Int × (List Int) × (List Int) × (List Int) × (List Int) × (List Int) × (List Int) × (List Int)
abbrev b38 := btq
def b30 {ρ : Type} (f : btq → Option ρ) : b2p ρ := fun m k l a b c d e g h i j => f (m, k, l, a, b, c, d, e, g, h, i, j)
def bw1 {ρ : Type} : adp btq b38 ρ := fun (l, j, k, a, b, c, d, e, f, g, h, i) next ex => ace l j k a b c d e f g h i (b30 next) (b30 ex)
def b2n {ρ : Type} := shut (lp (bw1 (ρ := ρ)))
theorem b7l {ρ : Type} : b2n (ρ := ρ) = lp bw1 := bn _
def byj {ρ : Type} (f : adr btq b38 ρ) (m k : List Int) (l a b : Int) (c d e g h i j : List Int) (n : b2p ρ) : Option ρ := f (m, k, l, a, b, c, d, e, g, h, i, j) (fun (m, k, l, a, b, c, d, e, g, h, i, j) => n m k l a b c d e g h i j)
def afx {ρ : Type} := byj (lp (bw1 (ρ := ρ)))
def ab3 {ρ : Type} := byj (b2n (ρ := ρ))
theorem ajo {ρ : Type} : ab3 (ρ := ρ) = afx := congrArg byj b7l
abbrev bz8 (ρ : Type) := (List Int) → Int → (List Int) → (List Int) → (List Int) → Int → Int → (List Int) → (List Int) → (List Int) → (List Int) → Option ρ
def acf {ρ : Type} (b : List Int) (a : Int) (i j k : List Int) (c d : Int) (e f g h : List Int) (nx l : bz8 ρ) : Option ρ := br (decide ((↑b.length : Int) ≥ a)) (br (decide (0 ≤ a)) (br (decide (a ≤ (↑b.length : Int))) (ku c d e f g h i (List.drop 0 (List.take a.toNat b)) fun m => br (decide (0 ≤ a)) (br (decide (a ≤ (↑b.length : Int))) (br (decide ((↑b.length : Int) ≤ (↑b.length : Int))) (nx (List.drop a.toNat (List.take (↑b.length : Int).toNat b)) a m j k c d e f g h) none) none) none) none) none) (l b a i j k c d e f g h)
abbrev bs5 := (List Int) × Int × (List Int) × (List Int) × (List Int) × Int × Int × (List Int) × (List Int) × (List Int) × (List Int)
abbrev b0e := bs5
def b39 {ρ : Type} (f : bs5 → Option ρ) : bz8 ρ := fun l k a b c d e g h i j => f (l, k, a, b, c, d, e, g, h, i, j)
def bsn {ρ : Type} : adp bs5 b0e ρ := fun (k, j, a, b, c, d, e, f, g, h, i) next ex => acf k j a b c d e f g h i (b39 next) (b39 ex)
def bzu {ρ : Type} := shut (lp (bsn (ρ := ρ)))
theorem b6y {ρ : Type} : bzu (ρ := ρ) = lp bsn := bn _
def byg {ρ : Type} (f : adr bs5 b0e ρ) (l : List Int) (k : Int) (a b c : List Int) (d e : Int) (g h i j : List Int) (m : bz8 ρ) : Option ρ := f (l, k, a, b, c, d, e, g, h, i, j) (fun (l, k, a, b, c, d, e, g, h, i, j) => m l k a b c d e g h i j)
def afk {ρ : Type} := byg (lp (bsn (ρ := ρ)))
def abm {ρ : Type} := byg (bzu (ρ := ρ))
theorem ajj {ρ : Type} : abm (ρ := ρ) = afk := congrArg byg b6y
abbrev b0p (ρ : Type) := (List Int) → (List Int) → Int → (List Int) → (List Int) → Option ρ
def abh {ρ : Type} (e b : List Int) (a : Int) (c d : List Int) (nx f : b0p ρ) : Option ρ := br (decide (a < 8)) (br (decide (0 ≤ a)) (br (decide (a < (↑8 : Int))) (br (decide (0 ≤ a)) (br (decide (a < (↑8 : Int))) (nx e b (IntKind.i64.wrap (a + 1)) (c.set a.toNat (IntKind.u64.wrap (b.getD a.toNat 0))) d) none) none) none) none) (f e b a c d)
abbrev bwu := (List Int) × (List Int) × Int × (List Int) × (List Int)
abbrev b0o := bwu
def bzn {ρ : Type} (f : bwu → Option ρ) : b0p ρ := fun e c d a b => f (e, c, d, a, b)
def bu2 {ρ : Type} : adp bwu b0o ρ := fun (e, c, d, a, b) next ex => abh e c d a b (bzn next) (bzn ex)
def b4i {ρ : Type} := shut (lp (bu2 (ρ := ρ)))
theorem b67 {ρ : Type} : b4i (ρ := ρ) = lp bu2 := bn _
def bx9 {ρ : Type} (f : adr bwu b0o ρ) (e c : List Int) (d : Int) (a b : List Int) (g : b0p ρ) : Option ρ := f (e, c, d, a, b) (fun (e, c, d, a, b) => g e c d a b)
def aep {ρ : Type} := bx9 (lp (bu2 (ρ := ρ)))
def abe {ρ : Type} := bx9 (b4i (ρ := ρ))
theorem ai5 {ρ : Type} : abe (ρ := ρ) = aep := congrArg bx9 b67
def aa9 {ρ : Type} (f e : Int) (a b c d g r : List Int) (k : (List Int) → (List Int) → Option ρ) : Option ρ := ab3 r g 0 f e a b c d g [0, 0, 0, 0, 0, 0, 0, 0] [0, 0, 0, 0, 0, 0, 0, 0] fun s O Q h t u v w y z i j => abm s (IntKind.i64.wrap (h * 2)) j i z h t u v w y fun l A m n o B C F G H I => abe l m 0 o n fun p J M q N => k q p
def ow {ρ : Type} := shut (aa9 (ρ := ρ))
theorem afw {ρ : Type} (f : Int) (e : Int) (a : List Int) (b : List Int) (c : List Int) (d : List Int) (g : List Int) (h : List Int) (k : (List Int) → (List Int) → Option ρ) : ow f e a b c d g h k = aa9 f e a b c d g h k := by unfold ow; rw [bn]

def aqd {ρ : Type} (k : Int → Int → (List Int) → (List Int) → (List Int) → (List Int) → Option ρ) : Option ρ := k 32 64 [7, 18, 3] [17, 19, 10] [2, 13, 22] [6, 11, 25]
def ab7 {ρ : Type} := shut (aqd (ρ := ρ))
theorem asv {ρ : Type}  (k : Int → Int → (List Int) → (List Int) → (List Int) → (List Int) → Option ρ) : ab7  k = aqd  k := by unfold ab7; rw [bn]

def ahs {ρ : Type} (a : Int) (k : Int → Option ρ) : Option ρ := br (decide (0 ≤ a)) (br (decide (a < (↑80 : Int))) (k (roots512.getD a.toNat 0)) none) none
def nk {ρ : Type} := shut (ahs (ρ := ρ))
theorem an3 {ρ : Type} (a : Int) (k : Int → Option ρ) : nk a k = ahs a k := by unfold nk; rw [bn]

def wm {ρ : Type} (a g : Int) (b c d e : List Int) (h f : Int) (k : Int → Option ρ) : Option ρ := br (decide (f < 0)) none (br (decide (IntKind.i64.wrap (a - f) < 0)) none (k (bits BinOp.or IntKind.u64 (h.fdiv (2 ^ min f.toNat 64)) (IntKind.u64.wrap (h * 2 ^ min (IntKind.i64.wrap (a - f)).toNat 64)))))
def bf {ρ : Type} := shut (wm (ρ := ρ))
theorem abk {ρ : Type} (f : Int) (e : Int) (a : List Int) (b : List Int) (c : List Int) (d : List Int) (g : Int) (h : Int) (k : Int → Option ρ) : bf f e a b c d g h k = wm f e a b c d g h k := by unfold bf; rw [bn]

def um {ρ : Type} (f e : Int) (a b c d : List Int) (g h : Int) (k : Int → Option ρ) : Option ρ := br (decide (h = (↑0 : Int))) (bf f e a b c d g (a.getD 0 0) fun l => bf f e a b c d g (a.getD 1 0) fun m => bf f e a b c d g (a.getD 2 0) fun n => k (bits BinOp.xor IntKind.u64 (bits BinOp.xor IntKind.u64 l m) n)) (br (decide (h = (↑1 : Int))) (bf f e a b c d g (b.getD 0 0) fun o => bf f e a b c d g (b.getD 1 0) fun p => bf f e a b c d g (b.getD 2 0) fun q => k (bits BinOp.xor IntKind.u64 (bits BinOp.xor IntKind.u64 o p) q)) (br (decide (h = (↑2 : Int))) (bf f e a b c d g (c.getD 0 0) fun r => bf f e a b c d g (c.getD 1 0) fun s => bf f e a b c d g (c.getD 2 0) fun t => k (bits BinOp.xor IntKind.u64 (bits BinOp.xor IntKind.u64 r s) t)) (br (decide (h = (↑3 : Int))) (bf f e a b c d g (d.getD 0 0) fun u => bf f e a b c d g (d.getD 1 0) fun i => bf f e a b c d g (d.getD 2 0) fun j => k (bits BinOp.xor IntKind.u64 (bits BinOp.xor IntKind.u64 u i) j)) none)))
def jg {ρ : Type} := shut (um (ρ := ρ))
theorem zy {ρ : Type} (f : Int) (e : Int) (a : List Int) (b : List Int) (c : List Int) (d : List Int) (g : Int) (h : Int) (k : Int → Option ρ) : jg f e a b c d g h k = um f e a b c d g h k := by unfold jg; rw [bn]

def vg {ρ : Type} (f e : Int) (a b c d : List Int) (g h : Int) (k : Int → Option ρ) : Option ρ := br (decide (h = (↑0 : Int))) (bf f e a b c d g (a.getD 0 (0 : Int)) fun i => bf f e a b c d g (a.getD 1 (0 : Int)) fun j => br (decide (a.getD 2 (0 : Int) < (0 : Int))) none (k (bits BinOp.xor IntKind.u64 (bits BinOp.xor IntKind.u64 i j) (g.fdiv ((2 : Int) ^ min (a.getD 2 (0 : Int)).toNat 64))))) (br (decide (h = (↑1 : Int))) (bf f e a b c d g (b.getD 0 (0 : Int)) fun l => bf f e a b c d g (b.getD 1 (0 : Int)) fun m => br (decide (b.getD 2 (0 : Int) < (0 : Int))) none (k (bits BinOp.xor IntKind.u64 (bits BinOp.xor IntKind.u64 l m) (g.fdiv ((2 : Int) ^ min (b.getD 2 (0 : Int)).toNat 64))))) (br (decide (h = (↑2 : Int))) (bf f e a b c d g (c.getD 0 (0 : Int)) fun n => bf f e a b c d g (c.getD 1 (0 : Int)) fun o => br (decide (c.getD 2 (0 : Int) < (0 : Int))) none (k (bits BinOp.xor IntKind.u64 (bits BinOp.xor IntKind.u64 n o) (g.fdiv ((2 : Int) ^ min (c.getD 2 (0 : Int)).toNat 64))))) (br (decide (h = (↑3 : Int))) (bf f e a b c d g (d.getD 0 (0 : Int)) fun p => bf f e a b c d g (d.getD 1 (0 : Int)) fun q => br (decide (d.getD 2 (0 : Int) < (0 : Int))) none (k (bits BinOp.xor IntKind.u64 (bits BinOp.xor IntKind.u64 p q) (g.fdiv ((2 : Int) ^ min (d.getD 2 (0 : Int)).toNat 64))))) none)))
def jr {ρ : Type} := shut (vg (ρ := ρ))
theorem aal {ρ : Type} (f : Int) (e : Int) (a : List Int) (b : List Int) (c : List Int) (d : List Int) (g : Int) (h : Int) (k : Int → Option ρ) : jr f e a b c d g h k = vg f e a b c d g h k := by unfold jr; rw [bn]

abbrev b4q (ρ : Type) := (List Int) → Int → Int → Int → Int → (List Int) → (List Int) → (List Int) → (List Int) → (List Int) → (List Int) → (List Int) → Option ρ
def zq {ρ : Type} (l : List Int) (b a c d : Int) (e f g h i j k : List Int) (nx m : b4q ρ) : Option ρ := br (decide (a < 16)) (br (decide (0 ≤ IntKind.i64.wrap (a * b))) (br (decide (IntKind.i64.wrap (a * b) ≤ IntKind.i64.wrap (IntKind.i64.wrap (a + 1) * b))) (br (decide (IntKind.i64.wrap (IntKind.i64.wrap (a + 1) * b) ≤ (↑l.length : Int))) (u6 (List.drop (IntKind.i64.wrap (a * b)).toNat (List.take (IntKind.i64.wrap (IntKind.i64.wrap (a + 1) * b)).toNat l)) fun n => br (decide (0 ≤ a)) (br (decide (a < (↑16 : Int))) (nx l b (IntKind.i64.wrap (a + 1)) c d e f g h i j (k.set a.toNat n)) none) none) none) none) none) (m l b a c d e f g h i j k)
abbrev bwb := (List Int) × Int × Int × Int × Int × (List Int) × (List Int) × (List Int) × (List Int) × (List Int) × (List Int) × (List Int)
abbrev b0n := bwb
def by4 {ρ : Type} (f : bwb → Option ρ) : b4q ρ := fun l m k a b c d e g h i j => f (l, m, k, a, b, c, d, e, g, h, i, j)
def bv5 {ρ : Type} : adp bwb b0n ρ := fun (k, l, j, a, b, c, d, e, f, g, h, i) next ex => zq k l j a b c d e f g h i (by4 next) (by4 ex)
def b0d {ρ : Type} := shut (lp (bv5 (ρ := ρ)))
theorem b6f {ρ : Type} : b0d (ρ := ρ) = lp bv5 := bn _
def bxq {ρ : Type} (f : adr bwb b0n ρ) (l : List Int) (m k a b : Int) (c d e g h i j : List Int) (n : b4q ρ) : Option ρ := f (l, m, k, a, b, c, d, e, g, h, i, j) (fun (l, m, k, a, b, c, d, e, g, h, i, j) => n l m k a b c d e g h i j)
def acz {ρ : Type} := bxq (lp (bv5 (ρ := ρ)))
def zk {ρ : Type} := bxq (b0d (ρ := ρ))
theorem aga {ρ : Type} : zk (ρ := ρ) = acz := congrArg bxq b6f
abbrev b1a (ρ : Type) := Int → Int → (List Int) → (List Int) → (List Int) → Int → Int → (List Int) → (List Int) → (List Int) → (List Int) → (List Int) → Option ρ
def y8 {ρ : Type} (j b : Int) (c k l : List Int) (d e : Int) (f g h i a : List Int) (nx o : b1a ρ) : Option ρ := br (decide (b < j)) (br (decide (0 ≤ b.tmod 16)) (br (decide (b.tmod 16 < (↑16 : Int))) (jg d e f g h i (a.getD 4 0) 3 fun m => nk b fun n => jg d e f g h i (a.getD 0 0) 2 fun p => br (decide (0 ≤ (IntKind.i64.wrap (b + 1)).tmod 16)) (br (decide ((IntKind.i64.wrap (b + 1)).tmod 16 < (↑16 : Int))) (jr d e f g h i (c.getD ((IntKind.i64.wrap (b + 1)).tmod 16).toNat 0) 0 fun q => br (decide (0 ≤ (IntKind.i64.wrap (b + 9)).tmod 16)) (br (decide ((IntKind.i64.wrap (b + 9)).tmod 16 < (↑16 : Int))) (br (decide (0 ≤ (IntKind.i64.wrap (b + 14)).tmod 16)) (br (decide ((IntKind.i64.wrap (b + 14)).tmod 16 < (↑16 : Int))) (jr d e f g h i (c.getD ((IntKind.i64.wrap (b + 14)).tmod 16).toNat 0) 1 fun r => br (decide (0 ≤ b.tmod 16)) (br (decide (b.tmod 16 < (↑16 : Int))) (nx j (IntKind.i64.wrap (b + 1)) (c.set (b.tmod 16).toNat (IntKind.u64.wrap (IntKind.u64.wrap (IntKind.u64.wrap (c.getD (b.tmod 16).toNat 0 + q) + c.getD ((IntKind.i64.wrap (b + 9)).tmod 16).toNat 0) + r))) k l d e f g h i ((((List.take 1 a).append (List.take 7 (List.take 7 (List.drop 0 a)) ++ List.drop (1 + min 7 (List.take 7 (List.drop 0 a)).length) a)).set 4 (IntKind.u64.wrap (((List.take 1 a).append (List.take 7 (List.take 7 (List.drop 0 a)) ++ List.drop (1 + min 7 (List.take 7 (List.drop 0 a)).length) a)).getD 4 0 + IntKind.u64.wrap (IntKind.u64.wrap (IntKind.u64.wrap (IntKind.u64.wrap (a.getD 7 0 + m) + bits BinOp.xor IntKind.u64 (a.getD 6 0) (bits BinOp.and IntKind.u64 (a.getD 4 0) (bits BinOp.xor IntKind.u64 (a.getD 5 0) (a.getD 6 0)))) + n) + c.getD (b.tmod 16).toNat 0)))).set 0 (IntKind.u64.wrap (IntKind.u64.wrap (IntKind.u64.wrap (IntKind.u64.wrap (IntKind.u64.wrap (a.getD 7 0 + m) + bits BinOp.xor IntKind.u64 (a.getD 6 0) (bits BinOp.and IntKind.u64 (a.getD 4 0) (bits BinOp.xor IntKind.u64 (a.getD 5 0) (a.getD 6 0)))) + n) + c.getD (b.tmod 16).toNat 0) + IntKind.u64.wrap (p + bits BinOp.or IntKind.u64 (bits BinOp.and IntKind.u64 (a.getD 0 0) (a.getD 1 0)) (bits BinOp.and IntKind.u64 (a.getD 2 0) (bits BinOp.or IntKind.u64 (a.getD 0 0) (a.getD 1 0)))))))) none) none) none) none) none) none) none) none) none) none) (o j b c k l d e f g h i a)
abbrev bvb := Int × Int × (List Int) × (List Int) × (List Int) × Int × Int × (List Int) × (List Int) × (List Int) × (List Int) × (List Int)
abbrev b3x := bvb
def bz3 {ρ : Type} (f : bvb → Option ρ) : b1a ρ := fun l m a b c d e g h i j k => f (l, m, a, b, c, d, e, g, h, i, j, k)
def bsc {ρ : Type} : adp bvb b3x ρ := fun (k, l, a, b, c, d, e, f, g, h, i, j) next ex => y8 k l a b c d e f g h i j (bz3 next) (bz3 ex)
def b3y {ρ : Type} := shut (lp (bsc (ρ := ρ)))
theorem b6l {ρ : Type} : b3y (ρ := ρ) = lp bsc := bn _
def bxx {ρ : Type} (f : adr bvb b3x ρ) (l m : Int) (a b c : List Int) (d e : Int) (g h i j k : List Int) (n : b1a ρ) : Option ρ := f (l, m, a, b, c, d, e, g, h, i, j, k) (fun (l, m, a, b, c, d, e, g, h, i, j, k) => n l m a b c d e g h i j k)
def abp {ρ : Type} := bxx (lp (bsc (ρ := ρ)))
def rz {ρ : Type} := bxx (b3y (ρ := ρ))
theorem afq {ρ : Type} : rz (ρ := ρ) = abp := congrArg bxx b6l
abbrev b33 (ρ : Type) := Int → (List Int) → (List Int) → (List Int) → Option ρ
def y5 {ρ : Type} (a : Int) (b d c : List Int) (nx e : b33 ρ) : Option ρ := br (decide (a < 8)) (br (decide (0 ≤ a)) (br (decide (a < (↑8 : Int))) (br (decide (0 ≤ a)) (br (decide (a < (↑8 : Int))) (br (decide (0 ≤ a)) (br (decide (a < (↑8 : Int))) (nx (IntKind.i64.wrap (a + 1)) b d (c.set a.toNat (IntKind.u64.wrap (c.getD a.toNat 0 + b.getD a.toNat 0)))) none) none) none) none) none) none) (e a b d c)
abbrev bt7 := Int × (List Int) × (List Int) × (List Int)
abbrev b1b := bt7
def b4x {ρ : Type} (f : bt7 → Option ρ) : b33 ρ := fun a b c d => f (a, b, c, d)
def br5 {ρ : Type} : adp bt7 b1b ρ := fun (a, b, c, d) next ex => y5 a b c d (b4x next) (b4x ex)
def bzj {ρ : Type} := shut (lp (br5 (ρ := ρ)))
theorem b6d {ρ : Type} : bzj (ρ := ρ) = lp br5 := bn _
def bxi {ρ : Type} (f : adr bt7 b1b ρ) (a : Int) (b c d : List Int) (e : b33 ρ) : Option ρ := f (a, b, c, d) (fun (a, b, c, d) => e a b c d)
def ab8 {ρ : Type} := bxi (lp (br5 (ρ := ρ)))
def ru {ρ : Type} := bxi (bzj (ρ := ρ))
theorem aft {ρ : Type} : ru (ρ := ρ) = ab8 := congrArg bxi b6d
def yt {ρ : Type} (a f : Int) (b c d e p q : List Int) (k : (List Int) → Option ρ) : Option ρ := zk q (IntKind.i64.wrap (a.tdiv 8)) 0 a f b c d e p [0, 0, 0, 0, 0, 0, 0, 0] [0, 0, 0, 0, 0, 0, 0, 0, 0, 0, 0, 0, 0, 0, 0, 0] fun N O Q r g s t u v h i j => rz g 0 j i h r g s t u v h fun w y z l m A B C F G H n => ru 0 m l n fun I J M o => k o
def kr {ρ : Type} := shut (yt (ρ := ρ))
theorem acy {ρ : Type} (f : Int) (e : Int) (a : List Int) (b : List Int) (c : List Int) (d : List Int) (g : List Int) (h : List Int) (k : (List Int) → Option ρ) : kr f e a b c d g h k = yt f e a b c d g h k := by unfold kr; rw [bn]

abbrev byx (ρ : Type) := (List Int) → (List Int) → Int → Int → Int → (List Int) → (List Int) → (List Int) → (List Int) → (List Int) → (List Int) → (List Int) → Option ρ
def abz {ρ : Type} (l b : List Int) (a c d : Int) (e f g h i j k : List Int) (nx m : byx ρ) : Option ρ := br (decide (a < 8)) (br (decide (0 ≤ a)) (br (decide (a < (↑8 : Int))) (br (decide (0 ≤ a)) (br (decide (a < (↑8 : Int))) (nx l b (IntKind.i64.wrap (a + 1)) c d e f g h i j (k.set a.toNat (b.getD a.toNat 0))) none) none) none) none) (m l b a c d e f g h i j k)
abbrev bv4 := (List Int) × (List Int) × Int × Int × Int × (List Int) × (List Int) × (List Int) × (List Int) × (List Int) × (List Int) × (List Int)
abbrev b2b := bv4
def bzf {ρ : Type} (f : bv4 → Option ρ) : byx ρ := fun m k l a b c d e g h i j => f (m, k, l, a, b, c, d, e, g, h, i, j)
def buo {ρ : Type} : adp bv4 b2b ρ := fun (l, j, k, a, b, c, d, e, f, g, h, i) next ex => abz l j k a b c d e f g h i (bzf next) (bzf ex)
def bzo {ρ : Type} := shut (lp (buo (ρ := ρ)))
theorem b6o {ρ : Type} : bzo (ρ := ρ) = lp buo := bn _
def byk {ρ : Type} (f : adr bv4 b2b ρ) (m k : List Int) (l a b : Int) (c d e g h i j : List Int) (n : byx ρ) : Option ρ := f (m, k, l, a, b, c, d, e, g, h, i, j) (fun (m, k, l, a, b, c, d, e, g, h, i, j) => n m k l a b c d e g h i j)
def af2 {ρ : Type} := byk (lp (buo (ρ := ρ)))
def abt {ρ : Type} := byk (bzo (ρ := ρ))
theorem ajv {ρ : Type} : abt (ρ := ρ) = af2 := congrArg byk b6o
abbrev b5b (ρ : Type) := (List Int) → Int → (List Int) → (List Int) → (List Int) → Int → Int → (List Int) → (List Int) → (List Int) → (List Int) → Option ρ
def ab1 {ρ : Type} (b : List Int) (a : Int) (i j k : List Int) (c d : Int) (e f g h : List Int) (nx l : b5b ρ) : Option ρ := br (decide ((↑b.length : Int) ≥ a)) (br (decide (0 ≤ a)) (br (decide (a ≤ (↑b.length : Int))) (kr c d e f g h i (List.drop 0 (List.take a.toNat b)) fun m => br (decide (0 ≤ a)) (br (decide (a ≤ (↑b.length : Int))) (br (decide ((↑b.length : Int) ≤ (↑b.length : Int))) (nx (List.drop a.toNat (List.take (↑b.length : Int).toNat b)) a m j k c d e f g h) none) none) none) none) none) (l b a i j k c d e f g h)
abbrev bw2 := (List Int) × Int × (List Int) × (List Int) × (List Int) × Int × Int × (List Int) × (List Int) × (List Int) × (List Int)
abbrev b2k := bw2
def bza {ρ : Type} (f : bw2 → Option ρ) : b5b ρ := fun l k a b c d e g h i j => f (l, k, a, b, c, d, e, g, h, i, j)
def bsv {ρ : Type} : adp bw2 b2k ρ := fun (k, j, a, b, c, d, e, f, g, h, i) next ex => ab1 k j a b c d e f g h i (bza next) (bza ex)
def b41 {ρ : Type} := shut (lp (bsv (ρ := ρ)))
theorem b7o {ρ : Type} : b41 (ρ := ρ) = lp bsv := bn _
def bxj {ρ : Type} (f : adr bw2 b2k ρ) (l : List Int) (k : Int) (a b c : List Int) (d e : Int) (g h i j : List Int) (m : b5b ρ) : Option ρ := f (l, k, a, b, c, d, e, g, h, i, j) (fun (l, k, a, b, c, d, e, g, h, i, j) => m l k a b c d e g h i j)
def afs {ρ : Type} := bxj (lp (bsv (ρ := ρ)))
def abn {ρ : Type} := bxj (b41 (ρ := ρ))
theorem aju {ρ : Type} : abn (ρ := ρ) = afs := congrArg bxj b7o
abbrev byt (ρ : Type) := (List Int) → (List Int) → Int → (List Int) → (List Int) → Option ρ
def abf {ρ : Type} (e b : List Int) (a : Int) (c d : List Int) (nx f : byt ρ) : Option ρ := br (decide (a < 8)) (br (decide (0 ≤ a)) (br (decide (a < (↑8 : Int))) (br (decide (0 ≤ a)) (br (decide (a < (↑8 : Int))) (nx e b (IntKind.i64.wrap (a + 1)) (c.set a.toNat (b.getD a.toNat 0)) d) none) none) none) none) (f e b a c d)
abbrev bwa := (List Int) × (List Int) × Int × (List Int) × (List Int)
abbrev b5r := bwa
def bz5 {ρ : Type} (f : bwa → Option ρ) : byt ρ := fun e c d a b => f (e, c, d, a, b)
def bwq {ρ : Type} : adp bwa b5r ρ := fun (e, c, d, a, b) next ex => abf e c d a b (bz5 next) (bz5 ex)
def b47 {ρ : Type} := shut (lp (bwq (ρ := ρ)))
theorem b5x {ρ : Type} : b47 (ρ := ρ) = lp bwq := bn _
def bxz {ρ : Type} (f : adr bwa b5r ρ) (e c : List Int) (d : Int) (a b : List Int) (g : byt ρ) : Option ρ := f (e, c, d, a, b) (fun (e, c, d, a, b) => g e c d a b)
def aem {ρ : Type} := bxz (lp (bwq (ρ := ρ)))
def aa8 {ρ : Type} := bxz (b47 (ρ := ρ))
theorem aiy {ρ : Type} : aa8 (ρ := ρ) = aem := congrArg bxz b5x
def abd {ρ : Type} (f e : Int) (a b c d g r : List Int) (k : (List Int) → (List Int) → Option ρ) : Option ρ := abt r g 0 f e a b c d g [0, 0, 0, 0, 0, 0, 0, 0] [0, 0, 0, 0, 0, 0, 0, 0] fun s O Q h t u v w y z i j => abn s (IntKind.i64.wrap (h * 2)) j i z h t u v w y fun l A m n o B C F G H I => aa8 l m 0 o n fun p J M q N => k q p
def o7 {ρ : Type} := shut (abd (ρ := ρ))
theorem afm {ρ : Type} (f : Int) (e : Int) (a : List Int) (b : List Int) (c : List Int) (d : List Int) (g : List Int) (h : List Int) (k : (List Int) → (List Int) → Option ρ) : o7 f e a b c d g h k = abd f e a b c d g h k := by unfold o7; rw [bn]

def aqt {ρ : Type} (k : Int → Int → (List Int) → (List Int) → (List Int) → (List Int) → Option ρ) : Option ρ := k 64 80 [1, 8, 7] [19, 61, 6] [28, 34, 39] [14, 18, 41]
def abq {ρ : Type} := shut (aqt (ρ := ρ))
theorem as4 {ρ : Type}  (k : Int → Int → (List Int) → (List Int) → (List Int) → (List Int) → Option ρ) : abq  k = aqt  k := by unfold abq; rw [bn]

def oq {ρ : Type} (a : List Int) (k : (List Int) → Option ρ) : Option ρ := br (decide (a.length * 1 ≤ 140737488355328)) (k a) none

def ao1 {ρ : Type} (a : Int) (b d : List Int) (c : Int) (e : List Int) (k : Int → (List Int) → (List Int) → Int → Option ρ) : Option ρ := iy [d, e] fun f => br (a == 1) (ab7 fun q r s t u v => ow q r s t u v b f fun w y => oq y fun z => k a w z (IntKind.u64.wrap (c + IntKind.u64.wrap (↑e.length : Int)))) (abq fun g h i j l m => o7 g h i j l m b f fun n o => oq o fun p => k a n p (IntKind.u64.wrap (c + IntKind.u64.wrap (↑e.length : Int))))
def yj {ρ : Type} := shut (ao1 (ρ := ρ))
theorem ay2 {ρ : Type} (b : Int) (a : List Int) (c : List Int) (d : Int) (e : List Int) (k : Int → (List Int) → (List Int) → Int → Option ρ) : yj b a c d e k = ao1 b a c d e k := by unfold yj; rw [bn]

def ahg {ρ : Type} (d b : Int) (a : List Int) (k : Int → (List Int) → (List Int) → Int → Option ρ) : Option ρ := ag5 d fun e f g h n => jq [a] fun c => br (decide (0 ≤ IntKind.i64.wrap (b - (↑a.length : Int)))) (br (decide ((c.length + (IntKind.i64.wrap (b - (↑a.length : Int))).toNat) * 1 ≤ 140737488355328)) (yj e f g h (c ++ List.replicate (IntKind.i64.wrap (b - (↑a.length : Int))).toNat (0 : Int)) fun i j l m => k i j l m) none) none
def uw {ρ : Type} := shut (ahg (ρ := ρ))
theorem an2 {ρ : Type} (a : Int) (b : Int) (c : List Int) (k : Int → (List Int) → (List Int) → Int → Option ρ) : uw a b c k = ahg a b c k := by unfold uw; rw [bn]

def afd {ρ : Type} (a : Int) (k : Int → Option ρ) : Option ρ := br (a == 1) (k 64) (k 128)
def qp {ρ : Type} := shut (afd (ρ := ρ))
theorem ak8 {ρ : Type} (a : Int) (k : Int → Option ρ) : qp a k = afd a k := by unfold qp; rw [bn]

abbrev b1k (ρ : Type) := Int → (List Int) → Int → (List Int) → Int → (List Int) → Int → (List Int) → Option ρ
def aob {ρ : Type} (g : Int) (b : List Int) (a : Int) (c : List Int) (d : Int) (e : List Int) (f : Int) (h : List Int) (nx j : b1k ρ) : Option ρ := br (decide (a < 8)) (br (decide (0 ≤ a)) (br (decide (a < (↑8 : Int))) (vo (b.getD a.toNat 0) (IntKind.i64.wrap (g.tdiv 16)) fun i => br (decide ((c.length + i.length) * 1 ≤ 140737488355328)) (nx g b (IntKind.i64.wrap (a + 1)) (c ++ i) d e f h) none) none) none) (j g b a c d e f h)
abbrev buq := Int × (List Int) × Int × (List Int) × Int × (List Int) × Int × (List Int)
abbrev b5s := buq
def b46 {ρ : Type} (f : buq → Option ρ) : b1k ρ := fun h d e g a b c i => f (h, d, e, g, a, b, c, i)
def bwy {ρ : Type} : adp buq b5s ρ := fun (g, d, e, f, a, b, c, h) next ex => aob g d e f a b c h (b46 next) (b46 ex)
def b4z {ρ : Type} := shut (lp (bwy (ρ := ρ)))
theorem b66 {ρ : Type} : b4z (ρ := ρ) = lp bwy := bn _
def bxw {ρ : Type} (f : adr buq b5s ρ) (h : Int) (d : List Int) (e : Int) (g : List Int) (a : Int) (b : List Int) (c : Int) (i : List Int) (j : b1k ρ) : Option ρ := f (h, d, e, g, a, b, c, i) (fun (h, d, e, g, a, b, c, i) => j h d e g a b c i)
def awn {ρ : Type} := bxw (lp (bwy (ρ := ρ)))
def aok {ρ : Type} := bxw (b4z (ρ := ρ))
theorem awz {ρ : Type} : aok (ρ := ρ) = awn := congrArg bxw b66
def aow {ρ : Type} (c : Int) (e a : List Int) (d : Int) (k : (List Int) → Option ρ) : Option ρ := qp c fun b => br (decide (1 ≤ b)) (br (decide (b * (↑1 : Int) ≤ (↑140737488355328 : Int))) (br (decide (b = 0)) none (br (decide (0 ≤ IntKind.i64.wrap (IntKind.i64.wrap ((IntKind.i64.wrap (IntKind.i64.wrap (IntKind.i64.wrap (IntKind.i64.wrap (2 * b) - 1) - IntKind.i64.wrap (b.tdiv 8)) - (↑a.length : Int))).tmod b + IntKind.i64.wrap (b.tdiv 8)) - 8))) (br (decide ((1 + (IntKind.i64.wrap (IntKind.i64.wrap ((IntKind.i64.wrap (IntKind.i64.wrap (IntKind.i64.wrap (IntKind.i64.wrap (2 * b) - 1) - IntKind.i64.wrap (b.tdiv 8)) - (↑a.length : Int))).tmod b + IntKind.i64.wrap (b.tdiv 8)) - 8)).toNat) * 1 ≤ 140737488355328)) (vo (IntKind.u64.wrap (d * 2 ^ 3)) 8 fun g => br (decide ((((List.replicate (IntKind.i64.wrap (IntKind.i64.wrap ((IntKind.i64.wrap (IntKind.i64.wrap (IntKind.i64.wrap (IntKind.i64.wrap (2 * b) - 1) - IntKind.i64.wrap (b.tdiv 8)) - (↑a.length : Int))).tmod b + IntKind.i64.wrap (b.tdiv 8)) - 8)).toNat (0 : Int)).length.add 0).succ + g.length) * 1 ≤ 140737488355328)) (yj c e a d ((List.replicate 1 (0 : Int)).set 0 128 ++ List.replicate (IntKind.i64.wrap (IntKind.i64.wrap ((IntKind.i64.wrap (IntKind.i64.wrap (IntKind.i64.wrap (IntKind.i64.wrap (2 * b) - 1) - IntKind.i64.wrap (b.tdiv 8)) - (↑a.length : Int))).tmod b + IntKind.i64.wrap (b.tdiv 8)) - 8)).toNat (0 : Int) ++ g) fun j h l m => aok b h 0 [] j h m l fun q r s f i n o p => br (i == 2) (br (decide (48 ≤ (↑f.length : Int))) (k (List.take ((48 : Int) - (0 : Int)).toNat f)) none) (k f)) none) none) none)) none) none
def aej {ρ : Type} := shut (aow (ρ := ρ))
theorem ay5 {ρ : Type} (b : Int) (a : List Int) (c : List Int) (d : Int) (k : (List Int) → Option ρ) : aej b a c d k = aow b a c d k := by unfold aej; rw [bn]

def ai4 {ρ : Type} (a : List Int) (k : (List Int) → Option ρ) : Option ρ := jq [List.take 1 (List.drop 3 a), List.take 8 (List.drop 8 a), List.take 13 (List.drop 19 a)] fun b => k b
def uy {ρ : Type} := shut (ai4 (ρ := ρ))
theorem aqr {ρ : Type} (a : List Int) (k : (List Int) → Option ρ) : uy a k = ai4 a k := by unfold uy; rw [bn]

def ad3 {ρ : Type} (n j : List Int) (c : Int) (a d : List Int) (e b g : Int) (f h : List Int) (i : Int) (k : (List Int) → Option ρ) : Option ρ := br (decide (b > 16)) (br (decide ((↑j.length : Int) > b)) (uy n fun z => jq [z, j] fun A => yj g f h i A fun B C F G => aej B C F G fun o => br (decide (0 ≤ b)) (br (decide (b ≤ (↑o.length : Int))) (k (List.take (b - 0).toNat (List.drop 0 o))) none) none) (uy n fun H => jq [H, j] fun I => yj c a d e I fun J p q r => aej J p q r fun l => br (decide (0 ≤ b)) (br (decide (b ≤ (↑l.length : Int))) (k (List.take (b - 0).toNat (List.drop 0 l))) none) none)) (uy n fun s => jq [s, j] fun t => yj c a d e t fun u v w y => aej u v w y fun m => br (decide (0 ≤ b)) (br (decide (b ≤ (↑m.length : Int))) (k (List.take (b - 0).toNat (List.drop 0 m))) none) none)
def l8 {ρ : Type} := shut (ad3 (ρ := ρ))
theorem ajf {ρ : Type} (i : List Int) (j : List Int) (c : Int) (a : List Int) (d : List Int) (e : Int) (l : Int) (f : Int) (b : List Int) (g : List Int) (h : Int) (k : (List Int) → Option ρ) : l8 i j c a d e l f b g h k = ad3 i j c a d e l f b g h k := by unfold l8; rw [bn]

def ahn {ρ : Type} (b : Int) (a : List Int) (k : Int → (List Int) → (List Int) → Int → Int → Int → (List Int) → (List Int) → Int → Option ρ) : Option ρ := uw 1 64 a fun c d e f => uw 3 128 a fun g h i j => k c d e f b g h i j
def acg {ρ : Type} := shut (ahn (ρ := ρ))
theorem ank {ρ : Type} (a : Int) (b : List Int) (k : Int → (List Int) → (List Int) → Int → Int → Int → (List Int) → (List Int) → Int → Option ρ) : acg a b k = ahn a b k := by unfold acg; rw [bn]

def afj {ρ : Type} (b c d e f : Int) (a : Bool) (g : List Int) (k : Int → Int → Int → Int → Int → Bool → Nat → Int → (List Int) → Int → Bool → Int → Int → (List Int) → (List Int) → Int → Int → Int → (List Int) → (List Int) → Int → Bool → Option ρ) : Option ρ := mq b c d e f a fun n => br (!n) (k 0 0 0 0 0 false 0 0 [] 0 false 0 0 [] [] 0 0 0 [] [] 0 false) (br ((↑g.length : Int) != b) (k 0 0 0 0 0 false 0 0 [] 0 false 0 0 [] [] 0 0 0 [] [] 0 false) (br a (abu b g fun o p q r s => k b c d e f a 1 o p q r s 0 [] [] 0 0 0 [] [] 0 true) (acg b g fun t u v w h i j l m => k b c d e f a 2 0 [] 0 false 0 t u v w h i j l m true)))
def acj {ρ : Type} := shut (afj (ρ := ρ))
theorem ako {ρ : Type} (b : Int) (c : Int) (d : Int) (e : Int) (f : Int) (a : Bool) (g : List Int) (k : Int → Int → Int → Int → Int → Bool → Nat → Int → (List Int) → Int → Bool → Int → Int → (List Int) → (List Int) → Int → Int → Int → (List Int) → (List Int) → Int → Bool → Option ρ) : acj b c d e f a g k = afj b c d e f a g k := by unfold acj; rw [bn]

def al3 {ρ : Type} (b c d e f : Int) (a : Bool) (z g h : List Int) (k : (List Int) → Option ρ) : Option ρ := acj b c d e f a z fun F G H I J M i A B C j l m n o p q r s t u v => br (!v) (k []) (br (decide (i = 1)) (l9 g h A B C j l fun w => k w) (br (decide (i = 2)) (l8 g h m n o p q r s t u fun y => k y) none))
def xg {ρ : Type} := shut (al3 (ρ := ρ))
theorem avw {ρ : Type} (b : Int) (c : Int) (d : Int) (e : Int) (f : Int) (a : Bool) (g : List Int) (h : List Int) (i : List Int) (k : (List Int) → Option ρ) : xg b c d e f a g h i k = al3 b c d e f a g h i k := by unfold xg; rw [bn]

def akr {ρ : Type} (b c d e f : Int) (a : Bool) (h g i : List Int) (k : (List Int) → Option ρ) : Option ρ := br ((↑g.length : Int) != b) (k []) (xg b c d e f a h i g fun j => k j)
def afn {ρ : Type} := shut (akr (ρ := ρ))
theorem asx {ρ : Type} (b : Int) (c : Int) (d : Int) (e : Int) (f : Int) (a : Bool) (g : List Int) (h : List Int) (i : List Int) (k : (List Int) → Option ρ) : afn b c d e f a g h i k = akr b c d e f a g h i k := by unfold afn; rw [bn]

def aeu {ρ : Type} (d e f g h : Int) (b : Bool) (c i a : List Int) (j : Int) (k : (List Int) → Option ρ) : Option ρ := oz a 2 j fun l => u6 (List.take 4 (List.drop 20 a)) fun m => oz l 3 m fun n => k n
def jm {ρ : Type} := shut (aeu (ρ := ρ))
theorem ak9 {ρ : Type} (c : Int) (d : Int) (e : Int) (f : Int) (g : Int) (a : Bool) (b : List Int) (h : List Int) (i : List Int) (j : Int) (k : (List Int) → Option ρ) : jm c d e f g a b h i j k = aeu c d e f g a b h i j k := by unfold jm; rw [bn]

def adg {ρ : Type} (c d e f g : Int) (a : Bool) (b h i : List Int) (j : Int) (k : (List Int) → Option ρ) : Option ρ := jm c d e f g a b h i 6 fun l => oz l 5 j fun m => afn c d e f g a h b m fun n => k n
def je {ρ : Type} := shut (adg (ρ := ρ))
theorem ah7 {ρ : Type} (c : Int) (d : Int) (e : Int) (f : Int) (g : Int) (a : Bool) (b : List Int) (h : List Int) (i : List Int) (j : Int) (k : (List Int) → Option ρ) : je c d e f g a b h i j k = adg c d e f g a b h i j k := by unfold je; rw [bn]

def aby {ρ : Type} (c d e f g : Int) (a : Bool) (b h i : List Int) (j l : Int) (k : (List Int) → Option ρ) : Option ρ := jm c d e f g a b h i 3 fun m => oz m 4 (IntKind.u64.wrap j) fun n => oz n 5 l fun o => k o
def pz {ρ : Type} := shut (aby (ρ := ρ))
theorem agl {ρ : Type} (c : Int) (d : Int) (e : Int) (f : Int) (g : Int) (a : Bool) (b : List Int) (h : List Int) (i : List Int) (j : Int) (l : Int) (k : (List Int) → Option ρ) : pz c d e f g a b h i j l k = aby c d e f g a b h i j l k := by unfold pz; rw [bn]

def adl {ρ : Type} (b c d e f : Int) (a : Bool) (g h i : List Int) (j l : Int) (m : List (List Int)) (k : (List Int) → Option ρ) : Option ρ := pz b c d e f a g h i j l fun n => jq m fun o => xg b c d e f a h n o fun p => k p
def jc {ρ : Type} := shut (adl (ρ := ρ))
theorem ah9 {ρ : Type} (c : Int) (d : Int) (e : Int) (f : Int) (g : Int) (a : Bool) (b : List Int) (h : List Int) (i : List Int) (j : Int) (l : Int) (m : List (List Int)) (k : (List Int) → Option ρ) : jc c d e f g a b h i j l m k = adl c d e f g a b h i j l m k := by unfold jc; rw [bn]

abbrev b3s (ρ : Type) := Int → Int → Int → Int → Nat → (List Int) → (List (List Int)) → Int → Int → Int → Int → Int → Bool → (List Int) → (List Int) → (List Int) → Int → (List Int) → Option ρ
def aec {ρ : Type} (q r p a : Int) (c : Nat) (d : List Int) (e : List (List Int)) (f g h i j : Int) (k : Bool) (l m n : List Int) (b : Int) (o : List Int) (nx s : b3s ρ) : Option ρ := br (decide (a > 0)) (br (decide (0 ≤ IntKind.i64.wrap (a - 1))) (br (decide (IntKind.i64.wrap (a - 1) < (↑c : Int))) (br (d.getD (IntKind.i64.wrap (a - 1)).toNat 0 == b) (br (decide (IntKind.i64.wrap (b + 1) < 0)) none (br (decide (0 ≤ IntKind.i64.wrap (a - 1))) (br (decide (IntKind.i64.wrap (a - 1) < (↑c : Int))) (jc f g h i j k l m n (IntKind.i64.wrap (b + 1)) (p.fdiv (2 ^ min (IntKind.i64.wrap (b + 1)).toNat 64)) [e.getD (IntKind.i64.wrap (a - 1)).toNat [], o] fun t => br (decide (0 ≤ IntKind.i64.wrap (a - 1))) (br (decide (IntKind.i64.wrap (a - 1) ≤ (↑c : Int))) (nx q r p (↑(IntKind.i64.wrap (a - 1)).toNat : Int) (min (IntKind.i64.wrap (a - 1)).toNat c) (List.take (IntKind.i64.wrap (a - 1)).toNat d) (List.take (IntKind.i64.wrap (a - 1)).toNat e) f g h i j k l m n (IntKind.i64.wrap (b + 1)) t) none) none) none) none)) (s q r p a c d e f g h i j k l m n b o)) none) none) (s q r p a c d e f g h i j k l m n b o)
abbrev buu := Int × Int × Int × Int × Nat × (List Int) × (List (List Int)) × Int × Int × Int × Int × Int × Bool × (List Int) × (List Int) × (List Int) × Int × (List Int)
abbrev b2t := buu
def b4t {ρ : Type} (f : buu → Option ρ) : b3s ρ := fun q r s p a b c d e g h i j k l m n o => f (q, r, s, p, a, b, c, d, e, g, h, i, j, k, l, m, n, o)
def bul {ρ : Type} : adp buu b2t ρ := fun (p, q, r, o, a, b, c, d, e, f, g, h, i, j, k, l, m, n) next ex => aec p q r o a b c d e f g h i j k l m n (b4t next) (b4t ex)
def b22 {ρ : Type} := shut (lp (bul (ρ := ρ)))
theorem b7a {ρ : Type} : b22 (ρ := ρ) = lp bul := bn _
def bye {ρ : Type} (f : adr buu b2t ρ) (q r s p : Int) (a : Nat) (b : List Int) (c : List (List Int)) (d e g h i : Int) (j : Bool) (k l m : List Int) (n : Int) (o : List Int) (t : b3s ρ) : Option ρ := f (q, r, s, p, a, b, c, d, e, g, h, i, j, k, l, m, n, o) (fun (q, r, s, p, a, b, c, d, e, g, h, i, j, k, l, m, n, o) => t q r s p a b c d e g h i j k l m n o)
def aia {ρ : Type} := bye (lp (bul (ρ := ρ)))
def ad6 {ρ : Type} := bye (b22 (ρ := ρ))
theorem alv {ρ : Type} : ad6 (ρ := ρ) = aia := congrArg bye b7a
abbrev b26 (ρ : Type) := Int → Int → Int → Nat → (List Int) → (List (List Int)) → Int → Int → Int → Int → Int → Bool → (List Int) → (List Int) → (List Int) → Option ρ
def aef {ρ : Type} (l p j : Int) (k : Nat) (n : List Int) (o : List (List Int)) (a b c d e : Int) (f : Bool) (g h i : List Int) (nx B : b26 ρ) : Option ρ := br (decide (l < 0)) none (br (decide (j < IntKind.u64.wrap (IntKind.u64.wrap (p + 1) * 2 ^ min l.toNat 64))) (je a b c d e f g h i j fun C => jc a b c d e f g h i 0 j [C] fun F => ad6 l p j (↑k : Int) k n o a b c d e f g h i 0 F fun G H I O m J M N q r s t u v w y z A => br (decide ((m + 1) * 32 ≤ 140737488355328)) (nx G H (IntKind.u64.wrap (I + 1)) (m + 1) (bhw m J 0 ++ [z]) (bhw m M [] ++ [A]) N q r s t u v w y) none) (B l p j k n o a b c d e f g h i))
abbrev btx := Int × Int × Int × Nat × (List Int) × (List (List Int)) × Int × Int × Int × Int × Int × Bool × (List Int) × (List Int) × (List Int)
abbrev b0l := btx
def b31 {ρ : Type} (f : btx → Option ρ) : b26 ρ := fun n o p k l m a b c d e g h i j => f (n, o, p, k, l, m, a, b, c, d, e, g, h, i, j)
def btp {ρ : Type} : adp btx b0l ρ := fun (m, n, o, j, k, l, a, b, c, d, e, f, g, h, i) next ex => aef m n o j k l a b c d e f g h i (b31 next) (b31 ex)
def b0h {ρ : Type} := shut (lp (btp (ρ := ρ)))
theorem b5u {ρ : Type} : b0h (ρ := ρ) = lp btp := bn _
def bxm {ρ : Type} (f : adr btx b0l ρ) (n o p : Int) (k : Nat) (l : List Int) (m : List (List Int)) (a b c d e : Int) (g : Bool) (h i j : List Int) (q : b26 ρ) : Option ρ := f (n, o, p, k, l, m, a, b, c, d, e, g, h, i, j) (fun (n, o, p, k, l, m, a, b, c, d, e, g, h, i, j) => q n o p k l m a b c d e g h i j)
def aiq {ρ : Type} := bxm (lp (btp (ρ := ρ)))
def aii {ρ : Type} := bxm (b0h (ρ := ρ))
theorem amq {ρ : Type} : aii (ρ := ρ) = aiq := congrArg bxm b5u
def adj {ρ : Type} (c d e f g : Int) (a : Bool) (b h i : List Int) (j l : Int) (k : (List Int) → Option ρ) : Option ρ := br (decide (j < 0)) none (aii j l (IntKind.u64.wrap (l * 2 ^ min j.toNat 64)) 0 [] [] c d e f g a b h i fun t u v m w n y z A B o p q r s => br (decide (0 < (↑m : Int))) (k (n.getD 0 [])) none)
def l6 {ρ : Type} := shut (adj (ρ := ρ))
theorem ail {ρ : Type} (c : Int) (d : Int) (e : Int) (f : Int) (g : Int) (a : Bool) (b : List Int) (h : List Int) (i : List Int) (j : Int) (l : Int) (k : (List Int) → Option ρ) : l6 c d e f g a b h i j l k = adj c d e f g a b h i j l k := by unfold l6; rw [bn]

abbrev bzp (ρ : Type) := Int → Int → Int → (List Int) → Int → Int → Int → Int → Int → Bool → Int → Int → Int → Int → Int → Bool → (List Int) → (List Int) → (List Int) → Int → Int → Int → Int → Int → Bool → (List Int) → (List Int) → (List Int) → (List Int) → Option ρ
def ahx {ρ : Type} (l m a : Int) (b : List Int) (n o p q r : Int) (s : Bool) (c d e f g : Int) (h : Bool) (i j k : List Int) (t u v w y : Int) (z : Bool) (A B C F : List Int) (nx H : bzp ρ) : Option ρ := br (decide (a < m)) (br (decide (a < 0)) none (l6 c d e f g h i j k a (bits BinOp.xor IntKind.u64 (l.fdiv (2 ^ min a.toNat 64)) 1) fun G => br (decide ((b.length + G.length) * 1 ≤ 140737488355328)) (nx l m (IntKind.i64.wrap (a + 1)) (b ++ G) n o p q r s c d e f g h i j k t u v w y z A B C F) none)) (H l m a b n o p q r s c d e f g h i j k t u v w y z A B C F)
abbrev bru := Int × Int × Int × (List Int) × Int × Int × Int × Int × Int × Bool × Int × Int × Int × Int × Int × Bool × (List Int) × (List Int) × (List Int) × Int × Int × Int × Int × Int × Bool × (List Int) × (List Int) × (List Int) × (List Int)
abbrev b4a := bru
def b3l {ρ : Type} (f : bru → Option ρ) : bzp ρ := fun B C F a b c d e g h i j k l m n o p q r s t u v w y z A G => f (B, C, F, a, b, c, d, e, g, h, i, j, k, l, m, n, o, p, q, r, s, t, u, v, w, y, z, A, G)
def bty {ρ : Type} : adp bru b4a ρ := fun (A, B, C, a, b, c, d, e, f, g, h, i, j, k, l, m, n, o, p, q, r, s, t, u, v, w, y, z, F) next ex => ahx A B C a b c d e f g h i j k l m n o p q r s t u v w y z F (b3l next) (b3l ex)
def b3q {ρ : Type} := shut (lp (bty (ρ := ρ)))
theorem b7q {ρ : Type} : b3q (ρ := ρ) = lp bty := bn _
def bxa {ρ : Type} (f : adr bru b4a ρ) (B C F : Int) (a : List Int) (b c d e g : Int) (h : Bool) (i j k l m : Int) (n : Bool) (o p q : List Int) (r s t u v : Int) (w : Bool) (y z A G : List Int) (H : bzp ρ) : Option ρ := f (B, C, F, a, b, c, d, e, g, h, i, j, k, l, m, n, o, p, q, r, s, t, u, v, w, y, z, A, G) (fun (B, C, F, a, b, c, d, e, g, h, i, j, k, l, m, n, o, p, q, r, s, t, u, v, w, y, z, A, G) => H B C F a b c d e g h i j k l m n o p q r s t u v w y z A G)
def alx {ρ : Type} := bxa (lp (bty (ρ := ρ)))
def al5 {ρ : Type} := bxa (b3q (ρ := ρ))
theorem apr {ρ : Type} : al5 (ρ := ρ) = alx := congrArg bxa b7q
abbrev b27 (ρ : Type) := Int → Int → (List Int) → Int → Int → Int → Int → Int → Bool → Int → Int → Int → Int → Int → Bool → (List Int) → (List Int) → (List Int) → Int → Int → Int → Int → Int → Bool → (List Int) → (List Int) → (List Int) → (List Int) → Option ρ
def aiw {ρ : Type} (n a : Int) (c : List Int) (o p q d r : Int) (s : Bool) (e f g h i : Int) (j : Bool) (k l m : List Int) (t u v b w : Int) (y : Bool) (z A B C : List Int) (nx k0 : b27 ρ) : Option ρ := br (decide (a < n)) (br (decide (0 ≤ a)) (br (decide (a < (↑C.length : Int))) (br (decide (b < 0)) none (je e f g h i j k l m (bits BinOp.or IntKind.u64 (IntKind.u64.wrap (IntKind.u64.wrap a * 2 ^ min b.toNat 64)) (IntKind.u64.wrap (C.getD a.toNat 0))) fun F => br (decide ((c.length + F.length) * 1 ≤ 140737488355328)) (al5 (bits BinOp.or IntKind.u64 (IntKind.u64.wrap (IntKind.u64.wrap a * 2 ^ min b.toNat 64)) (IntKind.u64.wrap (C.getD a.toNat 0))) d 0 (c ++ F) o p q d r s e f g h i j k l m t u v b w y z A B C fun q1 q2 q3 q4 q5 q6 q7 q8 q9 G H I J M N O Q U W Z aa ab ac ad ae af ag ah ai => nx n (IntKind.i64.wrap (a + 1)) q4 q5 q6 q7 q8 q9 G H I J M N O Q U W Z aa ab ac ad ae af ag ah ai) none)) none) none) (k0 n a c o p q d r s e f g h i j k l m t u v b w y z A B C)
abbrev bv6 := Int × Int × (List Int) × Int × Int × Int × Int × Int × Bool × Int × Int × Int × Int × Int × Bool × (List Int) × (List Int) × (List Int) × Int × Int × Int × Int × Int × Bool × (List Int) × (List Int) × (List Int) × (List Int)
abbrev bz9 := bv6
def bzd {ρ : Type} (f : bv6 → Option ρ) : b27 ρ := fun B C a b c d e g h i j k l m n o p q r s t u v w y z A F => f (B, C, a, b, c, d, e, g, h, i, j, k, l, m, n, o, p, q, r, s, t, u, v, w, y, z, A, F)
def bva {ρ : Type} : adp bv6 bz9 ρ := fun (A, B, a, b, c, d, e, f, g, h, i, j, k, l, m, n, o, p, q, r, s, t, u, v, w, y, z, C) next ex => aiw A B a b c d e f g h i j k l m n o p q r s t u v w y z C (bzd next) (bzd ex)
def b0m {ρ : Type} := shut (lp (bva (ρ := ρ)))
theorem b7k {ρ : Type} : b0m (ρ := ρ) = lp bva := bn _
def bw6 {ρ : Type} (f : adr bv6 bz9 ρ) (B C : Int) (a : List Int) (b c d e g : Int) (h : Bool) (i j k l m : Int) (n : Bool) (o p q : List Int) (r s t u v : Int) (w : Bool) (y z A F : List Int) (G : b27 ρ) : Option ρ := f (B, C, a, b, c, d, e, g, h, i, j, k, l, m, n, o, p, q, r, s, t, u, v, w, y, z, A, F) (fun (B, C, a, b, c, d, e, g, h, i, j, k, l, m, n, o, p, q, r, s, t, u, v, w, y, z, A, F) => G B C a b c d e g h i j k l m n o p q r s t u v w y z A F)
def anz {ρ : Type} := bw6 (lp (bva (ρ := ρ)))
def anr {ρ : Type} := bw6 (b0m (ρ := ρ))
theorem asb {ρ : Type} : anr (ρ := ρ) = anz := congrArg bw6 b7k
def acs {ρ : Type} (b c d e f : Int) (a : Bool) (j u v w : List Int) (k : (List Int) → Option ρ) : Option ρ := jy b c d e f a u v w fun l m n h i o p q r y => iq b c d e f a fun z s => br (!y) (k []) (br ((↑j.length : Int) != s) (k []) (jk j h i fun g => anr (↑g.length : Int) 0 [] b c d e f a l m n h i o p q r l m n h i o p q r g fun A B t C F G H I J M N O Q U W Z aa ab ac ad ae af ag ah ai aj ak al => k t))
def yw {ρ : Type} := shut (acs (ρ := ρ))
theorem afv {ρ : Type} (b : Int) (c : Int) (d : Int) (e : Int) (f : Int) (a : Bool) (g : List Int) (h : List Int) (i : List Int) (j : List Int) (k : (List Int) → Option ρ) : yw b c d e f a g h i j k = acs b c d e f a g h i j k := by unfold yw; rw [bn]

def ajy {ρ : Type} (k : Bool → Option ρ) : Option ρ := iq 16 2 1 2 3 false fun a b => br (a == 144) (br (b == 1) (yw 16 2 1 2 3 false (List.replicate 2 (0 : Int)) (List.replicate 16 (0 : Int)) (List.replicate 16 (0 : Int)) [0, 0, 0, 0, 0, 0, 0, 0, 0, 0, 0, 0, 0, 0, 0, 0, 0, 0, 0, 0, 0, 0, 0, 0, 0, 0, 0, 0, 0, 0, 0, 0] fun c => k ((↑c.length : Int) == 0)) (k false)) (k false)
def tu {ρ : Type} := shut (ajy (ρ := ρ))
theorem atf {ρ : Type}  (k : Bool → Option ρ) : tu  k = ajy  k := by unfold tu; rw [bn]

def aoc {ρ : Type} (e b a c d : Int) (f : Bool) (k : Bool → Option ρ) : Option ρ := br (e != 16) (br (e != 24) (br (e != 32) (k false) (br (decide (a ≥ 1)) (br (decide (b ≤ 68)) (br (decide (b ≥ a)) (br (decide (a = 0)) none (br (b.tmod a == 0) (br (decide (a = 0)) none (br (decide (IntKind.i64.wrap (b.tdiv a) ≤ 9)) (br (decide (c ≥ 1)) (br (decide (c ≤ 14)) (br (decide (d ≥ 1)) (k (decide (d ≤ 40))) (k false)) (k false)) (k false)) (k false))) (k false))) (k false)) (k false)) (k false))) (br (decide (a ≥ 1)) (br (decide (b ≤ 68)) (br (decide (b ≥ a)) (br (decide (a = 0)) none (br (b.tmod a == 0) (br (decide (a = 0)) none (br (decide (IntKind.i64.wrap (b.tdiv a) ≤ 9)) (br (decide (c ≥ 1)) (br (decide (c ≤ 14)) (br (decide (d ≥ 1)) (k (decide (d ≤ 40))) (k false)) (k false)) (k false)) (k false))) (k false))) (k false)) (k false)) (k false))) (br (decide (a ≥ 1)) (br (decide (b ≤ 68)) (br (decide (b ≥ a)) (br (decide (a = 0)) none (br (b.tmod a == 0) (br (decide (a = 0)) none (br (decide (IntKind.i64.wrap (b.tdiv a) ≤ 9)) (br (decide (c ≥ 1)) (br (decide (c ≤ 14)) (br (decide (d ≥ 1)) (k (decide (d ≤ 40))) (k false)) (k false)) (k false)) (k false))) (k false))) (k false)) (k false)) (k false))
def qo {ρ : Type} := shut (aoc (ρ := ρ))
theorem ax9 {ρ : Type} (b : Int) (c : Int) (d : Int) (e : Int) (f : Int) (a : Bool) (k : Bool → Option ρ) : qo b c d e f a k = aoc b c d e f a k := by unfold qo; rw [bn]

def ag0 {ρ : Type} (d e f b c : Int) (a : Bool) (k : Bool → Option ρ) : Option ρ := qo d e f b c a fun g => br g (br (decide (b ≤ 4)) (k (decide (c ≤ 6))) (k false)) (k false)
def aam {ρ : Type} := shut (ag0 (ρ := ρ))
theorem asj {ρ : Type} (b : Int) (c : Int) (d : Int) (e : Int) (f : Int) (a : Bool) (k : Bool → Option ρ) : aam b c d e f a k = ag0 b c d e f a k := by unfold aam; rw [bn]

abbrev b2q (ρ : Type) := (List Int) → (List Int) → Int → Option ρ
def ao7 {ρ : Type} (b c : List Int) (a : Int) (nx d : b2q ρ) (e : Bool → Option ρ) : Option ρ := br (decide (a < (↑b.length : Int))) (br (decide (0 ≤ a)) (br (decide (a < (↑b.length : Int))) (br (decide (0 ≤ a)) (br (decide (a < (↑c.length : Int))) (br (b.getD a.toNat 0 != c.getD a.toNat 0) (e false) (nx b c (IntKind.i64.wrap (a + 1)))) none) none) none) none) (d b c a)
abbrev bxy := (List Int) × (List Int) × Int
abbrev b28 := ((List Int) × (List Int) × Int) ⊕ (Bool)
def b69 {ρ : Type} (f : bxy → Option ρ) : b2q ρ := fun a b c => f (a, b, c)
def bwn {ρ : Type} : adp bxy b28 ρ := fun (a, b, c) next ex => ao7 a b c (b69 next) (fun a b c => ex (.inl (a, b, c))) (fun d => ex (.inr d))
def b4s {ρ : Type} := shut (lp (bwn (ρ := ρ)))
theorem b58 {ρ : Type} : b4s (ρ := ρ) = lp bwn := bn _
def bym {ρ : Type} (f : adr bxy b28 ρ) (a b : List Int) (c : Int) (d : b2q ρ) (e : Bool → Option ρ) : Option ρ := f (a, b, c) (Sum.elim (fun (a, b, c) => d a b c) (fun x => e x))
def auf {ρ : Type} := bym (lp (bwn (ρ := ρ)))
def avv {ρ : Type} := bym (b4s (ρ := ρ))
theorem awu {ρ : Type} : avv (ρ := ρ) = auf := congrArg bym b58
def alz {ρ : Type} (a b : List Int) (k : Bool → Option ρ) : Option ρ := br ((↑a.length : Int) != (↑b.length : Int)) (k false) (avv a b 0 (fun d e f => k true) fun c => k c)
def aci {ρ : Type} := shut (alz (ρ := ρ))
theorem av5 {ρ : Type} (a : List Int) (b : List Int) (k : Bool → Option ρ) : aci a b k = alz a b k := by unfold aci; rw [bn]

def al9 {ρ : Type} (d e f a b : Int) (c : Bool) (k : Int → Int → Option ρ) : Option ρ := qo d e f a b c fun g => br (!g) (k 0 0) (k (IntKind.i64.wrap (IntKind.i64.wrap (d * b) * IntKind.i64.wrap (a + 1))) (IntKind.i64.wrap ((IntKind.i64.wrap (IntKind.i64.wrap (b * a) + 7)).tdiv 8)))
def vw {ρ : Type} := shut (al9 (ρ := ρ))
theorem avc {ρ : Type} (b : Int) (c : Int) (d : Int) (e : Int) (f : Int) (a : Bool) (k : Int → Int → Option ρ) : vw b c d e f a k = al9 b c d e f a k := by unfold vw; rw [bn]

def akp {ρ : Type} (a c d e f : Int) (b : Bool) (g h : List Int) (k : Bool → Option ρ) : Option ρ := qo a c d e f b fun i => br (!i) (k true) (br ((↑g.length : Int) != a) (k true) (k ((↑h.length : Int) != a)))
def uo {ρ : Type} := shut (akp (ρ := ρ))
theorem as9 {ρ : Type} (b : Int) (c : Int) (d : Int) (e : Int) (f : Int) (a : Bool) (g : List Int) (h : List Int) (k : Bool → Option ρ) : uo b c d e f a g h k = akp b c d e f a g h k := by unfold uo; rw [bn]

abbrev b4k (ρ : Type) := (List (List Int)) → Int → (List Int) → Option ρ
def aoo {ρ : Type} (b : List (List Int)) (a : Int) (c : List Int) (nx d : b4k ρ) : Option ρ := br (decide (a < (↑b.length : Int))) (br (decide (0 ≤ a)) (br (decide (a < (↑b.length : Int))) (br (decide ((c.length + (b.getD a.toNat []).length) * 1 ≤ 140737488355328)) (nx b (IntKind.i64.wrap (a + 1)) (c ++ b.getD a.toNat [])) none) none) none) (d b a c)
abbrev bu5 := (List (List Int)) × Int × (List Int)
abbrev b1z := bu5
def b2r {ρ : Type} (f : bu5 → Option ρ) : b4k ρ := fun a b c => f (a, b, c)
def bvq {ρ : Type} : adp bu5 b1z ρ := fun (a, b, c) next ex => aoo a b c (b2r next) (b2r ex)
def b0i {ρ : Type} := shut (lp (bvq (ρ := ρ)))
theorem b7h {ρ : Type} : b0i (ρ := ρ) = lp bvq := bn _
def byl {ρ : Type} (f : adr bu5 b1z ρ) (a : List (List Int)) (b : Int) (c : List Int) (d : b4k ρ) : Option ρ := f (a, b, c) (fun (a, b, c) => d a b c)
def avq {ρ : Type} := byl (lp (bvq (ρ := ρ)))
def awi {ρ : Type} := byl (b0i (ρ := ρ))
theorem aw3 {ρ : Type} : awi (ρ := ρ) = avq := congrArg byl b7h
def alo {ρ : Type} (a : List (List Int)) (k : (List Int) → Option ρ) : Option ρ := awi a 0 [] fun c d b => k b
def jv {ρ : Type} := shut (alo (ρ := ρ))
theorem avs {ρ : Type} (a : List (List Int)) (k : (List Int) → Option ρ) : jv a k = alo a k := by unfold jv; rw [bn]

def amn {ρ : Type} (a : Int) (k : Int → Option ρ) : Option ρ := br (a == 4) (br (a == 4) (k 136) (br (a == 5) (k 72) (br (a == 6) (k 168) (k 0)))) (br (a == 7) (k 136) (br (a == 5) (k 72) (br (a == 6) (k 168) (k 0))))
def aay {ρ : Type} := shut (amn (ρ := ρ))
theorem awq {ρ : Type} (a : Int) (k : Int → Option ρ) : aay a k = amn a k := by unfold aay; rw [bn]

def ao2 {ρ : Type} (a : Int) (k : Int → (List Int) → Int → Bool → Int → Option ρ) : Option ρ := aay a fun b => br (b == 0) (k 0 [0, 0, 0, 0, 0, 0, 0, 0, 0, 0, 0, 0, 0, 0, 0, 0, 0, 0, 0, 0, 0, 0, 0, 0, 0] 0 false 9) (k a [0, 0, 0, 0, 0, 0, 0, 0, 0, 0, 0, 0, 0, 0, 0, 0, 0, 0, 0, 0, 0, 0, 0, 0, 0] 0 false 0)
def al7 {ρ : Type} := shut (ao2 (ρ := ρ))
theorem axl {ρ : Type} (a : Int) (k : Int → (List Int) → Int → Bool → Int → Option ρ) : al7 a k = ao2 a k := by unfold al7; rw [bn]

abbrev by3 (ρ : Type) := Int → Int → (List Int) → (List Int) → Option ρ
def ac7 {ρ : Type} (d a : Int) (c b : List Int) (nx e : by3 ρ) : Option ρ := br (decide (a < (168 : Int))) (br (bits BinOp.and IntKind.u64 d (1 : Int) == (1 : Int)) (br (decide ((0 : Int) ≤ IntKind.i64.wrap (a.tdiv (7 : Int)))) (br (decide (IntKind.i64.wrap (a.tdiv (7 : Int)) < (↑24 : Int))) (br (decide (a.tmod (7 : Int) < (0 : Int))) none (br (decide (IntKind.u64.wrap (IntKind.u64.wrap ((1 : Int) * (2 : Int) ^ min (a.tmod (7 : Int)).toNat 64) - (1 : Int)) < (0 : Int))) none (br (decide ((0 : Int) ≤ IntKind.i64.wrap (a.tdiv (7 : Int)))) (br (decide (IntKind.i64.wrap (a.tdiv (7 : Int)) < (↑24 : Int))) (br (decide (IntKind.u64.wrap (d * (2 : Int)) ≥ (256 : Int))) (nx (bits BinOp.xor IntKind.u64 (bits BinOp.and IntKind.u64 (IntKind.u64.wrap (d * (2 : Int))) (255 : Int)) (113 : Int)) (IntKind.i64.wrap (a + (1 : Int))) c (b.set (IntKind.i64.wrap (a.tdiv (7 : Int))).toNat (bits BinOp.or IntKind.u64 (b.getD (IntKind.i64.wrap (a.tdiv (7 : Int))).toNat (0 : Int)) (IntKind.u64.wrap ((1 : Int) * (2 : Int) ^ min (IntKind.u64.wrap (IntKind.u64.wrap ((1 : Int) * (2 : Int) ^ min (a.tmod (7 : Int)).toNat 64) - (1 : Int))).toNat 64))))) (nx (IntKind.u64.wrap (d * (2 : Int))) (IntKind.i64.wrap (a + (1 : Int))) c (b.set (IntKind.i64.wrap (a.tdiv (7 : Int))).toNat (bits BinOp.or IntKind.u64 (b.getD (IntKind.i64.wrap (a.tdiv (7 : Int))).toNat (0 : Int)) (IntKind.u64.wrap ((1 : Int) * (2 : Int) ^ min (IntKind.u64.wrap (IntKind.u64.wrap ((1 : Int) * (2 : Int) ^ min (a.tmod (7 : Int)).toNat 64) - (1 : Int))).toNat 64)))))) none) none))) none) none) (br (decide (IntKind.u64.wrap (d * (2 : Int)) ≥ (256 : Int))) (nx (bits BinOp.xor IntKind.u64 (bits BinOp.and IntKind.u64 (IntKind.u64.wrap (d * (2 : Int))) (255 : Int)) (113 : Int)) (IntKind.i64.wrap (a + (1 : Int))) c b) (nx (IntKind.u64.wrap (d * (2 : Int))) (IntKind.i64.wrap (a + (1 : Int))) c b))) (e d a c b)
abbrev buj := Int × Int × (List Int) × (List Int)
abbrev b0y := buj
def bua {ρ : Type} (f : buj → Option ρ) : by3 ρ := fun c d a b => f (c, d, a, b)
def bq8 {ρ : Type} : adp buj b0y ρ := fun (c, d, a, b) next ex => ac7 c d a b (bua next) (bua ex)
def bzk {ρ : Type} := shut (lp (bq8 (ρ := ρ)))
theorem b6c {ρ : Type} : bzk (ρ := ρ) = lp bq8 := bn _
def bq7 {ρ : Type} (f : adr buj b0y ρ) (c d : Int) (a b : List Int) (e : by3 ρ) : Option ρ := f (c, d, a, b) (fun (c, d, a, b) => e c d a b)
def ac8 {ρ : Type} := bq7 (lp (bq8 (ρ := ρ)))
def ak4 {ρ : Type} := bq7 (bzk (ρ := ρ))
theorem adf {ρ : Type} : ak4 (ρ := ρ) = ac8 := congrArg bq7 b6c
def ae9 {ρ : Type} (k : (List Int) → Option ρ) : Option ρ := ak4 1 0 [0, 0, 0, 0, 0, 0, 0, 0, 0, 0, 0, 0, 0, 0, 0, 0, 0, 0, 0, 0, 0, 0, 0, 0] [0, 0, 0, 0, 0, 0, 0, 0, 0, 0, 0, 0, 0, 0, 0, 0, 0, 0, 0, 0, 0, 0, 0, 0] fun b c d a => k a
def xu {ρ : Type} := shut (ae9 (ρ := ρ))
theorem ak7 {ρ : Type}  (k : (List Int) → Option ρ) : xu  k = ae9  k := by unfold xu; rw [bn]

def aaq {ρ : Type} (b a : Int) (k : Int → Option ρ) : Option ρ := br (decide (a.tmod (64 : Int) < (0 : Int))) none (br (decide (IntKind.i64.wrap ((64 : Int) - a.tmod (64 : Int)) < (0 : Int))) none (k (bits BinOp.or IntKind.u64 (IntKind.u64.wrap (b * (2 : Int) ^ min (a.tmod (64 : Int)).toNat 64)) (b.fdiv ((2 : Int) ^ min (IntKind.i64.wrap ((64 : Int) - a.tmod (64 : Int))).toNat 64)))))
def ad5 {ρ : Type} := shut (aaq (ρ := ρ))
theorem adk {ρ : Type} (a : Int) (b : Int) (k : Int → Option ρ) : ad5 a b k = aaq a b k := by unfold ad5; rw [bn]

abbrev by8 (ρ : Type) := Int → Int → Int → (List Int) → (List Int) → (List Int) → Option ρ
def akb {ρ : Type} (b a d : Int) (c e f : List Int) (nx g : by8 ρ) : Option ρ := br (decide (d < 24)) (br (decide (0 ≤ IntKind.i64.wrap (b + IntKind.i64.wrap (5 * a)))) (br (decide (IntKind.i64.wrap (b + IntKind.i64.wrap (5 * a)) < (↑25 : Int))) (ad5 (c.getD (IntKind.i64.wrap (b + IntKind.i64.wrap (5 * a))).toNat 0) (IntKind.i64.wrap ((IntKind.i64.wrap (IntKind.i64.wrap (d + 1) * IntKind.i64.wrap (d + 2))).tdiv 2)) fun h => br (decide (0 ≤ IntKind.i64.wrap (a + IntKind.i64.wrap (5 * (IntKind.i64.wrap (IntKind.i64.wrap (2 * b) + IntKind.i64.wrap (3 * a))).tmod 5)))) (br (decide (IntKind.i64.wrap (a + IntKind.i64.wrap (5 * (IntKind.i64.wrap (IntKind.i64.wrap (2 * b) + IntKind.i64.wrap (3 * a))).tmod 5)) < (↑25 : Int))) (nx a ((IntKind.i64.wrap (IntKind.i64.wrap (2 * b) + IntKind.i64.wrap (3 * a))).tmod 5) (IntKind.i64.wrap (d + 1)) c e (f.set (IntKind.i64.wrap (a + IntKind.i64.wrap (5 * (IntKind.i64.wrap (IntKind.i64.wrap (2 * b) + IntKind.i64.wrap (3 * a))).tmod 5))).toNat h)) none) none) none) none) (g b a d c e f)
abbrev bwj := Int × Int × Int × (List Int) × (List Int) × (List Int)
abbrev b5d := bwj
def brt {ρ : Type} (f : bwj → Option ρ) : by8 ρ := fun d e g a b c => f (d, e, g, a, b, c)
def brh {ρ : Type} : adp bwj b5d ρ := fun (d, e, f, a, b, c) next ex => akb d e f a b c (brt next) (brt ex)
def b3o {ρ : Type} := shut (lp (brh (ρ := ρ)))
theorem b6g {ρ : Type} : b3o (ρ := ρ) = lp brh := bn _
def brn {ρ : Type} (f : adr bwj b5d ρ) (d e g : Int) (a b c : List Int) (h : by8 ρ) : Option ρ := f (d, e, g, a, b, c) (fun (d, e, g, a, b, c) => h d e g a b c)
def aj2 {ρ : Type} := brn (lp (brh (ρ := ρ)))
def awf {ρ : Type} := brn (b3o (ρ := ρ))
theorem ai2 {ρ : Type} : awf (ρ := ρ) = aj2 := congrArg brn b6g
def alr {ρ : Type} (a : List Int) (k : (List Int) → Option ρ) : Option ρ := awf 1 0 0 a [0, 0, 0, 0, 0, 0, 0, 0, 0, 0, 0, 0, 0, 0, 0, 0, 0, 0, 0, 0, 0, 0, 0, 0, 0] ([(0 : Int), (0 : Int), (0 : Int), (0 : Int), (0 : Int), (0 : Int), (0 : Int), (0 : Int), (0 : Int), (0 : Int), (0 : Int), (0 : Int), (0 : Int), (0 : Int), (0 : Int), (0 : Int), (0 : Int), (0 : Int), (0 : Int), (0 : Int), (0 : Int), (0 : Int), (0 : Int), (0 : Int), (0 : Int)].set 0 (a.getD 0 0)) fun c d e f g b => k b
def ag2 {ρ : Type} := shut (alr (ρ := ρ))
theorem aug {ρ : Type} (a : List Int) (k : (List Int) → Option ρ) : ag2 a k = alr a k := by unfold ag2; rw [bn]

abbrev bsm (ρ : Type) := Int → (List Int) → (List Int) → (List Int) → Option ρ
def agw {ρ : Type} (a : Int) (b d c : List Int) (nx e : bsm ρ) : Option ρ := br (decide (a < 25)) (br (decide (0 ≤ a.tmod 5)) (br (decide (a.tmod 5 < (↑5 : Int))) (br (decide (0 ≤ a)) (br (decide (a < (↑25 : Int))) (br (decide (0 ≤ a.tmod 5)) (br (decide (a.tmod 5 < (↑5 : Int))) (nx (IntKind.i64.wrap (a + 1)) b d (c.set (a.tmod 5).toNat (bits BinOp.xor IntKind.u64 (c.getD (a.tmod 5).toNat 0) (b.getD a.toNat 0)))) none) none) none) none) none) none) (e a b d c)
abbrev bt5 := Int × (List Int) × (List Int) × (List Int)
abbrev b21 := bt5
def bwm {ρ : Type} (f : bt5 → Option ρ) : bsm ρ := fun d a b c => f (d, a, b, c)
def bre {ρ : Type} : adp bt5 b21 ρ := fun (d, a, b, c) next ex => agw d a b c (bwm next) (bwm ex)
def byz {ρ : Type} := shut (lp (bre (ρ := ρ)))
theorem b6w {ρ : Type} : byz (ρ := ρ) = lp bre := bn _
def brd {ρ : Type} (f : adr bt5 b21 ρ) (d : Int) (a b c : List Int) (e : bsm ρ) : Option ρ := f (d, a, b, c) (fun (d, a, b, c) => e d a b c)
def agu {ρ : Type} := brd (lp (bre (ρ := ρ)))
def aqe {ρ : Type} := brd (byz (ρ := ρ))
theorem af9 {ρ : Type} : aqe (ρ := ρ) = agu := congrArg brd b6w
abbrev zc40 (ρ : Type) := Int → (List Int) → (List Int) → (List Int) → Option ρ
def agt {ρ : Type} (a : Int) (b d c : List Int) (nx e : bsm ρ) : Option ρ := br (decide (a < 25)) (br (decide (0 ≤ a)) (br (decide (a < (↑25 : Int))) (br (decide (0 ≤ (IntKind.i64.wrap (a + 4)).tmod 5)) (br (decide ((IntKind.i64.wrap (a + 4)).tmod 5 < (↑5 : Int))) (br (decide (0 ≤ (IntKind.i64.wrap (a + 1)).tmod 5)) (br (decide ((IntKind.i64.wrap (a + 1)).tmod 5 < (↑5 : Int))) (ad5 (b.getD ((IntKind.i64.wrap (a + 1)).tmod 5).toNat 0) 1 fun f => br (decide (0 ≤ a)) (br (decide (a < (↑25 : Int))) (nx (IntKind.i64.wrap (a + 1)) b d (c.set a.toNat (bits BinOp.xor IntKind.u64 (bits BinOp.xor IntKind.u64 (c.getD a.toNat 0) (b.getD ((IntKind.i64.wrap (a + 4)).tmod 5).toNat 0)) f))) none) none) none) none) none) none) none) none) (e a b d c)
abbrev bum := Int × (List Int) × (List Int) × (List Int)
abbrev by0 := bum
def buh {ρ : Type} (f : bum → Option ρ) : zc40 ρ := fun d a b c => f (d, a, b, c)
def bra {ρ : Type} : adp bum by0 ρ := fun (d, a, b, c) next ex => agt d a b c (buh next) (buh ex)
def b0q {ρ : Type} := shut (lp (bra (ρ := ρ)))
theorem b6t {ρ : Type} : b0q (ρ := ρ) = lp bra := bn _
def brb {ρ : Type} (f : adr bum by0 ρ) (d : Int) (a b c : List Int) (e : bsm ρ) : Option ρ := f (d, a, b, c) (fun (d, a, b, c) => e d a b c)
def agv {ρ : Type} := brb (lp (bra (ρ := ρ)))
def aq1 {ρ : Type} := brb (b0q (ρ := ρ))
theorem agc {ρ : Type} : aq1 (ρ := ρ) = agv := congrArg brb b6t
def ai7 {ρ : Type} (a : List Int) (k : (List Int) → Option ρ) : Option ρ := aqe 0 a [0, 0, 0, 0, 0, 0, 0, 0, 0, 0, 0, 0, 0, 0, 0, 0, 0, 0, 0, 0, 0, 0, 0, 0, 0] [0, 0, 0, 0, 0] fun f b c d => aq1 0 d c b fun g h i e => k e
def ach {ρ : Type} := shut (ai7 (ρ := ρ))
theorem ap2 {ρ : Type} (a : List Int) (k : (List Int) → Option ρ) : ach a k = ai7 a k := by unfold ach; rw [bn]

abbrev byw (ρ : Type) := Int → Int → (List Int) → (List Int) → (List Int) → (List Int) → Option ρ
def anx {ρ : Type} (f a : Int) (c d e b : List Int) (nx g : byw ρ) : Option ρ := br (decide (a < 25)) (br (decide (0 ≤ a)) (br (decide (a < (↑25 : Int))) (br (decide (0 ≤ IntKind.i64.wrap (IntKind.i64.wrap (IntKind.i64.wrap (a.tdiv 5) * 5) + (IntKind.i64.wrap (a + 1)).tmod 5))) (br (decide (IntKind.i64.wrap (IntKind.i64.wrap (IntKind.i64.wrap (a.tdiv 5) * 5) + (IntKind.i64.wrap (a + 1)).tmod 5) < (↑25 : Int))) (br (decide (0 ≤ IntKind.i64.wrap (IntKind.i64.wrap (IntKind.i64.wrap (a.tdiv 5) * 5) + (IntKind.i64.wrap (a + 2)).tmod 5))) (br (decide (IntKind.i64.wrap (IntKind.i64.wrap (IntKind.i64.wrap (a.tdiv 5) * 5) + (IntKind.i64.wrap (a + 2)).tmod 5) < (↑25 : Int))) (br (decide (0 ≤ a)) (br (decide (a < (↑25 : Int))) (nx f (IntKind.i64.wrap (a + 1)) c d (e.set a.toNat (bits BinOp.xor IntKind.u64 (b.getD a.toNat 0) (bits BinOp.and IntKind.u64 (bits BinOp.xor IntKind.u64 (b.getD (IntKind.i64.wrap (IntKind.i64.wrap (IntKind.i64.wrap (a.tdiv 5) * 5) + (IntKind.i64.wrap (a + 1)).tmod 5)).toNat 0) 18446744073709551615) (b.getD (IntKind.i64.wrap (IntKind.i64.wrap (IntKind.i64.wrap (a.tdiv 5) * 5) + (IntKind.i64.wrap (a + 2)).tmod 5)).toNat 0)))) b) none) none) none) none) none) none) none) none) (g f a c d e b)
abbrev bts := Int × Int × (List Int) × (List Int) × (List Int) × (List Int)
abbrev b3h := bts
def bzs {ρ : Type} (f : bts → Option ρ) : byw ρ := fun e g a b c d => f (e, g, a, b, c, d)
def bsr {ρ : Type} : adp bts b3h ρ := fun (e, f, a, b, c, d) next ex => anx e f a b c d (bzs next) (bzs ex)
def b3e {ρ : Type} := shut (lp (bsr (ρ := ρ)))
theorem b6i {ρ : Type} : b3e (ρ := ρ) = lp bsr := bn _
def bxb {ρ : Type} (f : adr bts b3h ρ) (e g : Int) (a b c d : List Int) (h : byw ρ) : Option ρ := f (e, g, a, b, c, d) (fun (e, g, a, b, c, d) => h e g a b c d)
def an6 {ρ : Type} := bxb (lp (bsr (ρ := ρ)))
def ai0 {ρ : Type} := bxb (b3e (ρ := ρ))
theorem arw {ρ : Type} : ai0 (ρ := ρ) = an6 := congrArg bxb b6i
abbrev b2w (ρ : Type) := Int → (List Int) → (List Int) → (List Int) → Option ρ
def ajc {ρ : Type} (e : Int) (a b c : List Int) (nx h : b2w ρ) : Option ρ := br (decide (e < 24)) (ach a fun i => ag2 i fun j => ai0 e 0 c b a j fun d l f k g m => br (decide (0 ≤ d)) (br (decide (d < (↑24 : Int))) (nx (IntKind.i64.wrap (d + 1)) (g.set 0 (bits BinOp.xor IntKind.u64 (g.getD 0 0) (f.getD d.toNat 0))) k f) none) none) (h e a b c)
abbrev bvz := Int × (List Int) × (List Int) × (List Int)
abbrev bzc := bvz
def b1w {ρ : Type} (f : bvz → Option ρ) : b2w ρ := fun d a b c => f (d, a, b, c)
def bus {ρ : Type} : adp bvz bzc ρ := fun (d, a, b, c) next ex => ajc d a b c (b1w next) (b1w ex)
def bzw {ρ : Type} := shut (lp (bus (ρ := ρ)))
theorem b6r {ρ : Type} : bzw (ρ := ρ) = lp bus := bn _
def bx6 {ρ : Type} (f : adr bvz bzc ρ) (d : Int) (a b c : List Int) (e : b2w ρ) : Option ρ := f (d, a, b, c) (fun (d, a, b, c) => e d a b c)
def anu {ρ : Type} := bx6 (lp (bus (ρ := ρ)))
def anp {ρ : Type} := bx6 (bzw (ρ := ρ))
theorem ar9 {ρ : Type} : anp (ρ := ρ) = anu := congrArg bx6 b6r
def ahd {ρ : Type} (a : List Int) (k : (List Int) → Option ρ) : Option ρ := xu fun b => anp 0 a [0, 0, 0, 0, 0, 0, 0, 0, 0, 0, 0, 0, 0, 0, 0, 0, 0, 0, 0, 0, 0, 0, 0, 0, 0] b fun d c e f => k c
def nu {ρ : Type} := shut (ahd (ρ := ρ))
theorem an0 {ρ : Type} (a : List Int) (k : (List Int) → Option ρ) : nu a k = ahd a k := by unfold nu; rw [bn]

def aof {ρ : Type} (b : List Int) (a c : Int) (k : (List Int) → Option ρ) : Option ρ := br (decide (0 ≤ IntKind.i64.wrap (a.tdiv 8))) (br (decide (IntKind.i64.wrap (a.tdiv 8) < (↑25 : Int))) (br (decide (IntKind.i64.wrap (8 * a.tmod 8) < 0)) none (br (decide (0 ≤ IntKind.i64.wrap (a.tdiv 8))) (br (decide (IntKind.i64.wrap (a.tdiv 8) < (↑25 : Int))) (k (b.set (IntKind.i64.wrap (a.tdiv 8)).toNat (bits BinOp.xor IntKind.u64 (b.getD (IntKind.i64.wrap (a.tdiv 8)).toNat 0) (IntKind.u64.wrap (IntKind.u64.wrap c * 2 ^ min (IntKind.i64.wrap (8 * a.tmod 8)).toNat 64))))) none) none)) none) none
def yx {ρ : Type} := shut (aof (ρ := ρ))
theorem ax3 {ρ : Type} (a : List Int) (b : Int) (c : Int) (k : (List Int) → Option ρ) : yx a b c k = aof a b c k := by unfold yx; rw [bn]

end P
end
