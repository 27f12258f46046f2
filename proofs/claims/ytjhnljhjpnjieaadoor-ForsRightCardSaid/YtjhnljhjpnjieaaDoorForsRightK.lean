/-
  ForsRight, part 11: an interpreter of my own over abstract values, the pure functions, the walks and the plain law.
-/

import Derived.Test.YtjhnljhjpnjieaaDoorForsRightG
import Derived.Test.YtjhnljhjpnjieaaDoorForsRightI
import Derived.Test.YtjhnljhjpnjieaaDoorForsRightJ

noncomputable section
open Go Go.Abs
set_option linter.unusedVariables false
namespace P

abbrev zc8 (ρ : Type) := Int → (List Int) → (List Int) → (List Int) → Option ρ
def afc {ρ : Type} (a : Int) (c b d : List Int) (nx e : zc8 ρ) : Option ρ := br (decide (a < 5)) (br (decide (0 ≤ a)) (br (decide (a < (↑25 : Int))) (br (decide (0 ≤ IntKind.i64.wrap (a + 5))) (br (decide (IntKind.i64.wrap (a + 5) < (↑25 : Int))) (br (decide (0 ≤ IntKind.i64.wrap (a + 10))) (br (decide (IntKind.i64.wrap (a + 10) < (↑25 : Int))) (br (decide (0 ≤ IntKind.i64.wrap (a + 15))) (br (decide (IntKind.i64.wrap (a + 15) < (↑25 : Int))) (br (decide (0 ≤ IntKind.i64.wrap (a + 20))) (br (decide (IntKind.i64.wrap (a + 20) < (↑25 : Int))) (br (decide (0 ≤ a)) (br (decide (a < (↑5 : Int))) (nx (IntKind.i64.wrap (a + 1)) c b (d.set a.toNat (bits BinOp.xor IntKind.u64 (bits BinOp.xor IntKind.u64 (bits BinOp.xor IntKind.u64 (bits BinOp.xor IntKind.u64 (b.getD a.toNat 0) (b.getD (IntKind.i64.wrap (a + 5)).toNat 0)) (b.getD (IntKind.i64.wrap (a + 10)).toNat 0)) (b.getD (IntKind.i64.wrap (a + 15)).toNat 0)) (b.getD (IntKind.i64.wrap (a + 20)).toNat 0)))) none) none) none) none) none) none) none) none) none) none) none) none) (e a c b d)
abbrev zt8 := Int × (List Int) × (List Int) × (List Int)
abbrev zy8 := zt8
def zu8 {ρ : Type} (f : zt8 → Option ρ) : zc8 ρ := fun d a b c => f (d, a, b, c)
def zs8 {ρ : Type} : ahx zt8 zy8 ρ := fun (d, a, b, c) next ex => afc d a b c (zu8 next) (zu8 ex)
def zm8 {ρ : Type} := shut (lp (zs8 (ρ := ρ)))
theorem ze8 {ρ : Type} : zm8 (ρ := ρ) = lp zs8 := dh _
def zk8 {ρ : Type} (f : ahy zt8 zy8 ρ) (d : Int) (a b c : List Int) (e : zc8 ρ) : Option ρ := f (d, a, b, c) (fun (d, a, b, c) => e d a b c)
def ae0 {ρ : Type} := zk8 (lp (zs8 (ρ := ρ)))
def abv {ρ : Type} := zk8 (zm8 (ρ := ρ))
theorem ah0 {ρ : Type} : abv (ρ := ρ) = ae0 := congrArg zk8 ze8
abbrev zc9 (ρ : Type) := Int → Int → Int → Int → Int → (List Int) → (List Int) → (List Int) → (List Int) → Option ρ
def zh {ρ : Type} (i b h a g : Int) (d e f c : List Int) (nx j : zc9 ρ) : Option ρ := br (decide (a < 25)) (br (decide (0 ≤ IntKind.i64.wrap (b + a))) (br (decide (IntKind.i64.wrap (b + a) < (↑25 : Int))) (br (decide (0 ≤ IntKind.i64.wrap (b + a))) (br (decide (IntKind.i64.wrap (b + a) < (↑25 : Int))) (nx i b h (IntKind.i64.wrap (a + 5)) g d e f (c.set (IntKind.i64.wrap (b + a)).toNat (bits BinOp.xor IntKind.u64 (c.getD (IntKind.i64.wrap (b + a)).toNat 0) h))) none) none) none) none) (j i b h a g d e f c)
abbrev zt9 := Int × Int × Int × Int × Int × (List Int) × (List Int) × (List Int) × (List Int)
abbrev zy9 := zt9
def zu9 {ρ : Type} (f : zt9 → Option ρ) : zc9 ρ := fun g h i j e a b c d => f (g, h, i, j, e, a, b, c, d)
def zs9 {ρ : Type} : ahx zt9 zy9 ρ := fun (f, g, h, i, e, a, b, c, d) next ex => zh f g h i e a b c d (zu9 next) (zu9 ex)
def zm9 {ρ : Type} := shut (lp (zs9 (ρ := ρ)))
theorem ze9 {ρ : Type} : zm9 (ρ := ρ) = lp zs9 := dh _
def zk9 {ρ : Type} (f : ahy zt9 zy9 ρ) (g h i j e : Int) (a b c d : List Int) (k : zc9 ρ) : Option ρ := f (g, h, i, j, e, a, b, c, d) (fun (g, h, i, j, e, a, b, c, d) => k g h i j e a b c d)
def zf {ρ : Type} := zk9 (lp (zs9 (ρ := ρ)))
def afb {ρ : Type} := zk9 (zm9 (ρ := ρ))
theorem aac {ρ : Type} : afb (ρ := ρ) = zf := congrArg zk9 ze9
abbrev bkn (ρ : Type) := Int → Int → (List Int) → (List Int) → (List Int) → (List Int) → Option ρ
def ae7 {ρ : Type} (f a : Int) (c d e b : List Int) (nx g : bkn ρ) : Option ρ := br (decide (a < 5)) (br (decide (0 ≤ (IntKind.i64.wrap (a + 4)).tmod 5)) (br (decide ((IntKind.i64.wrap (a + 4)).tmod 5 < (↑5 : Int))) (br (decide (0 ≤ (IntKind.i64.wrap (a + 1)).tmod 5)) (br (decide ((IntKind.i64.wrap (a + 1)).tmod 5 < (↑5 : Int))) (fq (b.getD ((IntKind.i64.wrap (a + 1)).tmod 5).toNat 0) 1 fun h => afb f a (bits BinOp.xor IntKind.u64 (b.getD ((IntKind.i64.wrap (a + 4)).tmod 5).toNat 0) h) 0 a b e d c fun i o p q j k l m n => nx i (IntKind.i64.wrap (j + 1)) n m l k) none) none) none) none) (g f a c d e b)
abbrev bjo := Int × Int × (List Int) × (List Int) × (List Int) × (List Int)
abbrev bo1 := bjo
def bq7 {ρ : Type} (f : bjo → Option ρ) : bkn ρ := fun g e a b c d => f (g, e, a, b, c, d)
def bi6 {ρ : Type} : ahx bjo bo1 ρ := fun (f, e, a, b, c, d) next ex => ae7 f e a b c d (bq7 next) (bq7 ex)
def boz {ρ : Type} := shut (lp (bi6 (ρ := ρ)))
theorem br3 {ρ : Type} : boz (ρ := ρ) = lp bi6 := dh _
def bl5 {ρ : Type} (f : ahy bjo bo1 ρ) (g e : Int) (a b c d : List Int) (h : bkn ρ) : Option ρ := f (g, e, a, b, c, d) (fun (g, e, a, b, c, d) => h g e a b c d)
def ae4 {ρ : Type} := bl5 (lp (bi6 (ρ := ρ)))
def abt {ρ : Type} := bl5 (boz (ρ := ρ))
theorem ah1 {ρ : Type} : abt (ρ := ρ) = ae4 := congrArg bl5 br3
abbrev bn4 (ρ : Type) := Int → Int → (List Int) → Int → (List Int) → (List Int) → (List Int) → (List Int) → Option ρ
def ael {ρ : Type} (g h : Int) (b : List Int) (a : Int) (d e f c : List Int) (nx i : bn4 ρ) : Option ρ := br (decide (a < 24)) (br (decide (0 ≤ a)) (br (decide (a < (↑24 : Int))) (br (decide (0 ≤ a)) (br (decide (a < (↑24 : Int))) (fq h (bmb.getD a.toNat 0) fun j => br (decide (0 ≤ b.getD a.toNat 0)) (br (decide (b.getD a.toNat 0 < (↑25 : Int))) (br (decide (0 ≤ b.getD a.toNat 0)) (br (decide (b.getD a.toNat 0 < (↑25 : Int))) (nx g (c.getD (b.getD a.toNat 0).toNat 0) b (IntKind.i64.wrap (a + 1)) d e f (c.set (b.getD a.toNat 0).toNat j)) none) none) none) none) none) none) none) none) (i g h b a d e f c)
abbrev bj2 := Int × Int × (List Int) × Int × (List Int) × (List Int) × (List Int) × (List Int)
abbrev bq9 := bj2
def bqj {ρ : Type} (f : bj2 → Option ρ) : bn4 ρ := fun h i e g a b c d => f (h, i, e, g, a, b, c, d)
def bks {ρ : Type} : ahx bj2 bq9 ρ := fun (g, h, e, f, a, b, c, d) next ex => ael g h e f a b c d (bqj next) (bqj ex)
def bp6 {ρ : Type} := shut (lp (bks (ρ := ρ)))
theorem brr {ρ : Type} : bp6 (ρ := ρ) = lp bks := dh _
def bmj {ρ : Type} (f : ahy bj2 bq9 ρ) (h i : Int) (e : List Int) (g : Int) (a b c d : List Int) (j : bn4 ρ) : Option ρ := f (h, i, e, g, a, b, c, d) (fun (h, i, e, g, a, b, c, d) => j h i e g a b c d)
def aen {ρ : Type} := bmj (lp (bks (ρ := ρ)))
def abo {ρ : Type} := bmj (bp6 (ρ := ρ))
theorem ag6 {ρ : Type} : abo (ρ := ρ) = aen := congrArg bmj brr
abbrev bqd (ρ : Type) := Int → Int → Int → (List Int) → (List Int) → (List Int) → (List Int) → (List Int) → Option ρ
def yc {ρ : Type} (h c a : Int) (d e f g b : List Int) (nx i : bqd ρ) : Option ρ := br (decide (a < 5)) (br (decide (0 ≤ a)) (br (decide (a < (↑5 : Int))) (br (decide (0 ≤ (IntKind.i64.wrap (a + 2)).tmod 5)) (br (decide ((IntKind.i64.wrap (a + 2)).tmod 5 < (↑5 : Int))) (br (decide (0 ≤ (IntKind.i64.wrap (a + 1)).tmod 5)) (br (decide ((IntKind.i64.wrap (a + 1)).tmod 5 < (↑5 : Int))) (br (decide (0 ≤ IntKind.i64.wrap (c + a))) (br (decide (IntKind.i64.wrap (c + a) < (↑25 : Int))) (nx h c (IntKind.i64.wrap (a + 1)) d e f (g.set (IntKind.i64.wrap (c + a)).toNat (bits BinOp.xor IntKind.u64 (b.getD a.toNat 0) (bits BinOp.andNot IntKind.u64 (b.getD ((IntKind.i64.wrap (a + 2)).tmod 5).toNat 0) (b.getD ((IntKind.i64.wrap (a + 1)).tmod 5).toNat 0)))) b) none) none) none) none) none) none) none) none) (i h c a d e f g b)
abbrev bke := Int × Int × Int × (List Int) × (List Int) × (List Int) × (List Int) × (List Int)
abbrev bo6 := bke
def bka {ρ : Type} (f : bke → Option ρ) : bqd ρ := fun i g h a b c d e => f (i, g, h, a, b, c, d, e)
def zs12 {ρ : Type} : ahx bke bo6 ρ := fun (h, f, g, a, b, c, d, e) next ex => yc h f g a b c d e (bka next) (bka ex)
def bnc {ρ : Type} := shut (lp (zs12 (ρ := ρ)))
theorem bso {ρ : Type} : bnc (ρ := ρ) = lp zs12 := dh _
def bic {ρ : Type} (f : ahy bke bo6 ρ) (i g h : Int) (a b c d e : List Int) (j : bqd ρ) : Option ρ := f (i, g, h, a, b, c, d, e) (fun (i, g, h, a, b, c, d, e) => j i g h a b c d e)
def x9 {ρ : Type} := bic (lp (zs12 (ρ := ρ)))
def aei {ρ : Type} := bic (bnc (ρ := ρ))
theorem y9 {ρ : Type} : aei (ρ := ρ) = x9 := congrArg bic bso
abbrev zc13 (ρ : Type) := Int → Int → (List Int) → (List Int) → (List Int) → (List Int) → Option ρ
def aek {ρ : Type} (f a : Int) (b c d e : List Int) (nx g : bkn ρ) : Option ρ := br (decide (a < 25)) (br (decide (0 ≤ a)) (br (decide (a ≤ IntKind.i64.wrap (a + 5))) (br (decide (IntKind.i64.wrap (a + 5) ≤ (↑25 : Int))) (br (decide (5 ≤ (IntKind.i64.wrap (a + 5) - a).toNat)) (br (decide (a.toNat + 5 ≤ 25)) (aei f a 0 e d c b (List.take 5 (List.drop a.toNat b)) fun h i n j k l m o => nx h (IntKind.i64.wrap (i + 5)) m l k j) none) none) none) none) none) (g f a b c d e)
abbrev bl0 := Int × Int × (List Int) × (List Int) × (List Int) × (List Int)
abbrev bp3 := bl0
def bok {ρ : Type} (f : bl0 → Option ρ) : zc13 ρ := fun g e a b c d => f (g, e, a, b, c, d)
def bld {ρ : Type} : ahx bl0 bp3 ρ := fun (f, e, a, b, c, d) next ex => aek f e a b c d (bok next) (bok ex)
def bqy {ρ : Type} := shut (lp (bld (ρ := ρ)))
theorem br9 {ρ : Type} : bqy (ρ := ρ) = lp bld := dh _
def bmv {ρ : Type} (f : ahy bl0 bp3 ρ) (g e : Int) (a b c d : List Int) (h : bkn ρ) : Option ρ := f (g, e, a, b, c, d) (fun (g, e, a, b, c, d) => h g e a b c d)
def aeh {ρ : Type} := bmv (lp (bld (ρ := ρ)))
def abn {ρ : Type} := bmv (bqy (ρ := ρ))
theorem ahi {ρ : Type} : abn (ρ := ρ) = aeh := congrArg bmv br9
abbrev bo4 (ρ : Type) := (List Int) → Int → (List Int) → (List Int) → Option ρ
def ade {ρ : Type} (e : List Int) (a : Int) (b c : List Int) (nx o : bo4 ρ) : Option ρ := br (decide (a < 24)) (br (decide (0 ≤ a)) (br (decide (a < (↑24 : Int))) (abv 0 c b [0, 0, 0, 0, 0] fun C p q f => abt (e.getD a.toNat 0) 0 q p f f fun r F g s t u => abo r (g.getD 1 0) bid 0 u t s g fun h v w y i j k l => abn h 0 l k j i fun m z d n A B => nx e (IntKind.i64.wrap (a + 1)) (d.set 0 (bits BinOp.xor IntKind.u64 (d.getD 0 0) m)) n) none) none) (o e a b c)
abbrev bkm := (List Int) × Int × (List Int) × (List Int)
abbrev bpa := bkm
def bpe {ρ : Type} (f : bkm → Option ρ) : bo4 ρ := fun c d a b => f (c, d, a, b)
def bjf {ρ : Type} : ahx bkm bpa ρ := fun (c, d, a, b) next ex => ade c d a b (bpe next) (bpe ex)
def bnn {ρ : Type} := shut (lp (bjf (ρ := ρ)))
theorem bsg {ρ : Type} : bnn (ρ := ρ) = lp bjf := dh _
def bmi {ρ : Type} (f : ahy bkm bpa ρ) (c : List Int) (d : Int) (a b : List Int) (e : bo4 ρ) : Option ρ := f (c, d, a, b) (fun (c, d, a, b) => e c d a b)
def ags {ρ : Type} := bmi (lp (bjf (ρ := ρ)))
def agn {ρ : Type} := bmi (bnn (ρ := ρ))
theorem ajg {ρ : Type} : agn (ρ := ρ) = ags := congrArg bmi bsg
def ab7 {ρ : Type} (a : List Int) (k : (List Int) → Option ρ) : Option ρ := agn bcl 0 a [0, 0, 0, 0, 0, 0, 0, 0, 0, 0, 0, 0, 0, 0, 0, 0, 0, 0, 0, 0, 0, 0, 0, 0, 0] fun c d b e => k b
def d9 {ρ : Type} := shut (ab7 (ρ := ρ))
theorem agq {ρ : Type} (a : List Int) (k : (List Int) → Option ρ) : d9 a k = ab7 a k := by unfold d9; rw [dh]

abbrev bql (ρ : Type) := (List Int) → Int → Int → Int → Int → (List Int) → Int → Bool → Int → (List Int) → Int → Bool → Option ρ
def ad9 {ρ : Type} (k : List Int) (l j b d : Int) (c : List Int) (a : Int) (e : Bool) (f : Int) (g : List Int) (h : Int) (i : Bool) (nx m : bql ρ) : Option ρ := br (decide (b < j)) (br (decide (0 ≤ b)) (br (decide (b < (↑k.length : Int))) (br (decide (0 ≤ IntKind.i64.wrap (a.tdiv 8))) (br (decide (IntKind.i64.wrap (a.tdiv 8) < (↑25 : Int))) (br (decide (IntKind.i64.wrap (8 * a.tmod 8) < 0)) none (br (decide (0 ≤ IntKind.i64.wrap (a.tdiv 8))) (br (decide (IntKind.i64.wrap (a.tdiv 8) < (↑25 : Int))) (br (IntKind.i64.wrap (a + 1) == l) (d9 (c.set (IntKind.i64.wrap (a.tdiv 8)).toNat (bits BinOp.xor IntKind.u64 (c.getD (IntKind.i64.wrap (a.tdiv 8)).toNat 0) (IntKind.u64.wrap (IntKind.u64.wrap (k.getD b.toNat 0) * 2 ^ min (IntKind.i64.wrap (8 * a.tmod 8)).toNat 64)))) fun n => nx k l j (IntKind.i64.wrap (b + 1)) d n 0 e f g h i) (nx k l j (IntKind.i64.wrap (b + 1)) d (c.set (IntKind.i64.wrap (a.tdiv 8)).toNat (bits BinOp.xor IntKind.u64 (c.getD (IntKind.i64.wrap (a.tdiv 8)).toNat 0) (IntKind.u64.wrap (IntKind.u64.wrap (k.getD b.toNat 0) * 2 ^ min (IntKind.i64.wrap (8 * a.tmod 8)).toNat 64)))) (IntKind.i64.wrap (a + 1)) e f g h i)) none) none)) none) none) none) none) (m k l j b d c a e f g h i)
abbrev bkw := (List Int) × Int × Int × Int × Int × (List Int) × Int × Bool × Int × (List Int) × Int × Bool
abbrev bpq := bkw
def bov {ρ : Type} (f : bkw → Option ρ) : bql ρ := fun l m j k a b c d e g h i => f (l, m, j, k, a, b, c, d, e, g, h, i)
def bly {ρ : Type} : ahx bkw bpq ρ := fun (k, l, i, j, a, b, c, d, e, f, g, h) next ex => ad9 k l i j a b c d e f g h (bov next) (bov ex)
def bqq {ρ : Type} := shut (lp (bly (ρ := ρ)))
theorem brj {ρ : Type} : bqq (ρ := ρ) = lp bly := dh _
def bl7 {ρ : Type} (f : ahy bkw bpq ρ) (l : List Int) (m j k a : Int) (b : List Int) (c : Int) (d : Bool) (e : Int) (g : List Int) (h : Int) (i : Bool) (n : bql ρ) : Option ρ := f (l, m, j, k, a, b, c, d, e, g, h, i) (fun (l, m, j, k, a, b, c, d, e, g, h, i) => n l m j k a b c d e g h i)
def ahr {ρ : Type} := bl7 (lp (bly (ρ := ρ)))
def ahp {ρ : Type} := bl7 (bqq (ρ := ρ))
theorem akg {ρ : Type} : ahp (ρ := ρ) = ahr := congrArg bl7 brj
def ac6 {ρ : Type} (a : Int) (b : List Int) (d : Int) (c : Bool) (e : List Int) (k : Int → (List Int) → Int → Bool → Option ρ) : Option ρ := br c (k a b d c) (ko a fun f => ahp e f (↑e.length : Int) 0 a b d c 0 [0, 0, 0, 0, 0, 0, 0, 0, 0, 0, 0, 0, 0, 0, 0, 0, 0, 0, 0, 0, 0, 0, 0, 0, 0] 0 false fun o p q r g h i j s l m n => k g h i j)
def nk {ρ : Type} := shut (ac6 (ρ := ρ))
theorem ahv {ρ : Type} (b : Int) (a : List Int) (d : Int) (c : Bool) (e : List Int) (k : Int → (List Int) → Int → Bool → Option ρ) : nk b a d c e k = ac6 b a d c e k := by unfold nk; rw [dh]

def ada {ρ : Type} (c : Int) (b : List Int) (a : Int) (g : Bool) (k : Int → (List Int) → Int → Bool → Option ρ) : Option ρ := br (c == 4) (br (decide (0 ≤ IntKind.i64.wrap (a.tdiv 8))) (br (decide (IntKind.i64.wrap (a.tdiv 8) < (↑25 : Int))) (br (decide (IntKind.i64.wrap (8 * a.tmod 8) < 0)) none (br (decide (0 ≤ IntKind.i64.wrap (a.tdiv 8))) (br (decide (IntKind.i64.wrap (a.tdiv 8) < (↑25 : Int))) (ko c fun d => br (decide (0 ≤ IntKind.i64.wrap ((IntKind.i64.wrap (d - 1)).tdiv 8))) (br (decide (IntKind.i64.wrap ((IntKind.i64.wrap (d - 1)).tdiv 8) < (↑25 : Int))) (br (decide (IntKind.i64.wrap (8 * (IntKind.i64.wrap (d - 1)).tmod 8) < 0)) none (br (decide (0 ≤ IntKind.i64.wrap ((IntKind.i64.wrap (d - 1)).tdiv 8))) (br (decide (IntKind.i64.wrap ((IntKind.i64.wrap (d - 1)).tdiv 8) < (↑25 : Int))) (d9 ((b.set (IntKind.i64.wrap (a.tdiv 8)).toNat (bits BinOp.xor IntKind.u64 (b.getD (IntKind.i64.wrap (a.tdiv 8)).toNat 0) (IntKind.u64.wrap (IntKind.u64.wrap 6 * 2 ^ min (IntKind.i64.wrap (8 * a.tmod 8)).toNat 64)))).set (IntKind.i64.wrap ((IntKind.i64.wrap (d - 1)).tdiv 8)).toNat (bits BinOp.xor IntKind.u64 ((b.set (IntKind.i64.wrap (a.tdiv 8)).toNat (bits BinOp.xor IntKind.u64 (b.getD (IntKind.i64.wrap (a.tdiv 8)).toNat 0) (IntKind.u64.wrap (IntKind.u64.wrap 6 * 2 ^ min (IntKind.i64.wrap (8 * a.tmod 8)).toNat 64)))).getD (IntKind.i64.wrap ((IntKind.i64.wrap (d - 1)).tdiv 8)).toNat 0) (IntKind.u64.wrap (IntKind.u64.wrap 128 * 2 ^ min (IntKind.i64.wrap (8 * (IntKind.i64.wrap (d - 1)).tmod 8)).toNat 64)))) fun h => k c h 0 true) none) none)) none) none) none) none)) none) none) (br (c == 5) (br (decide (0 ≤ IntKind.i64.wrap (a.tdiv 8))) (br (decide (IntKind.i64.wrap (a.tdiv 8) < (↑25 : Int))) (br (decide (IntKind.i64.wrap (8 * a.tmod 8) < 0)) none (br (decide (0 ≤ IntKind.i64.wrap (a.tdiv 8))) (br (decide (IntKind.i64.wrap (a.tdiv 8) < (↑25 : Int))) (ko c fun e => br (decide (0 ≤ IntKind.i64.wrap ((IntKind.i64.wrap (e - 1)).tdiv 8))) (br (decide (IntKind.i64.wrap ((IntKind.i64.wrap (e - 1)).tdiv 8) < (↑25 : Int))) (br (decide (IntKind.i64.wrap (8 * (IntKind.i64.wrap (e - 1)).tmod 8) < 0)) none (br (decide (0 ≤ IntKind.i64.wrap ((IntKind.i64.wrap (e - 1)).tdiv 8))) (br (decide (IntKind.i64.wrap ((IntKind.i64.wrap (e - 1)).tdiv 8) < (↑25 : Int))) (d9 ((b.set (IntKind.i64.wrap (a.tdiv 8)).toNat (bits BinOp.xor IntKind.u64 (b.getD (IntKind.i64.wrap (a.tdiv 8)).toNat 0) (IntKind.u64.wrap (IntKind.u64.wrap 6 * 2 ^ min (IntKind.i64.wrap (8 * a.tmod 8)).toNat 64)))).set (IntKind.i64.wrap ((IntKind.i64.wrap (e - 1)).tdiv 8)).toNat (bits BinOp.xor IntKind.u64 ((b.set (IntKind.i64.wrap (a.tdiv 8)).toNat (bits BinOp.xor IntKind.u64 (b.getD (IntKind.i64.wrap (a.tdiv 8)).toNat 0) (IntKind.u64.wrap (IntKind.u64.wrap 6 * 2 ^ min (IntKind.i64.wrap (8 * a.tmod 8)).toNat 64)))).getD (IntKind.i64.wrap ((IntKind.i64.wrap (e - 1)).tdiv 8)).toNat 0) (IntKind.u64.wrap (IntKind.u64.wrap 128 * 2 ^ min (IntKind.i64.wrap (8 * (IntKind.i64.wrap (e - 1)).tmod 8)).toNat 64)))) fun i => k c i 0 true) none) none)) none) none) none) none)) none) none) (br (decide (0 ≤ IntKind.i64.wrap (a.tdiv 8))) (br (decide (IntKind.i64.wrap (a.tdiv 8) < (↑25 : Int))) (br (decide (IntKind.i64.wrap (8 * a.tmod 8) < 0)) none (br (decide (0 ≤ IntKind.i64.wrap (a.tdiv 8))) (br (decide (IntKind.i64.wrap (a.tdiv 8) < (↑25 : Int))) (ko c fun f => br (decide (0 ≤ IntKind.i64.wrap ((IntKind.i64.wrap (f - 1)).tdiv 8))) (br (decide (IntKind.i64.wrap ((IntKind.i64.wrap (f - 1)).tdiv 8) < (↑25 : Int))) (br (decide (IntKind.i64.wrap (8 * (IntKind.i64.wrap (f - 1)).tmod 8) < 0)) none (br (decide (0 ≤ IntKind.i64.wrap ((IntKind.i64.wrap (f - 1)).tdiv 8))) (br (decide (IntKind.i64.wrap ((IntKind.i64.wrap (f - 1)).tdiv 8) < (↑25 : Int))) (d9 ((b.set (IntKind.i64.wrap (a.tdiv 8)).toNat (bits BinOp.xor IntKind.u64 (b.getD (IntKind.i64.wrap (a.tdiv 8)).toNat 0) (IntKind.u64.wrap (IntKind.u64.wrap 31 * 2 ^ min (IntKind.i64.wrap (8 * a.tmod 8)).toNat 64)))).set (IntKind.i64.wrap ((IntKind.i64.wrap (f - 1)).tdiv 8)).toNat (bits BinOp.xor IntKind.u64 ((b.set (IntKind.i64.wrap (a.tdiv 8)).toNat (bits BinOp.xor IntKind.u64 (b.getD (IntKind.i64.wrap (a.tdiv 8)).toNat 0) (IntKind.u64.wrap (IntKind.u64.wrap 31 * 2 ^ min (IntKind.i64.wrap (8 * a.tmod 8)).toNat 64)))).getD (IntKind.i64.wrap ((IntKind.i64.wrap (f - 1)).tdiv 8)).toNat 0) (IntKind.u64.wrap (IntKind.u64.wrap 128 * 2 ^ min (IntKind.i64.wrap (8 * (IntKind.i64.wrap (f - 1)).tmod 8)).toNat 64)))) fun j => k c j 0 true) none) none)) none) none) none) none)) none) none))
def qo {ρ : Type} := shut (ada (ρ := ρ))
theorem ahs {ρ : Type} (b : Int) (a : List Int) (d : Int) (c : Bool) (k : Int → (List Int) → Int → Bool → Option ρ) : qo b a d c k = ada b a d c k := by unfold qo; rw [dh]

abbrev bm9 (ρ : Type) := Int → Int → Int → (List Int) → Int → Bool → Int → (List Int) → Int → Bool → (List Int) → Option ρ
def adf {ρ : Type} (j b c : Int) (d : List Int) (a : Int) (e : Bool) (f : Int) (g : List Int) (h : Int) (i : Bool) (k : List Int) (nx m : bm9 ρ) : Option ρ := br (decide (b < j)) (ko c fun n => br (a == n) (d9 d fun l => br (decide (0 ≤ b)) (br (decide (b < (↑k.length : Int))) (nx j (IntKind.i64.wrap (b + 1)) c l (IntKind.i64.wrap (0 + 1)) e f g h i (k.set b.toNat (IntKind.u8.wrap ((l.getD 0 0).fdiv (2 ^ 0))))) none) none) (br (decide (0 ≤ IntKind.i64.wrap (a.tdiv 8))) (br (decide (IntKind.i64.wrap (a.tdiv 8) < (↑25 : Int))) (br (decide (IntKind.i64.wrap (8 * a.tmod 8) < 0)) none (br (decide (0 ≤ b)) (br (decide (b < (↑k.length : Int))) (nx j (IntKind.i64.wrap (b + 1)) c d (IntKind.i64.wrap (a + 1)) e f g h i (k.set b.toNat (IntKind.u8.wrap ((d.getD (IntKind.i64.wrap (a.tdiv 8)).toNat 0).fdiv (2 ^ min (IntKind.i64.wrap (8 * a.tmod 8)).toNat 64))))) none) none)) none) none)) (m j b c d a e f g h i k)
abbrev bkr := Int × Int × Int × (List Int) × Int × Bool × Int × (List Int) × Int × Bool × (List Int)
abbrev bn0 := bkr
def boi {ρ : Type} (f : bkr → Option ρ) : bm9 ρ := fun j k a b c d e g h i l => f (j, k, a, b, c, d, e, g, h, i, l)
def bjx {ρ : Type} : ahx bkr bn0 ρ := fun (i, j, a, b, c, d, e, f, g, h, k) next ex => adf i j a b c d e f g h k (boi next) (boi ex)
def bpy {ρ : Type} := shut (lp (bjx (ρ := ρ)))
theorem br2 {ρ : Type} : bpy (ρ := ρ) = lp bjx := dh _
def bms {ρ : Type} (f : ahy bkr bn0 ρ) (j k a : Int) (b : List Int) (c : Int) (d : Bool) (e : Int) (g : List Int) (h : Int) (i : Bool) (l : List Int) (m : bm9 ρ) : Option ρ := f (j, k, a, b, c, d, e, g, h, i, l) (fun (j, k, a, b, c, d, e, g, h, i, l) => m j k a b c d e g h i l)
def ag0 {ρ : Type} := bms (lp (bjx (ρ := ρ)))
def abe {ρ : Type} := bms (bpy (ρ := ρ))
theorem ajd {ρ : Type} : abe (ρ := ρ) = ag0 := congrArg bms br2
def acd {ρ : Type} (c : Int) (a : List Int) (e : Int) (b : Bool) (d : Int) (k : Int → (List Int) → Int → Bool → (List Int) → Option ρ) : Option ρ := br (decide (d < 0)) (k c a e b []) (br (!b) (qo c a e b fun m n o p => br (decide (0 ≤ d)) (br (decide (d ≤ d)) (br (decide (d * (↑1 : Int) ≤ (↑140737488355328 : Int))) (abe (↑(List.replicate d.toNat (0 : Int)).length : Int) 0 m n o p 0 [0, 0, 0, 0, 0, 0, 0, 0, 0, 0, 0, 0, 0, 0, 0, 0, 0, 0, 0, 0, 0, 0, 0, 0, 0] 0 false (List.replicate d.toNat (0 : Int)) fun H I q r s t u v w y f => k q r s t f) none) none) none) (br (decide (0 ≤ d)) (br (decide (d ≤ d)) (br (decide (d * (↑1 : Int) ≤ (↑140737488355328 : Int))) (abe (↑(List.replicate d.toNat (0 : Int)).length : Int) 0 c a e b 0 [0, 0, 0, 0, 0, 0, 0, 0, 0, 0, 0, 0, 0, 0, 0, 0, 0, 0, 0, 0, 0, 0, 0, 0, 0] 0 false (List.replicate d.toNat (0 : Int)) fun z A g h i j B C F G l => k g h i j l) none) none) none))
def o9 {ρ : Type} := shut (acd (ρ := ρ))
theorem ag2 {ρ : Type} (b : Int) (a : List Int) (d : Int) (c : Bool) (e : Int) (k : Int → (List Int) → Int → Bool → (List Int) → Option ρ) : o9 b a d c e k = acd b a d c e k := by unfold o9; rw [dh]

def ach {ρ : Type} (e f : List Int) (b : Int) (a : List Int) (d : Int) (c : Bool) (g : Int) (k : (List Int) → Option ρ) : Option ρ := jq [List.take 32 (List.drop 0 e), f] fun h => nk b a d c h fun i j l m => o9 i j l m g fun o p q r n => k n
def lq {ρ : Type} := shut (ach (ρ := ρ))
theorem agp {ρ : Type} (e : List Int) (f : List Int) (b : Int) (a : List Int) (d : Int) (c : Bool) (g : Int) (k : (List Int) → Option ρ) : lq e f b a d c g k = ach e f b a d c g k := by unfold lq; rw [dh]

def aey {ρ : Type} (a : Int) (b : List Int) (k : Int → (List Int) → Int → Bool → Int → Option ρ) : Option ρ := ab3 7 fun c d e f l => nk c d e f b fun g h i j => k g h i j a
def aah {ρ : Type} := shut (aey (ρ := ρ))
theorem ajl {ρ : Type} (a : Int) (b : List Int) (k : Int → (List Int) → Int → Bool → Int → Option ρ) : aah a b k = aey a b k := by unfold aah; rw [dh]

def alp {ρ : Type} (a : Int) (k : (List Int) → Bool → Option ρ) : Option ρ := br (a == 1) (k [1779033703, 3144134277, 1013904242, 2773480762, 1359893119, 2600822924, 528734635, 1541459225] true) (br (a == 2) (k [14680500436340154072, 7105036623409894663, 10473403895298186519, 1526699215303891257, 7436329637833083697, 10282925794625328401, 15784041429090275239, 5167115440072839076] true) (br (a == 3) (k [7640891576956012808, 13503953896175478587, 4354685564936845355, 11912009170470909681, 5840696475078001361, 11170449401992604703, 2270897969802886507, 6620516959819538809] true) (k [0, 0, 0, 0, 0, 0, 0, 0] false)))
def ab8 {ρ : Type} := shut (alp (ρ := ρ))
theorem amz {ρ : Type} (a : Int) (k : (List Int) → Bool → Option ρ) : ab8 a k = alp a k := by unfold ab8; rw [dh]

def akb {ρ : Type} (a : Int) (k : Int → (List Int) → (List Int) → Int → Int → Option ρ) : Option ρ := ab8 a fun b c => br (!c) (k 0 [0, 0, 0, 0, 0, 0, 0, 0] [] 0 9) (k a b [] 0 0)
def aez {ρ : Type} := shut (akb (ρ := ρ))
theorem aqf {ρ : Type} (a : Int) (k : Int → (List Int) → (List Int) → Int → Int → Option ρ) : aez a k = akb a k := by unfold aez; rw [dh]

abbrev bo9 (ρ : Type) := Int → (List Int) → Int → Int → Option ρ
def akn {ρ : Type} (d : Int) (b : List Int) (c a : Int) (nx e : bo9 ρ) : Option ρ := br (decide (a < c)) (br (decide (0 ≤ a)) (br (decide (a < (↑b.length : Int))) (nx (bits BinOp.or IntKind.u64 (IntKind.u64.wrap (d * 2 ^ 8)) (IntKind.u64.wrap (b.getD a.toNat 0))) b c (IntKind.i64.wrap (a + 1))) none) none) (e d b c a)
abbrev bir := Int × (List Int) × Int × Int
abbrev bqx := bir
def bpm {ρ : Type} (f : bir → Option ρ) : bo9 ρ := fun a b c d => f (a, b, c, d)
def bjb {ρ : Type} : ahx bir bqx ρ := fun (a, b, c, d) next ex => akn a b c d (bpm next) (bpm ex)
def bqw {ρ : Type} := shut (lp (bjb (ρ := ρ)))
theorem bri {ρ : Type} : bqw (ρ := ρ) = lp bjb := dh _
def bmf {ρ : Type} (f : ahy bir bqx ρ) (a : Int) (b : List Int) (c d : Int) (e : bo9 ρ) : Option ρ := f (a, b, c, d) (fun (a, b, c, d) => e a b c d)
def aok {ρ : Type} := bmf (lp (bjb (ρ := ρ)))
def an1 {ρ : Type} := bmf (bqw (ρ := ρ))
theorem apx {ρ : Type} : an1 (ρ := ρ) = aok := congrArg bmf bri
def aif {ρ : Type} (a : List Int) (k : Int → Option ρ) : Option ρ := an1 0 a (↑a.length : Int) 0 fun b c d e => k b
def su {ρ : Type} := shut (aif (ρ := ρ))
theorem aor {ρ : Type} (a : List Int) (k : Int → Option ρ) : su a k = aif a k := by unfold su; rw [dh]

def ae9 {ρ : Type} (a : Int) (k : Int → Option ρ) : Option ρ := br (decide (0 ≤ a)) (br (decide (a < (↑64 : Int))) (k (roots256.getD a.toNat 0)) none) none
def mq {ρ : Type} := shut (ae9 (ρ := ρ))
theorem ajv {ρ : Type} (a : Int) (k : Int → Option ρ) : mq a k = ae9 a k := by unfold mq; rw [dh]

def ug {ρ : Type} (a g : Int) (b c d e : List Int) (h f : Int) (k : Int → Option ρ) : Option ρ := br (decide (f < 0)) none (br (decide (IntKind.i64.wrap (a - f) < 0)) none (k (bits BinOp.or IntKind.u32 (h.fdiv (2 ^ min f.toNat 32)) (IntKind.u32.wrap (h * 2 ^ min (IntKind.i64.wrap (a - f)).toNat 32)))))
def ay {ρ : Type} := shut (ug (ρ := ρ))
theorem aag {ρ : Type} (f : Int) (e : Int) (a : List Int) (b : List Int) (c : List Int) (d : List Int) (g : Int) (h : Int) (k : Int → Option ρ) : ay f e a b c d g h k = ug f e a b c d g h k := by unfold ay; rw [dh]

def qx {ρ : Type} (f e : Int) (a b c d : List Int) (g h : Int) (k : Int → Option ρ) : Option ρ := br (decide (h = (↑0 : Int))) (ay f e a b c d g (a.getD 0 0) fun l => ay f e a b c d g (a.getD 1 0) fun m => ay f e a b c d g (a.getD 2 0) fun n => k (bits BinOp.xor IntKind.u32 (bits BinOp.xor IntKind.u32 l m) n)) (br (decide (h = (↑1 : Int))) (ay f e a b c d g (b.getD 0 0) fun o => ay f e a b c d g (b.getD 1 0) fun p => ay f e a b c d g (b.getD 2 0) fun q => k (bits BinOp.xor IntKind.u32 (bits BinOp.xor IntKind.u32 o p) q)) (br (decide (h = (↑2 : Int))) (ay f e a b c d g (c.getD 0 0) fun r => ay f e a b c d g (c.getD 1 0) fun s => ay f e a b c d g (c.getD 2 0) fun t => k (bits BinOp.xor IntKind.u32 (bits BinOp.xor IntKind.u32 r s) t)) (br (decide (h = (↑3 : Int))) (ay f e a b c d g (d.getD 0 0) fun u => ay f e a b c d g (d.getD 1 0) fun i => ay f e a b c d g (d.getD 2 0) fun j => k (bits BinOp.xor IntKind.u32 (bits BinOp.xor IntKind.u32 u i) j)) none)))
def je {ρ : Type} := shut (qx (ρ := ρ))
theorem xq {ρ : Type} (f : Int) (e : Int) (a : List Int) (b : List Int) (c : List Int) (d : List Int) (g : Int) (h : Int) (k : Int → Option ρ) : je f e a b c d g h k = qx f e a b c d g h k := by unfold je; rw [dh]

def sj {ρ : Type} (f e : Int) (a b c d : List Int) (g h : Int) (k : Int → Option ρ) : Option ρ := br (decide (h = (↑0 : Int))) (ay f e a b c d g (a.getD 0 (0 : Int)) fun i => ay f e a b c d g (a.getD 1 (0 : Int)) fun j => br (decide (a.getD 2 (0 : Int) < (0 : Int))) none (k (bits BinOp.xor IntKind.u32 (bits BinOp.xor IntKind.u32 i j) (g.fdiv ((2 : Int) ^ min (a.getD 2 (0 : Int)).toNat 32))))) (br (decide (h = (↑1 : Int))) (ay f e a b c d g (b.getD 0 (0 : Int)) fun l => ay f e a b c d g (b.getD 1 (0 : Int)) fun m => br (decide (b.getD 2 (0 : Int) < (0 : Int))) none (k (bits BinOp.xor IntKind.u32 (bits BinOp.xor IntKind.u32 l m) (g.fdiv ((2 : Int) ^ min (b.getD 2 (0 : Int)).toNat 32))))) (br (decide (h = (↑2 : Int))) (ay f e a b c d g (c.getD 0 (0 : Int)) fun n => ay f e a b c d g (c.getD 1 (0 : Int)) fun o => br (decide (c.getD 2 (0 : Int) < (0 : Int))) none (k (bits BinOp.xor IntKind.u32 (bits BinOp.xor IntKind.u32 n o) (g.fdiv ((2 : Int) ^ min (c.getD 2 (0 : Int)).toNat 32))))) (br (decide (h = (↑3 : Int))) (ay f e a b c d g (d.getD 0 (0 : Int)) fun p => ay f e a b c d g (d.getD 1 (0 : Int)) fun q => br (decide (d.getD 2 (0 : Int) < (0 : Int))) none (k (bits BinOp.xor IntKind.u32 (bits BinOp.xor IntKind.u32 p q) (g.fdiv ((2 : Int) ^ min (d.getD 2 (0 : Int)).toNat 32))))) none)))
def jr {ρ : Type} := shut (sj (ρ := ρ))
theorem yx {ρ : Type} (f : Int) (e : Int) (a : List Int) (b : List Int) (c : List Int) (d : List Int) (g : Int) (h : Int) (k : Int → Option ρ) : jr f e a b c d g h k = sj f e a b c d g h k := by unfold jr; rw [dh]

abbrev bqi (ρ : Type) := (List Int) → Int → Int → Int → Int → (List Int) → (List Int) → (List Int) → (List Int) → (List Int) → (List Int) → (List Int) → Option ρ
def wh {ρ : Type} (l : List Int) (b a c d : Int) (e f g h i j k : List Int) (nx m : bqi ρ) : Option ρ := br (decide (a < 16)) (br (decide (0 ≤ IntKind.i64.wrap (a * b))) (br (decide (IntKind.i64.wrap (a * b) ≤ IntKind.i64.wrap (IntKind.i64.wrap (a + 1) * b))) (br (decide (IntKind.i64.wrap (IntKind.i64.wrap (a + 1) * b) ≤ (↑l.length : Int))) (su (List.drop (IntKind.i64.wrap (a * b)).toNat (List.take (IntKind.i64.wrap (IntKind.i64.wrap (a + 1) * b)).toNat l)) fun n => br (decide (0 ≤ a)) (br (decide (a < (↑16 : Int))) (nx l b (IntKind.i64.wrap (a + 1)) c d e f g h i j (k.set a.toNat (IntKind.u32.wrap n))) none) none) none) none) none) (m l b a c d e f g h i j k)
abbrev bi8 := (List Int) × Int × Int × Int × Int × (List Int) × (List Int) × (List Int) × (List Int) × (List Int) × (List Int) × (List Int)
abbrev bqk := bi8
def bo5 {ρ : Type} (f : bi8 → Option ρ) : bqi ρ := fun l m k a b c d e g h i j => f (l, m, k, a, b, c, d, e, g, h, i, j)
def blc {ρ : Type} : ahx bi8 bqk ρ := fun (k, l, j, a, b, c, d, e, f, g, h, i) next ex => wh k l j a b c d e f g h i (bo5 next) (bo5 ex)
def bm7 {ρ : Type} := shut (lp (blc (ρ := ρ)))
theorem brx {ρ : Type} : bm7 (ρ := ρ) = lp blc := dh _
def bl2 {ρ : Type} (f : ahy bi8 bqk ρ) (l : List Int) (m k a b : Int) (c d e g h i j : List Int) (n : bqi ρ) : Option ρ := f (l, m, k, a, b, c, d, e, g, h, i, j) (fun (l, m, k, a, b, c, d, e, g, h, i, j) => n l m k a b c d e g h i j)
def abj {ρ : Type} := bl2 (lp (blc (ρ := ρ)))
def wo {ρ : Type} := bl2 (bm7 (ρ := ρ))
theorem aeb {ρ : Type} : wo (ρ := ρ) = abj := congrArg bl2 brx
abbrev bre (ρ : Type) := Int → Int → (List Int) → (List Int) → (List Int) → Int → Int → (List Int) → (List Int) → (List Int) → (List Int) → (List Int) → Option ρ
def uz {ρ : Type} (j b : Int) (c k l : List Int) (d e : Int) (f g h i a : List Int) (nx o : bre ρ) : Option ρ := br (decide (b < j)) (br (decide (0 ≤ b.tmod 16)) (br (decide (b.tmod 16 < (↑16 : Int))) (je d e f g h i (a.getD 4 0) 3 fun m => mq b fun n => je d e f g h i (a.getD 0 0) 2 fun p => br (decide (0 ≤ (IntKind.i64.wrap (b + 1)).tmod 16)) (br (decide ((IntKind.i64.wrap (b + 1)).tmod 16 < (↑16 : Int))) (jr d e f g h i (c.getD ((IntKind.i64.wrap (b + 1)).tmod 16).toNat 0) 0 fun q => br (decide (0 ≤ (IntKind.i64.wrap (b + 9)).tmod 16)) (br (decide ((IntKind.i64.wrap (b + 9)).tmod 16 < (↑16 : Int))) (br (decide (0 ≤ (IntKind.i64.wrap (b + 14)).tmod 16)) (br (decide ((IntKind.i64.wrap (b + 14)).tmod 16 < (↑16 : Int))) (jr d e f g h i (c.getD ((IntKind.i64.wrap (b + 14)).tmod 16).toNat 0) 1 fun r => br (decide (0 ≤ b.tmod 16)) (br (decide (b.tmod 16 < (↑16 : Int))) (nx j (IntKind.i64.wrap (b + 1)) (c.set (b.tmod 16).toNat (IntKind.u32.wrap (IntKind.u32.wrap (IntKind.u32.wrap (c.getD (b.tmod 16).toNat 0 + q) + c.getD ((IntKind.i64.wrap (b + 9)).tmod 16).toNat 0) + r))) k l d e f g h i ((((List.take 1 a).append (List.take 7 (List.take 7 (List.drop 0 a)) ++ List.drop (1 + min 7 (List.take 7 (List.drop 0 a)).length) a)).set 4 (IntKind.u32.wrap (((List.take 1 a).append (List.take 7 (List.take 7 (List.drop 0 a)) ++ List.drop (1 + min 7 (List.take 7 (List.drop 0 a)).length) a)).getD 4 0 + IntKind.u32.wrap (IntKind.u32.wrap (IntKind.u32.wrap (IntKind.u32.wrap (a.getD 7 0 + m) + bits BinOp.xor IntKind.u32 (a.getD 6 0) (bits BinOp.and IntKind.u32 (a.getD 4 0) (bits BinOp.xor IntKind.u32 (a.getD 5 0) (a.getD 6 0)))) + n) + c.getD (b.tmod 16).toNat 0)))).set 0 (IntKind.u32.wrap (IntKind.u32.wrap (IntKind.u32.wrap (IntKind.u32.wrap (IntKind.u32.wrap (a.getD 7 0 + m) + bits BinOp.xor IntKind.u32 (a.getD 6 0) (bits BinOp.and IntKind.u32 (a.getD 4 0) (bits BinOp.xor IntKind.u32 (a.getD 5 0) (a.getD 6 0)))) + n) + c.getD (b.tmod 16).toNat 0) + IntKind.u32.wrap (p + bits BinOp.or IntKind.u32 (bits BinOp.and IntKind.u32 (a.getD 0 0) (a.getD 1 0)) (bits BinOp.and IntKind.u32 (a.getD 2 0) (bits BinOp.or IntKind.u32 (a.getD 0 0) (a.getD 1 0)))))))) none) none) none) none) none) none) none) none) none) none) (o j b c k l d e f g h i a)
abbrev bjc := Int × Int × (List Int) × (List Int) × (List Int) × Int × Int × (List Int) × (List Int) × (List Int) × (List Int) × (List Int)
abbrev bqe := bjc
def bpb {ρ : Type} (f : bjc → Option ρ) : bre ρ := fun l m a b c d e g h i j k => f (l, m, a, b, c, d, e, g, h, i, j, k)
def blv {ρ : Type} : ahx bjc bqe ρ := fun (k, l, a, b, c, d, e, f, g, h, i, j) next ex => uz k l a b c d e f g h i j (bpb next) (bpb ex)
def bnm {ρ : Type} := shut (lp (blv (ρ := ρ)))
theorem bsj {ρ : Type} : bnm (ρ := ρ) = lp blv := dh _
def bml {ρ : Type} (f : ahy bjc bqe ρ) (l m : Int) (a b c : List Int) (d e : Int) (g h i j k : List Int) (n : bre ρ) : Option ρ := f (l, m, a, b, c, d, e, g, h, i, j, k) (fun (l, m, a, b, c, d, e, g, h, i, j, k) => n l m a b c d e g h i j k)
def aao {ρ : Type} := bml (lp (blv (ρ := ρ)))
def qd {ρ : Type} := bml (bnm (ρ := ρ))
theorem adw {ρ : Type} : qd (ρ := ρ) = aao := congrArg bml bsj
abbrev brc (ρ : Type) := Int → (List Int) → (List Int) → (List Int) → Option ρ
def vk {ρ : Type} (a : Int) (b d c : List Int) (nx e : brc ρ) : Option ρ := br (decide (a < 8)) (br (decide (0 ≤ a)) (br (decide (a < (↑8 : Int))) (br (decide (0 ≤ a)) (br (decide (a < (↑8 : Int))) (br (decide (0 ≤ a)) (br (decide (a < (↑8 : Int))) (nx (IntKind.i64.wrap (a + 1)) b d (c.set a.toNat (IntKind.u32.wrap (c.getD a.toNat 0 + b.getD a.toNat 0)))) none) none) none) none) none) none) (e a b d c)
abbrev bja := Int × (List Int) × (List Int) × (List Int)
abbrev bqz := bja
def bor {ρ : Type} (f : bja → Option ρ) : brc ρ := fun a b c d => f (a, b, c, d)
def bls {ρ : Type} : ahx bja bqz ρ := fun (a, b, c, d) next ex => vk a b c d (bor next) (bor ex)
def bph {ρ : Type} := shut (lp (bls (ρ := ρ)))
theorem brp {ρ : Type} : bph (ρ := ρ) = lp bls := dh _
def bmh {ρ : Type} (f : ahy bja bqz ρ) (a : Int) (b c d : List Int) (e : brc ρ) : Option ρ := f (a, b, c, d) (fun (a, b, c, d) => e a b c d)
def aa4 {ρ : Type} := bmh (lp (bls (ρ := ρ)))
def qj {ρ : Type} := bmh (bph (ρ := ρ))
theorem adt {ρ : Type} : qj (ρ := ρ) = aa4 := congrArg bmh brp
def u7 {ρ : Type} (a f : Int) (b c d e p q : List Int) (k : (List Int) → Option ρ) : Option ρ := wo q (IntKind.i64.wrap (a.tdiv 8)) 0 a f b c d e p [0, 0, 0, 0, 0, 0, 0, 0] [0, 0, 0, 0, 0, 0, 0, 0, 0, 0, 0, 0, 0, 0, 0, 0] fun N O Q r g s t u v h i j => qd g 0 j i h r g s t u v h fun w y z l m A B C F G H n => qj 0 m l n fun I J M o => k o
def j6 {ρ : Type} := shut (u7 (ρ := ρ))
theorem abh {ρ : Type} (f : Int) (e : Int) (a : List Int) (b : List Int) (c : List Int) (d : List Int) (g : List Int) (h : List Int) (k : (List Int) → Option ρ) : j6 f e a b c d g h k = u7 f e a b c d g h k := by unfold j6; rw [dh]

abbrev bn2 (ρ : Type) := (List Int) → (List Int) → Int → Int → Int → (List Int) → (List Int) → (List Int) → (List Int) → (List Int) → (List Int) → (List Int) → Option ρ
def aam {ρ : Type} (l b : List Int) (a c d : Int) (e f g h i j k : List Int) (nx m : bn2 ρ) : Option ρ := br (decide (a < 8)) (br (decide (0 ≤ a)) (br (decide (a < (↑8 : Int))) (br (decide (0 ≤ a)) (br (decide (a < (↑8 : Int))) (nx l b (IntKind.i64.wrap (a + 1)) c d e f g h i j (k.set a.toNat (IntKind.u32.wrap (b.getD a.toNat 0)))) none) none) none) none) (m l b a c d e f g h i j k)
abbrev bkb := (List Int) × (List Int) × Int × Int × Int × (List Int) × (List Int) × (List Int) × (List Int) × (List Int) × (List Int) × (List Int)
abbrev bp0 := bkb
def bpi {ρ : Type} (f : bkb → Option ρ) : bn2 ρ := fun m k l a b c d e g h i j => f (m, k, l, a, b, c, d, e, g, h, i, j)
def bk7 {ρ : Type} : ahx bkb bp0 ρ := fun (l, j, k, a, b, c, d, e, f, g, h, i) next ex => aam l j k a b c d e f g h i (bpi next) (bpi ex)
def bpl {ρ : Type} := shut (lp (bk7 (ρ := ρ)))
theorem bsa {ρ : Type} : bpl (ρ := ρ) = lp bk7 := dh _
def bl4 {ρ : Type} (f : ahy bkb bp0 ρ) (m k : List Int) (l a b : Int) (c d e g h i j : List Int) (n : bn2 ρ) : Option ρ := f (m, k, l, a, b, c, d, e, g, h, i, j) (fun (m, k, l, a, b, c, d, e, g, h, i, j) => n m k l a b c d e g h i j)
def adv {ρ : Type} := bl4 (lp (bk7 (ρ := ρ)))
def aa6 {ρ : Type} := bl4 (bpl (ρ := ρ))
theorem ag1 {ρ : Type} : aa6 (ρ := ρ) = adv := congrArg bl4 bsa
abbrev bq1 (ρ : Type) := (List Int) → Int → (List Int) → (List Int) → (List Int) → Int → Int → (List Int) → (List Int) → (List Int) → (List Int) → Option ρ
def aap {ρ : Type} (b : List Int) (a : Int) (i j k : List Int) (c d : Int) (e f g h : List Int) (nx l : bq1 ρ) : Option ρ := br (decide ((↑b.length : Int) ≥ a)) (br (decide (0 ≤ a)) (br (decide (a ≤ (↑b.length : Int))) (j6 c d e f g h i (List.drop 0 (List.take a.toNat b)) fun m => br (decide (0 ≤ a)) (br (decide (a ≤ (↑b.length : Int))) (br (decide ((↑b.length : Int) ≤ (↑b.length : Int))) (nx (List.drop a.toNat (List.take (↑b.length : Int).toNat b)) a m j k c d e f g h) none) none) none) none) none) (l b a i j k c d e f g h)
abbrev blx := (List Int) × Int × (List Int) × (List Int) × (List Int) × Int × Int × (List Int) × (List Int) × (List Int) × (List Int)
abbrev bpo := blx
def bnx {ρ : Type} (f : blx → Option ρ) : bq1 ρ := fun l k a b c d e g h i j => f (l, k, a, b, c, d, e, g, h, i, j)
def bi5 {ρ : Type} : ahx blx bpo ρ := fun (k, j, a, b, c, d, e, f, g, h, i) next ex => aap k j a b c d e f g h i (bnx next) (bnx ex)
def bqc {ρ : Type} := shut (lp (bi5 (ρ := ρ)))
theorem brh {ρ : Type} : bqc (ρ := ρ) = lp bi5 := dh _
def bma {ρ : Type} (f : ahy blx bpo ρ) (l : List Int) (k : Int) (a b c : List Int) (d e : Int) (g h i j : List Int) (m : bq1 ρ) : Option ρ := f (l, k, a, b, c, d, e, g, h, i, j) (fun (l, k, a, b, c, d, e, g, h, i, j) => m l k a b c d e g h i j)
def adx {ρ : Type} := bma (lp (bi5 (ρ := ρ)))
def aai {ρ : Type} := bma (bqc (ρ := ρ))
theorem agt {ρ : Type} : aai (ρ := ρ) = adx := congrArg bma brh
abbrev bm2 (ρ : Type) := (List Int) → (List Int) → Int → (List Int) → (List Int) → Option ρ
def aad {ρ : Type} (e b : List Int) (a : Int) (c d : List Int) (nx f : bm2 ρ) : Option ρ := br (decide (a < 8)) (br (decide (0 ≤ a)) (br (decide (a < (↑8 : Int))) (br (decide (0 ≤ a)) (br (decide (a < (↑8 : Int))) (nx e b (IntKind.i64.wrap (a + 1)) (c.set a.toNat (IntKind.u64.wrap (b.getD a.toNat 0))) d) none) none) none) none) (f e b a c d)
abbrev biu := (List Int) × (List Int) × Int × (List Int) × (List Int)
abbrev bq2 := biu
def bnk {ρ : Type} (f : biu → Option ρ) : bm2 ρ := fun e c d a b => f (e, c, d, a, b)
def bk9 {ρ : Type} : ahx biu bq2 ρ := fun (e, c, d, a, b) next ex => aad e c d a b (bnk next) (bnk ex)
def bn7 {ρ : Type} := shut (lp (bk9 (ρ := ρ)))
theorem br4 {ρ : Type} : bn7 (ρ := ρ) = lp bk9 := dh _
def bl8 {ρ : Type} (f : ahy biu bq2 ρ) (e c : List Int) (d : Int) (a b : List Int) (g : bm2 ρ) : Option ρ := f (e, c, d, a, b) (fun (e, c, d, a, b) => g e c d a b)
def acw {ρ : Type} := bl8 (lp (bk9 (ρ := ρ)))
def zw {ρ : Type} := bl8 (bn7 (ρ := ρ))
theorem af6 {ρ : Type} : zw (ρ := ρ) = acw := congrArg bl8 br4
def zu {ρ : Type} (f e : Int) (a b c d g r : List Int) (k : (List Int) → (List Int) → Option ρ) : Option ρ := aa6 r g 0 f e a b c d g [0, 0, 0, 0, 0, 0, 0, 0] [0, 0, 0, 0, 0, 0, 0, 0] fun s O Q h t u v w y z i j => aai s (IntKind.i64.wrap (h * 2)) j i z h t u v w y fun l A m n o B C F G H I => zw l m 0 o n fun p J M q N => k q p
def oq {ρ : Type} := shut (zu (ρ := ρ))
theorem ad3 {ρ : Type} (f : Int) (e : Int) (a : List Int) (b : List Int) (c : List Int) (d : List Int) (g : List Int) (h : List Int) (k : (List Int) → (List Int) → Option ρ) : oq f e a b c d g h k = zu f e a b c d g h k := by unfold oq; rw [dh]

def aks {ρ : Type} (k : Int → Int → (List Int) → (List Int) → (List Int) → (List Int) → Option ρ) : Option ρ := k 32 64 [7, 18, 3] [17, 19, 10] [2, 13, 22] [6, 11, 25]
def aay {ρ : Type} := shut (aks (ρ := ρ))
theorem am7 {ρ : Type}  (k : Int → Int → (List Int) → (List Int) → (List Int) → (List Int) → Option ρ) : aay  k = aks  k := by unfold aay; rw [dh]

def ae3 {ρ : Type} (a : Int) (k : Int → Option ρ) : Option ρ := br (decide (0 ≤ a)) (br (decide (a < (↑80 : Int))) (k (roots512.getD a.toNat 0)) none) none
def ni {ρ : Type} := shut (ae3 (ρ := ρ))
theorem ajo {ρ : Type} (a : Int) (k : Int → Option ρ) : ni a k = ae3 a k := by unfold ni; rw [dh]

def uf {ρ : Type} (a g : Int) (b c d e : List Int) (h f : Int) (k : Int → Option ρ) : Option ρ := br (decide (f < 0)) none (br (decide (IntKind.i64.wrap (a - f) < 0)) none (k (bits BinOp.or IntKind.u64 (h.fdiv (2 ^ min f.toNat 64)) (IntKind.u64.wrap (h * 2 ^ min (IntKind.i64.wrap (a - f)).toNat 64)))))
def av {ρ : Type} := shut (uf (ρ := ρ))
theorem aaf {ρ : Type} (f : Int) (e : Int) (a : List Int) (b : List Int) (c : List Int) (d : List Int) (g : Int) (h : Int) (k : Int → Option ρ) : av f e a b c d g h k = uf f e a b c d g h k := by unfold av; rw [dh]

def qz {ρ : Type} (f e : Int) (a b c d : List Int) (g h : Int) (k : Int → Option ρ) : Option ρ := br (decide (h = (↑0 : Int))) (av f e a b c d g (a.getD 0 0) fun l => av f e a b c d g (a.getD 1 0) fun m => av f e a b c d g (a.getD 2 0) fun n => k (bits BinOp.xor IntKind.u64 (bits BinOp.xor IntKind.u64 l m) n)) (br (decide (h = (↑1 : Int))) (av f e a b c d g (b.getD 0 0) fun o => av f e a b c d g (b.getD 1 0) fun p => av f e a b c d g (b.getD 2 0) fun q => k (bits BinOp.xor IntKind.u64 (bits BinOp.xor IntKind.u64 o p) q)) (br (decide (h = (↑2 : Int))) (av f e a b c d g (c.getD 0 0) fun r => av f e a b c d g (c.getD 1 0) fun s => av f e a b c d g (c.getD 2 0) fun t => k (bits BinOp.xor IntKind.u64 (bits BinOp.xor IntKind.u64 r s) t)) (br (decide (h = (↑3 : Int))) (av f e a b c d g (d.getD 0 0) fun u => av f e a b c d g (d.getD 1 0) fun i => av f e a b c d g (d.getD 2 0) fun j => k (bits BinOp.xor IntKind.u64 (bits BinOp.xor IntKind.u64 u i) j)) none)))
def jd {ρ : Type} := shut (qz (ρ := ρ))
theorem xg {ρ : Type} (f : Int) (e : Int) (a : List Int) (b : List Int) (c : List Int) (d : List Int) (g : Int) (h : Int) (k : Int → Option ρ) : jd f e a b c d g h k = qz f e a b c d g h k := by unfold jd; rw [dh]

def sw {ρ : Type} (f e : Int) (a b c d : List Int) (g h : Int) (k : Int → Option ρ) : Option ρ := br (decide (h = (↑0 : Int))) (av f e a b c d g (a.getD 0 (0 : Int)) fun i => av f e a b c d g (a.getD 1 (0 : Int)) fun j => br (decide (a.getD 2 (0 : Int) < (0 : Int))) none (k (bits BinOp.xor IntKind.u64 (bits BinOp.xor IntKind.u64 i j) (g.fdiv ((2 : Int) ^ min (a.getD 2 (0 : Int)).toNat 64))))) (br (decide (h = (↑1 : Int))) (av f e a b c d g (b.getD 0 (0 : Int)) fun l => av f e a b c d g (b.getD 1 (0 : Int)) fun m => br (decide (b.getD 2 (0 : Int) < (0 : Int))) none (k (bits BinOp.xor IntKind.u64 (bits BinOp.xor IntKind.u64 l m) (g.fdiv ((2 : Int) ^ min (b.getD 2 (0 : Int)).toNat 64))))) (br (decide (h = (↑2 : Int))) (av f e a b c d g (c.getD 0 (0 : Int)) fun n => av f e a b c d g (c.getD 1 (0 : Int)) fun o => br (decide (c.getD 2 (0 : Int) < (0 : Int))) none (k (bits BinOp.xor IntKind.u64 (bits BinOp.xor IntKind.u64 n o) (g.fdiv ((2 : Int) ^ min (c.getD 2 (0 : Int)).toNat 64))))) (br (decide (h = (↑3 : Int))) (av f e a b c d g (d.getD 0 (0 : Int)) fun p => av f e a b c d g (d.getD 1 (0 : Int)) fun q => br (decide (d.getD 2 (0 : Int) < (0 : Int))) none (k (bits BinOp.xor IntKind.u64 (bits BinOp.xor IntKind.u64 p q) (g.fdiv ((2 : Int) ^ min (d.getD 2 (0 : Int)).toNat 64))))) none)))
def jo {ρ : Type} := shut (sw (ρ := ρ))
theorem yj {ρ : Type} (f : Int) (e : Int) (a : List Int) (b : List Int) (c : List Int) (d : List Int) (g : Int) (h : Int) (k : Int → Option ρ) : jo f e a b c d g h k = sw f e a b c d g h k := by unfold jo; rw [dh]

abbrev bp7 (ρ : Type) := (List Int) → Int → Int → Int → Int → (List Int) → (List Int) → (List Int) → (List Int) → (List Int) → (List Int) → (List Int) → Option ρ
def wm {ρ : Type} (l : List Int) (b a c d : Int) (e f g h i j k : List Int) (nx m : bp7 ρ) : Option ρ := br (decide (a < 16)) (br (decide (0 ≤ IntKind.i64.wrap (a * b))) (br (decide (IntKind.i64.wrap (a * b) ≤ IntKind.i64.wrap (IntKind.i64.wrap (a + 1) * b))) (br (decide (IntKind.i64.wrap (IntKind.i64.wrap (a + 1) * b) ≤ (↑l.length : Int))) (su (List.drop (IntKind.i64.wrap (a * b)).toNat (List.take (IntKind.i64.wrap (IntKind.i64.wrap (a + 1) * b)).toNat l)) fun n => br (decide (0 ≤ a)) (br (decide (a < (↑16 : Int))) (nx l b (IntKind.i64.wrap (a + 1)) c d e f g h i j (k.set a.toNat n)) none) none) none) none) none) (m l b a c d e f g h i j k)
abbrev bkh := (List Int) × Int × Int × Int × Int × (List Int) × (List Int) × (List Int) × (List Int) × (List Int) × (List Int) × (List Int)
abbrev bqb := bkh
def bq0 {ρ : Type} (f : bkh → Option ρ) : bp7 ρ := fun l m k a b c d e g h i j => f (l, m, k, a, b, c, d, e, g, h, i, j)
def bjy {ρ : Type} : ahx bkh bqb ρ := fun (k, l, j, a, b, c, d, e, f, g, h, i) next ex => wm k l j a b c d e f g h i (bq0 next) (bq0 ex)
def bp5 {ρ : Type} := shut (lp (bjy (ρ := ρ)))
theorem bsk {ρ : Type} : bp5 (ρ := ρ) = lp bjy := dh _
def bmt {ρ : Type} (f : ahy bkh bqb ρ) (l : List Int) (m k a b : Int) (c d e g h i j : List Int) (n : bp7 ρ) : Option ρ := f (l, m, k, a, b, c, d, e, g, h, i, j) (fun (l, m, k, a, b, c, d, e, g, h, i, j) => n l m k a b c d e g h i j)
def abk {ρ : Type} := bmt (lp (bjy (ρ := ρ)))
def vw {ρ : Type} := bmt (bp5 (ρ := ρ))
theorem aeg {ρ : Type} : vw (ρ := ρ) = abk := congrArg bmt bsk
abbrev bm5 (ρ : Type) := Int → Int → (List Int) → (List Int) → (List Int) → Int → Int → (List Int) → (List Int) → (List Int) → (List Int) → (List Int) → Option ρ
def u6 {ρ : Type} (j b : Int) (c k l : List Int) (d e : Int) (f g h i a : List Int) (nx o : bm5 ρ) : Option ρ := br (decide (b < j)) (br (decide (0 ≤ b.tmod 16)) (br (decide (b.tmod 16 < (↑16 : Int))) (jd d e f g h i (a.getD 4 0) 3 fun m => ni b fun n => jd d e f g h i (a.getD 0 0) 2 fun p => br (decide (0 ≤ (IntKind.i64.wrap (b + 1)).tmod 16)) (br (decide ((IntKind.i64.wrap (b + 1)).tmod 16 < (↑16 : Int))) (jo d e f g h i (c.getD ((IntKind.i64.wrap (b + 1)).tmod 16).toNat 0) 0 fun q => br (decide (0 ≤ (IntKind.i64.wrap (b + 9)).tmod 16)) (br (decide ((IntKind.i64.wrap (b + 9)).tmod 16 < (↑16 : Int))) (br (decide (0 ≤ (IntKind.i64.wrap (b + 14)).tmod 16)) (br (decide ((IntKind.i64.wrap (b + 14)).tmod 16 < (↑16 : Int))) (jo d e f g h i (c.getD ((IntKind.i64.wrap (b + 14)).tmod 16).toNat 0) 1 fun r => br (decide (0 ≤ b.tmod 16)) (br (decide (b.tmod 16 < (↑16 : Int))) (nx j (IntKind.i64.wrap (b + 1)) (c.set (b.tmod 16).toNat (IntKind.u64.wrap (IntKind.u64.wrap (IntKind.u64.wrap (c.getD (b.tmod 16).toNat 0 + q) + c.getD ((IntKind.i64.wrap (b + 9)).tmod 16).toNat 0) + r))) k l d e f g h i ((((List.take 1 a).append (List.take 7 (List.take 7 (List.drop 0 a)) ++ List.drop (1 + min 7 (List.take 7 (List.drop 0 a)).length) a)).set 4 (IntKind.u64.wrap (((List.take 1 a).append (List.take 7 (List.take 7 (List.drop 0 a)) ++ List.drop (1 + min 7 (List.take 7 (List.drop 0 a)).length) a)).getD 4 0 + IntKind.u64.wrap (IntKind.u64.wrap (IntKind.u64.wrap (IntKind.u64.wrap (a.getD 7 0 + m) + bits BinOp.xor IntKind.u64 (a.getD 6 0) (bits BinOp.and IntKind.u64 (a.getD 4 0) (bits BinOp.xor IntKind.u64 (a.getD 5 0) (a.getD 6 0)))) + n) + c.getD (b.tmod 16).toNat 0)))).set 0 (IntKind.u64.wrap (IntKind.u64.wrap (IntKind.u64.wrap (IntKind.u64.wrap (IntKind.u64.wrap (a.getD 7 0 + m) + bits BinOp.xor IntKind.u64 (a.getD 6 0) (bits BinOp.and IntKind.u64 (a.getD 4 0) (bits BinOp.xor IntKind.u64 (a.getD 5 0) (a.getD 6 0)))) + n) + c.getD (b.tmod 16).toNat 0) + IntKind.u64.wrap (p + bits BinOp.or IntKind.u64 (bits BinOp.and IntKind.u64 (a.getD 0 0) (a.getD 1 0)) (bits BinOp.and IntKind.u64 (a.getD 2 0) (bits BinOp.or IntKind.u64 (a.getD 0 0) (a.getD 1 0)))))))) none) none) none) none) none) none) none) none) none) none) (o j b c k l d e f g h i a)
abbrev bkq := Int × Int × (List Int) × (List Int) × (List Int) × Int × Int × (List Int) × (List Int) × (List Int) × (List Int) × (List Int)
abbrev boa := bkq
def boe {ρ : Type} (f : bkq → Option ρ) : bm5 ρ := fun l m a b c d e g h i j k => f (l, m, a, b, c, d, e, g, h, i, j, k)
def biy {ρ : Type} : ahx bkq boa ρ := fun (k, l, a, b, c, d, e, f, g, h, i, j) next ex => u6 k l a b c d e f g h i j (boe next) (boe ex)
def bpr {ρ : Type} := shut (lp (biy (ρ := ρ)))
theorem bsm {ρ : Type} : bpr (ρ := ρ) = lp biy := dh _
def bmg {ρ : Type} (f : ahy bkq boa ρ) (l m : Int) (a b c : List Int) (d e : Int) (g h i j k : List Int) (n : bm5 ρ) : Option ρ := f (l, m, a, b, c, d, e, g, h, i, j, k) (fun (l, m, a, b, c, d, e, g, h, i, j, k) => n l m a b c d e g h i j k)
def aal {ρ : Type} := bmg (lp (biy (ρ := ρ)))
def ql {ρ : Type} := bmg (bpr (ρ := ρ))
theorem ad5 {ρ : Type} : ql (ρ := ρ) = aal := congrArg bmg bsm
abbrev bo2 (ρ : Type) := Int → (List Int) → (List Int) → (List Int) → Option ρ
def vo {ρ : Type} (a : Int) (b d c : List Int) (nx e : bo2 ρ) : Option ρ := br (decide (a < 8)) (br (decide (0 ≤ a)) (br (decide (a < (↑8 : Int))) (br (decide (0 ≤ a)) (br (decide (a < (↑8 : Int))) (br (decide (0 ≤ a)) (br (decide (a < (↑8 : Int))) (nx (IntKind.i64.wrap (a + 1)) b d (c.set a.toNat (IntKind.u64.wrap (c.getD a.toNat 0 + b.getD a.toNat 0)))) none) none) none) none) none) none) (e a b d c)
abbrev blf := Int × (List Int) × (List Int) × (List Int)
abbrev bnr := blf
def bn1 {ρ : Type} (f : blf → Option ρ) : bo2 ρ := fun a b c d => f (a, b, c, d)
def blj {ρ : Type} : ahx blf bnr ρ := fun (a, b, c, d) next ex => vo a b c d (bn1 next) (bn1 ex)
def bqh {ρ : Type} := shut (lp (blj (ρ := ρ)))
theorem bsb {ρ : Type} : bqh (ρ := ρ) = lp blj := dh _
def bmk {ρ : Type} (f : ahy blf bnr ρ) (a : Int) (b c d : List Int) (e : bo2 ρ) : Option ρ := f (a, b, c, d) (fun (a, b, c, d) => e a b c d)
def aan {ρ : Type} := bmk (lp (blj (ρ := ρ)))
def qh {ρ : Type} := bmk (bqh (ρ := ρ))
theorem adu {ρ : Type} : qh (ρ := ρ) = aan := congrArg bmk bsb
def vg {ρ : Type} (a f : Int) (b c d e p q : List Int) (k : (List Int) → Option ρ) : Option ρ := vw q (IntKind.i64.wrap (a.tdiv 8)) 0 a f b c d e p [0, 0, 0, 0, 0, 0, 0, 0] [0, 0, 0, 0, 0, 0, 0, 0, 0, 0, 0, 0, 0, 0, 0, 0] fun N O Q r g s t u v h i j => ql g 0 j i h r g s t u v h fun w y z l m A B C F G H n => qh 0 m l n fun I J M o => k o
def kg {ρ : Type} := shut (vg (ρ := ρ))
theorem abl {ρ : Type} (f : Int) (e : Int) (a : List Int) (b : List Int) (c : List Int) (d : List Int) (g : List Int) (h : List Int) (k : (List Int) → Option ρ) : kg f e a b c d g h k = vg f e a b c d g h k := by unfold kg; rw [dh]

abbrev bnz (ρ : Type) := (List Int) → (List Int) → Int → Int → Int → (List Int) → (List Int) → (List Int) → (List Int) → (List Int) → (List Int) → (List Int) → Option ρ
def aa1 {ρ : Type} (l b : List Int) (a c d : Int) (e f g h i j k : List Int) (nx m : bnz ρ) : Option ρ := br (decide (a < 8)) (br (decide (0 ≤ a)) (br (decide (a < (↑8 : Int))) (br (decide (0 ≤ a)) (br (decide (a < (↑8 : Int))) (nx l b (IntKind.i64.wrap (a + 1)) c d e f g h i j (k.set a.toNat (b.getD a.toNat 0))) none) none) none) none) (m l b a c d e f g h i j k)
abbrev bi3 := (List Int) × (List Int) × Int × Int × Int × (List Int) × (List Int) × (List Int) × (List Int) × (List Int) × (List Int) × (List Int)
abbrev bnq := bi3
def brd {ρ : Type} (f : bi3 → Option ρ) : bnz ρ := fun m k l a b c d e g h i j => f (m, k, l, a, b, c, d, e, g, h, i, j)
def bj8 {ρ : Type} : ahx bi3 bnq ρ := fun (l, j, k, a, b, c, d, e, f, g, h, i) next ex => aa1 l j k a b c d e f g h i (brd next) (brd ex)
def bq4 {ρ : Type} := shut (lp (bj8 (ρ := ρ)))
theorem brf {ρ : Type} : bq4 (ρ := ρ) = lp bj8 := dh _
def bmy {ρ : Type} (f : ahy bi3 bnq ρ) (m k : List Int) (l a b : Int) (c d e g h i j : List Int) (n : bnz ρ) : Option ρ := f (m, k, l, a, b, c, d, e, g, h, i, j) (fun (m, k, l, a, b, c, d, e, g, h, i, j) => n m k l a b c d e g h i j)
def ad6 {ρ : Type} := bmy (lp (bj8 (ρ := ρ)))
def aaz {ρ : Type} := bmy (bq4 (ρ := ρ))
theorem agm {ρ : Type} : aaz (ρ := ρ) = ad6 := congrArg bmy brf
abbrev bns (ρ : Type) := (List Int) → Int → (List Int) → (List Int) → (List Int) → Int → Int → (List Int) → (List Int) → (List Int) → (List Int) → Option ρ
def aav {ρ : Type} (b : List Int) (a : Int) (i j k : List Int) (c d : Int) (e f g h : List Int) (nx l : bns ρ) : Option ρ := br (decide ((↑b.length : Int) ≥ a)) (br (decide (0 ≤ a)) (br (decide (a ≤ (↑b.length : Int))) (kg c d e f g h i (List.drop 0 (List.take a.toNat b)) fun m => br (decide (0 ≤ a)) (br (decide (a ≤ (↑b.length : Int))) (br (decide ((↑b.length : Int) ≤ (↑b.length : Int))) (nx (List.drop a.toNat (List.take (↑b.length : Int).toNat b)) a m j k c d e f g h) none) none) none) none) none) (l b a i j k c d e f g h)
abbrev bk0 := (List Int) × Int × (List Int) × (List Int) × (List Int) × Int × Int × (List Int) × (List Int) × (List Int) × (List Int)
abbrev bpg := bk0
def bn9 {ρ : Type} (f : bk0 → Option ρ) : bns ρ := fun l k a b c d e g h i j => f (l, k, a, b, c, d, e, g, h, i, j)
def bkl {ρ : Type} : ahx bk0 bpg ρ := fun (k, j, a, b, c, d, e, f, g, h, i) next ex => aav k j a b c d e f g h i (bn9 next) (bn9 ex)
def bn3 {ρ : Type} := shut (lp (bkl (ρ := ρ)))
theorem brn {ρ : Type} : bn3 (ρ := ρ) = lp bkl := dh _
def bmw {ρ : Type} (f : ahy bk0 bpg ρ) (l : List Int) (k : Int) (a b c : List Int) (d e : Int) (g h i j : List Int) (m : bns ρ) : Option ρ := f (l, k, a, b, c, d, e, g, h, i, j) (fun (l, k, a, b, c, d, e, g, h, i, j) => m l k a b c d e g h i j)
def ad4 {ρ : Type} := bmw (lp (bkl (ρ := ρ)))
def aas {ρ : Type} := bmw (bn3 (ρ := ρ))
theorem agy {ρ : Type} : aas (ρ := ρ) = ad4 := congrArg bmw brn
abbrev bra (ρ : Type) := (List Int) → (List Int) → Int → (List Int) → (List Int) → Option ρ
def zy {ρ : Type} (e b : List Int) (a : Int) (c d : List Int) (nx f : bra ρ) : Option ρ := br (decide (a < 8)) (br (decide (0 ≤ a)) (br (decide (a < (↑8 : Int))) (br (decide (0 ≤ a)) (br (decide (a < (↑8 : Int))) (nx e b (IntKind.i64.wrap (a + 1)) (c.set a.toNat (b.getD a.toNat 0)) d) none) none) none) none) (f e b a c d)
abbrev bjn := (List Int) × (List Int) × Int × (List Int) × (List Int)
abbrev bp1 := bjn
def boh {ρ : Type} (f : bjn → Option ρ) : bra ρ := fun e c d a b => f (e, c, d, a, b)
def bjp {ρ : Type} : ahx bjn bp1 ρ := fun (e, c, d, a, b) next ex => zy e c d a b (boh next) (boh ex)
def bow {ρ : Type} := shut (lp (bjp (ρ := ρ)))
theorem bsf {ρ : Type} : bow (ρ := ρ) = lp bjp := dh _
def bmm {ρ : Type} (f : ahy bjn bp1 ρ) (e c : List Int) (d : Int) (a b : List Int) (g : bra ρ) : Option ρ := f (e, c, d, a, b) (fun (e, c, d, a, b) => g e c d a b)
def acz {ρ : Type} := bmm (lp (bjp (ρ := ρ)))
def zx {ρ : Type} := bmm (bow (ρ := ρ))
theorem agk {ρ : Type} : zx (ρ := ρ) = acz := congrArg bmm bsf
def zo {ρ : Type} (f e : Int) (a b c d g r : List Int) (k : (List Int) → (List Int) → Option ρ) : Option ρ := aaz r g 0 f e a b c d g [0, 0, 0, 0, 0, 0, 0, 0] [0, 0, 0, 0, 0, 0, 0, 0] fun s O Q h t u v w y z i j => aas s (IntKind.i64.wrap (h * 2)) j i z h t u v w y fun l A m n o B C F G H I => zx l m 0 o n fun p J M q N => k q p
def om {ρ : Type} := shut (zo (ρ := ρ))
theorem ad7 {ρ : Type} (f : Int) (e : Int) (a : List Int) (b : List Int) (c : List Int) (d : List Int) (g : List Int) (h : List Int) (k : (List Int) → (List Int) → Option ρ) : om f e a b c d g h k = zo f e a b c d g h k := by unfold om; rw [dh]

def ak1 {ρ : Type} (k : Int → Int → (List Int) → (List Int) → (List Int) → (List Int) → Option ρ) : Option ρ := k 64 80 [1, 8, 7] [19, 61, 6] [28, 34, 39] [14, 18, 41]
def aa3 {ρ : Type} := shut (ak1 (ρ := ρ))
theorem amq {ρ : Type}  (k : Int → Int → (List Int) → (List Int) → (List Int) → (List Int) → Option ρ) : aa3  k = ak1  k := by unfold aa3; rw [dh]

def oh {ρ : Type} (a : List Int) (k : (List Int) → Option ρ) : Option ρ := br (decide (a.length * 1 ≤ 140737488355328)) (k a) none

def ake {ρ : Type} (a : Int) (b d : List Int) (c : Int) (e : List Int) (k : Int → (List Int) → (List Int) → Int → Option ρ) : Option ρ := gy [d, e] fun f => br (a == 1) (aay fun q r s t u v => oq q r s t u v b f fun w y => oh y fun z => k a w z (IntKind.u64.wrap (c + IntKind.u64.wrap (↑e.length : Int)))) (aa3 fun g h i j l m => om g h i j l m b f fun n o => oh o fun p => k a n p (IntKind.u64.wrap (c + IntKind.u64.wrap (↑e.length : Int))))
def uy {ρ : Type} := shut (ake (ρ := ρ))
theorem aqn {ρ : Type} (b : Int) (a : List Int) (c : List Int) (d : Int) (e : List Int) (k : Int → (List Int) → (List Int) → Int → Option ρ) : uy b a c d e k = ake b a c d e k := by unfold uy; rw [dh]

def afi {ρ : Type} (d b : Int) (a : List Int) (k : Int → (List Int) → (List Int) → Int → Option ρ) : Option ρ := aez d fun e f g h n => jq [a] fun c => br (decide (0 ≤ IntKind.i64.wrap (b - (↑a.length : Int)))) (br (decide ((c.length + (IntKind.i64.wrap (b - (↑a.length : Int))).toNat) * 1 ≤ 140737488355328)) (uy e f g h (c ++ List.replicate (IntKind.i64.wrap (b - (↑a.length : Int))).toNat (0 : Int)) fun i j l m => k i j l m) none) none
def rz {ρ : Type} := shut (afi (ρ := ρ))
theorem ajt {ρ : Type} (a : Int) (b : Int) (c : List Int) (k : Int → (List Int) → (List Int) → Int → Option ρ) : rz a b c k = afi a b c k := by unfold rz; rw [dh]

def adk {ρ : Type} (a : Int) (k : Int → Option ρ) : Option ρ := br (a == 1) (k 64) (k 128)
def qp {ρ : Type} := shut (adk (ρ := ρ))
theorem ahm {ρ : Type} (a : Int) (k : Int → Option ρ) : qp a k = adk a k := by unfold qp; rw [dh]

abbrev bqr (ρ : Type) := Int → (List Int) → Int → (List Int) → Int → (List Int) → Int → (List Int) → Option ρ
def aj6 {ρ : Type} (g : Int) (b : List Int) (a : Int) (c : List Int) (d : Int) (e : List Int) (f : Int) (h : List Int) (nx j : bqr ρ) : Option ρ := br (decide (a < 8)) (br (decide (0 ≤ a)) (br (decide (a < (↑8 : Int))) (tq (b.getD a.toNat 0) (IntKind.i64.wrap (g.tdiv 16)) fun i => br (decide ((c.length + i.length) * 1 ≤ 140737488355328)) (nx g b (IntKind.i64.wrap (a + 1)) (c ++ i) d e f h) none) none) none) (j g b a c d e f h)
abbrev bje := Int × (List Int) × Int × (List Int) × Int × (List Int) × Int × (List Int)
abbrev boq := bje
def bq3 {ρ : Type} (f : bje → Option ρ) : bqr ρ := fun h d e g a b c i => f (h, d, e, g, a, b, c, i)
def bik {ρ : Type} : ahx bje boq ρ := fun (g, d, e, f, a, b, c, h) next ex => aj6 g d e f a b c h (bq3 next) (bq3 ex)
def bqs {ρ : Type} := shut (lp (bik (ρ := ρ)))
theorem bsh {ρ : Type} : bqs (ρ := ρ) = lp bik := dh _
def bmp {ρ : Type} (f : ahy bje boq ρ) (h : Int) (d : List Int) (e : Int) (g : List Int) (a : Int) (b : List Int) (c : Int) (i : List Int) (j : bqr ρ) : Option ρ := f (h, d, e, g, a, b, c, i) (fun (h, d, e, g, a, b, c, i) => j h d e g a b c i)
def aoi {ρ : Type} := bmp (lp (bik (ρ := ρ)))
def aj3 {ρ : Type} := bmp (bqs (ρ := ρ))
theorem apz {ρ : Type} : aj3 (ρ := ρ) = aoi := congrArg bmp bsh
def aj8 {ρ : Type} (c : Int) (e a : List Int) (d : Int) (k : (List Int) → Option ρ) : Option ρ := qp c fun b => br (decide (1 ≤ b)) (br (decide (b * (↑1 : Int) ≤ (↑140737488355328 : Int))) (br (decide (b = 0)) none (br (decide (0 ≤ IntKind.i64.wrap (IntKind.i64.wrap ((IntKind.i64.wrap (IntKind.i64.wrap (IntKind.i64.wrap (IntKind.i64.wrap (2 * b) - 1) - IntKind.i64.wrap (b.tdiv 8)) - (↑a.length : Int))).tmod b + IntKind.i64.wrap (b.tdiv 8)) - 8))) (br (decide ((1 + (IntKind.i64.wrap (IntKind.i64.wrap ((IntKind.i64.wrap (IntKind.i64.wrap (IntKind.i64.wrap (IntKind.i64.wrap (2 * b) - 1) - IntKind.i64.wrap (b.tdiv 8)) - (↑a.length : Int))).tmod b + IntKind.i64.wrap (b.tdiv 8)) - 8)).toNat) * 1 ≤ 140737488355328)) (tq (IntKind.u64.wrap (d * 2 ^ 3)) 8 fun g => br (decide ((((List.replicate (IntKind.i64.wrap (IntKind.i64.wrap ((IntKind.i64.wrap (IntKind.i64.wrap (IntKind.i64.wrap (IntKind.i64.wrap (2 * b) - 1) - IntKind.i64.wrap (b.tdiv 8)) - (↑a.length : Int))).tmod b + IntKind.i64.wrap (b.tdiv 8)) - 8)).toNat (0 : Int)).length.add 0).succ + g.length) * 1 ≤ 140737488355328)) (uy c e a d ((List.replicate 1 (0 : Int)).set 0 128 ++ List.replicate (IntKind.i64.wrap (IntKind.i64.wrap ((IntKind.i64.wrap (IntKind.i64.wrap (IntKind.i64.wrap (IntKind.i64.wrap (2 * b) - 1) - IntKind.i64.wrap (b.tdiv 8)) - (↑a.length : Int))).tmod b + IntKind.i64.wrap (b.tdiv 8)) - 8)).toNat (0 : Int) ++ g) fun j h l m => aj3 b h 0 [] j h m l fun q r s f i n o p => br (i == 2) (br (decide (48 ≤ (↑f.length : Int))) (k (List.take ((48 : Int) - (0 : Int)).toNat f)) none) (k f)) none) none) none)) none) none
def acp {ρ : Type} := shut (aj8 (ρ := ρ))
theorem aq8 {ρ : Type} (b : Int) (a : List Int) (c : List Int) (d : Int) (k : (List Int) → Option ρ) : acp b a c d k = aj8 b a c d k := by unfold acp; rw [dh]

def af5 {ρ : Type} (a : List Int) (k : (List Int) → Option ρ) : Option ρ := jq [List.take 1 (List.drop 3 a), List.take 8 (List.drop 8 a), List.take 13 (List.drop 19 a)] fun b => k b
def ru {ρ : Type} := shut (af5 (ρ := ρ))
theorem ale {ρ : Type} (a : List Int) (k : (List Int) → Option ρ) : ru a k = af5 a k := by unfold ru; rw [dh]

def ab5 {ρ : Type} (n j : List Int) (c : Int) (a d : List Int) (e b g : Int) (f h : List Int) (i : Int) (k : (List Int) → Option ρ) : Option ρ := br (decide (b > 16)) (br (decide ((↑j.length : Int) > b)) (ru n fun z => jq [z, j] fun A => uy g f h i A fun B C F G => acp B C F G fun o => br (decide (0 ≤ b)) (br (decide (b ≤ (↑o.length : Int))) (k (List.take (b - 0).toNat (List.drop 0 o))) none) none) (ru n fun H => jq [H, j] fun I => uy c a d e I fun J p q r => acp J p q r fun l => br (decide (0 ≤ b)) (br (decide (b ≤ (↑l.length : Int))) (k (List.take (b - 0).toNat (List.drop 0 l))) none) none)) (ru n fun s => jq [s, j] fun t => uy c a d e t fun u v w y => acp u v w y fun m => br (decide (0 ≤ b)) (br (decide (b ≤ (↑m.length : Int))) (k (List.take (b - 0).toNat (List.drop 0 m))) none) none)
def l9 {ρ : Type} := shut (ab5 (ρ := ρ))
theorem agu {ρ : Type} (i : List Int) (j : List Int) (c : Int) (a : List Int) (d : List Int) (e : Int) (l : Int) (f : Int) (b : List Int) (g : List Int) (h : Int) (k : (List Int) → Option ρ) : l9 i j c a d e l f b g h k = ab5 i j c a d e l f b g h k := by unfold l9; rw [dh]

def ae5 {ρ : Type} (b : Int) (a : List Int) (k : Int → (List Int) → (List Int) → Int → Int → Int → (List Int) → (List Int) → Int → Option ρ) : Option ρ := rz 1 64 a fun c d e f => rz 3 128 a fun g h i j => k c d e f b g h i j
def aat {ρ : Type} := shut (ae5 (ρ := ρ))
theorem ajp {ρ : Type} (a : Int) (b : List Int) (k : Int → (List Int) → (List Int) → Int → Int → Int → (List Int) → (List Int) → Int → Option ρ) : aat a b k = ae5 a b k := by unfold aat; rw [dh]

def adn {ρ : Type} (b c d e f : Int) (a : Bool) (g : List Int) (k : Int → Int → Int → Int → Int → Bool → Nat → Int → (List Int) → Int → Bool → Int → Int → (List Int) → (List Int) → Int → Int → Int → (List Int) → (List Int) → Int → Bool → Option ρ) : Option ρ := og b c d e f a fun n => br (!n) (k 0 0 0 0 0 false 0 0 [] 0 false 0 0 [] [] 0 0 0 [] [] 0 false) (br ((↑g.length : Int) != b) (k 0 0 0 0 0 false 0 0 [] 0 false 0 0 [] [] 0 0 0 [] [] 0 false) (br a (aah b g fun o p q r s => k b c d e f a 1 o p q r s 0 [] [] 0 0 0 [] [] 0 true) (aat b g fun t u v w h i j l m => k b c d e f a 2 0 [] 0 false 0 t u v w h i j l m true)))
def aa8 {ρ : Type} := shut (adn (ρ := ρ))
theorem ahg {ρ : Type} (b : Int) (c : Int) (d : Int) (e : Int) (f : Int) (a : Bool) (g : List Int) (k : Int → Int → Int → Int → Int → Bool → Nat → Int → (List Int) → Int → Bool → Int → Int → (List Int) → (List Int) → Int → Int → Int → (List Int) → (List Int) → Int → Bool → Option ρ) : aa8 b c d e f a g k = adn b c d e f a g k := by unfold aa8; rw [dh]

def aiz {ρ : Type} (b c d e f : Int) (a : Bool) (z g h : List Int) (k : (List Int) → Option ρ) : Option ρ := aa8 b c d e f a z fun F G H I J M i A B C j l m n o p q r s t u v => br (!v) (k []) (br (decide (i = 1)) (lq g h A B C j l fun w => k w) (br (decide (i = 2)) (l9 g h m n o p q r s t u fun y => k y) none))
def uq {ρ : Type} := shut (aiz (ρ := ρ))
theorem anw {ρ : Type} (b : Int) (c : Int) (d : Int) (e : Int) (f : Int) (a : Bool) (g : List Int) (h : List Int) (i : List Int) (k : (List Int) → Option ρ) : uq b c d e f a g h i k = aiz b c d e f a g h i k := by unfold uq; rw [dh]

def ag7 {ρ : Type} (b c d e f : Int) (a : Bool) (h g i : List Int) (k : (List Int) → Option ρ) : Option ρ := br ((↑g.length : Int) != b) (k []) (uq b c d e f a h i g fun j => k j)
def ad1 {ρ : Type} := shut (ag7 (ρ := ρ))
theorem amu {ρ : Type} (b : Int) (c : Int) (d : Int) (e : Int) (f : Int) (a : Bool) (g : List Int) (h : List Int) (i : List Int) (k : (List Int) → Option ρ) : ad1 b c d e f a g h i k = ag7 b c d e f a g h i k := by unfold ad1; rw [dh]

def adg {ρ : Type} (d e f g h : Int) (b : Bool) (c i a : List Int) (j : Int) (k : (List Int) → Option ρ) : Option ρ := oo a 2 j fun l => su (List.take 4 (List.drop 20 a)) fun m => oo l 3 m fun n => k n
def jm {ρ : Type} := shut (adg (ρ := ρ))
theorem aho {ρ : Type} (c : Int) (d : Int) (e : Int) (f : Int) (g : Int) (a : Bool) (b : List Int) (h : List Int) (i : List Int) (j : Int) (k : (List Int) → Option ρ) : jm c d e f g a b h i j k = adg c d e f g a b h i j k := by unfold jm; rw [dh]

def abw {ρ : Type} (c d e f g : Int) (a : Bool) (b h i : List Int) (j : Int) (k : (List Int) → Option ρ) : Option ρ := jm c d e f g a b h i 6 fun l => oo l 5 j fun m => ad1 c d e f g a h b m fun n => k n
def iy {ρ : Type} := shut (abw (ρ := ρ))
theorem afu {ρ : Type} (c : Int) (d : Int) (e : Int) (f : Int) (g : Int) (a : Bool) (b : List Int) (h : List Int) (i : List Int) (j : Int) (k : (List Int) → Option ρ) : iy c d e f g a b h i j k = abw c d e f g a b h i j k := by unfold iy; rw [dh]

def aar {ρ : Type} (c d e f g : Int) (a : Bool) (b h i : List Int) (j l : Int) (k : (List Int) → Option ρ) : Option ρ := jm c d e f g a b h i 3 fun m => oo m 4 (IntKind.u64.wrap j) fun n => oo n 5 l fun o => k o
def oz {ρ : Type} := shut (aar (ρ := ρ))
theorem aem {ρ : Type} (c : Int) (d : Int) (e : Int) (f : Int) (g : Int) (a : Bool) (b : List Int) (h : List Int) (i : List Int) (j : Int) (l : Int) (k : (List Int) → Option ρ) : oz c d e f g a b h i j l k = aar c d e f g a b h i j l k := by unfold oz; rw [dh]

def abr {ρ : Type} (b c d e f : Int) (a : Bool) (g h i : List Int) (j l : Int) (m : List (List Int)) (k : (List Int) → Option ρ) : Option ρ := oz b c d e f a g h i j l fun n => jq m fun o => uq b c d e f a h n o fun p => k p
def ig {ρ : Type} := shut (abr (ρ := ρ))
theorem af4 {ρ : Type} (c : Int) (d : Int) (e : Int) (f : Int) (g : Int) (a : Bool) (b : List Int) (h : List Int) (i : List Int) (j : Int) (l : Int) (m : List (List Int)) (k : (List Int) → Option ρ) : ig c d e f g a b h i j l m k = abr c d e f g a b h i j l m k := by unfold ig; rw [dh]

abbrev boy (ρ : Type) := Int → Int → Int → Int → Nat → (List Int) → (List (List Int)) → Int → Int → Int → Int → Int → Bool → (List Int) → (List Int) → (List Int) → Int → (List Int) → Option ρ
def aco {ρ : Type} (q r p a : Int) (c : Nat) (d : List Int) (e : List (List Int)) (f g h i j : Int) (k : Bool) (l m n : List Int) (b : Int) (o : List Int) (nx s : boy ρ) : Option ρ := br (decide (a > 0)) (br (decide (0 ≤ IntKind.i64.wrap (a - 1))) (br (decide (IntKind.i64.wrap (a - 1) < (↑c : Int))) (br (d.getD (IntKind.i64.wrap (a - 1)).toNat 0 == b) (br (decide (IntKind.i64.wrap (b + 1) < 0)) none (br (decide (0 ≤ IntKind.i64.wrap (a - 1))) (br (decide (IntKind.i64.wrap (a - 1) < (↑c : Int))) (ig f g h i j k l m n (IntKind.i64.wrap (b + 1)) (p.fdiv (2 ^ min (IntKind.i64.wrap (b + 1)).toNat 64)) [e.getD (IntKind.i64.wrap (a - 1)).toNat [], o] fun t => br (decide (0 ≤ IntKind.i64.wrap (a - 1))) (br (decide (IntKind.i64.wrap (a - 1) ≤ (↑c : Int))) (nx q r p (↑(IntKind.i64.wrap (a - 1)).toNat : Int) (min (IntKind.i64.wrap (a - 1)).toNat c) (List.take (IntKind.i64.wrap (a - 1)).toNat d) (List.take (IntKind.i64.wrap (a - 1)).toNat e) f g h i j k l m n (IntKind.i64.wrap (b + 1)) t) none) none) none) none)) (s q r p a c d e f g h i j k l m n b o)) none) none) (s q r p a c d e f g h i j k l m n b o)
abbrev bkx := Int × Int × Int × Int × Nat × (List Int) × (List (List Int)) × Int × Int × Int × Int × Int × Bool × (List Int) × (List Int) × (List Int) × Int × (List Int)
abbrev bpu := bkx
def bng {ρ : Type} (f : bkx → Option ρ) : boy ρ := fun q r s p a b c d e g h i j k l m n o => f (q, r, s, p, a, b, c, d, e, g, h, i, j, k, l, m, n, o)
def bkc {ρ : Type} : ahx bkx bpu ρ := fun (p, q, r, o, a, b, c, d, e, f, g, h, i, j, k, l, m, n) next ex => aco p q r o a b c d e f g h i j k l m n (bng next) (bng ex)
def bpf {ρ : Type} := shut (lp (bkc (ρ := ρ)))
theorem brw {ρ : Type} : bpf (ρ := ρ) = lp bkc := dh _
def bmd {ρ : Type} (f : ahy bkx bpu ρ) (q r s p : Int) (a : Nat) (b : List Int) (c : List (List Int)) (d e g h i : Int) (j : Bool) (k l m : List Int) (n : Int) (o : List Int) (t : boy ρ) : Option ρ := f (q, r, s, p, a, b, c, d, e, g, h, i, j, k, l, m, n, o) (fun (q, r, s, p, a, b, c, d, e, g, h, i, j, k, l, m, n, o) => t q r s p a b c d e g h i j k l m n o)
def aft {ρ : Type} := bmd (lp (bkc (ρ := ρ)))
def acr {ρ : Type} := bmd (bpf (ρ := ρ))
theorem aie {ρ : Type} : acr (ρ := ρ) = aft := congrArg bmd brw
abbrev bod (ρ : Type) := Int → Int → Int → Nat → (List Int) → (List (List Int)) → Int → Int → Int → Int → Int → Bool → (List Int) → (List Int) → (List Int) → Option ρ
def acg {ρ : Type} (l p j : Int) (k : Nat) (n : List Int) (o : List (List Int)) (a b c d e : Int) (f : Bool) (g h i : List Int) (nx B : bod ρ) : Option ρ := br (decide (l < 0)) none (br (decide (j < IntKind.u64.wrap (IntKind.u64.wrap (p + 1) * 2 ^ min l.toNat 64))) (iy a b c d e f g h i j fun C => ig a b c d e f g h i 0 j [C] fun F => acr l p j (↑k : Int) k n o a b c d e f g h i 0 F fun G H I O m J M N q r s t u v w y z A => br (decide ((m + 1) * 32 ≤ 140737488355328)) (nx G H (IntKind.u64.wrap (I + 1)) (m + 1) (azc m J 0 ++ [z]) (azc m M [] ++ [A]) N q r s t u v w y) none) (B l p j k n o a b c d e f g h i))
abbrev bjj := Int × Int × Int × Nat × (List Int) × (List (List Int)) × Int × Int × Int × Int × Int × Bool × (List Int) × (List Int) × (List Int)
abbrev bob := bjj
def bqt {ρ : Type} (f : bjj → Option ρ) : bod ρ := fun n o p k l m a b c d e g h i j => f (n, o, p, k, l, m, a, b, c, d, e, g, h, i, j)
def blq {ρ : Type} : ahx bjj bob ρ := fun (m, n, o, j, k, l, a, b, c, d, e, f, g, h, i) next ex => acg m n o j k l a b c d e f g h i (bqt next) (bqt ex)
def bn6 {ρ : Type} := shut (lp (blq (ρ := ρ)))
theorem bse {ρ : Type} : bn6 (ρ := ρ) = lp blq := dh _
def bl3 {ρ : Type} (f : ahy bjj bob ρ) (n o p : Int) (k : Nat) (l : List Int) (m : List (List Int)) (a b c d e : Int) (g : Bool) (h i j : List Int) (q : bod ρ) : Option ρ := f (n, o, p, k, l, m, a, b, c, d, e, g, h, i, j) (fun (n, o, p, k, l, m, a, b, c, d, e, g, h, i, j) => q n o p k l m a b c d e g h i j)
def af0 {ρ : Type} := bl3 (lp (blq (ρ := ρ)))
def af2 {ρ : Type} := bl3 (bn6 (ρ := ρ))
theorem ah8 {ρ : Type} : af2 (ρ := ρ) = af0 := congrArg bl3 bse
def abx {ρ : Type} (c d e f g : Int) (a : Bool) (b h i : List Int) (j l : Int) (k : (List Int) → Option ρ) : Option ρ := br (decide (j < 0)) none (af2 j l (IntKind.u64.wrap (l * 2 ^ min j.toNat 64)) 0 [] [] c d e f g a b h i fun t u v m w n y z A B o p q r s => br (decide (0 < (↑m : Int))) (k (n.getD 0 [])) none)
def jc {ρ : Type} := shut (abx (ρ := ρ))
theorem afv {ρ : Type} (c : Int) (d : Int) (e : Int) (f : Int) (g : Int) (a : Bool) (b : List Int) (h : List Int) (i : List Int) (j : Int) (l : Int) (k : (List Int) → Option ρ) : jc c d e f g a b h i j l k = abx c d e f g a b h i j l k := by unfold jc; rw [dh]

abbrev boj (ρ : Type) := Int → Int → Int → (List Int) → Int → Int → Int → Int → Int → Bool → Int → Int → Int → Int → Int → Bool → (List Int) → (List Int) → (List Int) → Int → Int → Int → Int → Int → Bool → (List Int) → (List Int) → (List Int) → (List Int) → Option ρ
def ae1 {ρ : Type} (l m a : Int) (b : List Int) (n o p q r : Int) (s : Bool) (c d e f g : Int) (h : Bool) (i j k : List Int) (t u v w y : Int) (z : Bool) (A B C F : List Int) (nx H : boj ρ) : Option ρ := br (decide (a < m)) (br (decide (a < 0)) none (jc c d e f g h i j k a (bits BinOp.xor IntKind.u64 (l.fdiv (2 ^ min a.toNat 64)) 1) fun G => br (decide ((b.length + G.length) * 1 ≤ 140737488355328)) (nx l m (IntKind.i64.wrap (a + 1)) (b ++ G) n o p q r s c d e f g h i j k t u v w y z A B C F) none)) (H l m a b n o p q r s c d e f g h i j k t u v w y z A B C F)
abbrev bjg := Int × Int × Int × (List Int) × Int × Int × Int × Int × Int × Bool × Int × Int × Int × Int × Int × Bool × (List Int) × (List Int) × (List Int) × Int × Int × Int × Int × Int × Bool × (List Int) × (List Int) × (List Int) × (List Int)
abbrev bq8 := bjg
def bm3 {ρ : Type} (f : bjg → Option ρ) : boj ρ := fun B C F a b c d e g h i j k l m n o p q r s t u v w y z A G => f (B, C, F, a, b, c, d, e, g, h, i, j, k, l, m, n, o, p, q, r, s, t, u, v, w, y, z, A, G)
def bio {ρ : Type} : ahx bjg bq8 ρ := fun (A, B, C, a, b, c, d, e, f, g, h, i, j, k, l, m, n, o, p, q, r, s, t, u, v, w, y, z, F) next ex => ae1 A B C a b c d e f g h i j k l m n o p q r s t u v w y z F (bm3 next) (bm3 ex)
def bqg {ρ : Type} := shut (lp (bio (ρ := ρ)))
theorem bsl {ρ : Type} : bqg (ρ := ρ) = lp bio := dh _
def bmq {ρ : Type} (f : ahy bjg bq8 ρ) (B C F : Int) (a : List Int) (b c d e g : Int) (h : Bool) (i j k l m : Int) (n : Bool) (o p q : List Int) (r s t u v : Int) (w : Bool) (y z A G : List Int) (H : boj ρ) : Option ρ := f (B, C, F, a, b, c, d, e, g, h, i, j, k, l, m, n, o, p, q, r, s, t, u, v, w, y, z, A, G) (fun (B, C, F, a, b, c, d, e, g, h, i, j, k, l, m, n, o, p, q, r, s, t, u, v, w, y, z, A, G) => H B C F a b c d e g h i j k l m n o p q r s t u v w y z A G)
def ais {ρ : Type} := bmq (lp (bio (ρ := ρ)))
def air {ρ : Type} := bmq (bqg (ρ := ρ))
theorem ala {ρ : Type} : air (ρ := ρ) = ais := congrArg bmq bsl
abbrev bno (ρ : Type) := Int → Int → (List Int) → Int → Int → Int → Int → Int → Bool → Int → Int → Int → Int → Int → Bool → (List Int) → (List Int) → (List Int) → Int → Int → Int → Int → Int → Bool → (List Int) → (List Int) → (List Int) → (List Int) → Option ρ
def aga {ρ : Type} (n a : Int) (c : List Int) (o p q d r : Int) (s : Bool) (e f g h i : Int) (j : Bool) (k l m : List Int) (t u v b w : Int) (y : Bool) (z A B C : List Int) (nx k0 : bno ρ) : Option ρ := br (decide (a < n)) (br (decide (0 ≤ a)) (br (decide (a < (↑C.length : Int))) (br (decide (b < 0)) none (iy e f g h i j k l m (bits BinOp.or IntKind.u64 (IntKind.u64.wrap (IntKind.u64.wrap a * 2 ^ min b.toNat 64)) (IntKind.u64.wrap (C.getD a.toNat 0))) fun F => br (decide ((c.length + F.length) * 1 ≤ 140737488355328)) (air (bits BinOp.or IntKind.u64 (IntKind.u64.wrap (IntKind.u64.wrap a * 2 ^ min b.toNat 64)) (IntKind.u64.wrap (C.getD a.toNat 0))) d 0 (c ++ F) o p q d r s e f g h i j k l m t u v b w y z A B C fun q1 q2 q3 q4 q5 q6 q7 q8 q9 G H I J M N O Q U W Z aa ab ac ad ae af ag ah ai => nx n (IntKind.i64.wrap (a + 1)) q4 q5 q6 q7 q8 q9 G H I J M N O Q U W Z aa ab ac ad ae af ag ah ai) none)) none) none) (k0 n a c o p q d r s e f g h i j k l m t u v b w y z A B C)
abbrev bi7 := Int × Int × (List Int) × Int × Int × Int × Int × Int × Bool × Int × Int × Int × Int × Int × Bool × (List Int) × (List Int) × (List Int) × Int × Int × Int × Int × Int × Bool × (List Int) × (List Int) × (List Int) × (List Int)
abbrev bp4 := bi7
def bp9 {ρ : Type} (f : bi7 → Option ρ) : bno ρ := fun B C a b c d e g h i j k l m n o p q r s t u v w y z A F => f (B, C, a, b, c, d, e, g, h, i, j, k, l, m, n, o, p, q, r, s, t, u, v, w, y, z, A, F)
def bkz {ρ : Type} : ahx bi7 bp4 ρ := fun (A, B, a, b, c, d, e, f, g, h, i, j, k, l, m, n, o, p, q, r, s, t, u, v, w, y, z, C) next ex => aga A B a b c d e f g h i j k l m n o p q r s t u v w y z C (bp9 next) (bp9 ex)
def bnu {ρ : Type} := shut (lp (bkz (ρ := ρ)))
theorem brl {ρ : Type} : bnu (ρ := ρ) = lp bkz := dh _
def bl9 {ρ : Type} (f : ahy bi7 bp4 ρ) (B C : Int) (a : List Int) (b c d e g : Int) (h : Bool) (i j k l m : Int) (n : Bool) (o p q : List Int) (r s t u v : Int) (w : Bool) (y z A F : List Int) (G : bno ρ) : Option ρ := f (B, C, a, b, c, d, e, g, h, i, j, k, l, m, n, o, p, q, r, s, t, u, v, w, y, z, A, F) (fun (B, C, a, b, c, d, e, g, h, i, j, k, l, m, n, o, p, q, r, s, t, u, v, w, y, z, A, F) => G B C a b c d e g h i j k l m n o p q r s t u v w y z A F)
def ajr {ρ : Type} := bl9 (lp (bkz (ρ := ρ)))
def ajk {ρ : Type} := bl9 (bnu (ρ := ρ))
theorem amm {ρ : Type} : ajk (ρ := ρ) = ajr := congrArg bl9 brl
def aes {ρ : Type} (b c d e f : Int) (a : Bool) (j u v w : List Int) (k : (List Int) → Option ρ) : Option ρ := jh b c d e f a u v w fun l m n h i o p q r y => gq b c d e f a fun z s => br (!y) (k []) (br ((↑j.length : Int) != s) (k []) (jk j h i fun g => ajk (↑g.length : Int) 0 [] b c d e f a l m n h i o p q r l m n h i o p q r g fun A B t C F G H I J M N O Q U W Z aa ab ac ad ae af ag ah ai aj ak al => k t))
def wu {ρ : Type} := shut (aes (ρ := ρ))
theorem aio {ρ : Type} (b : Int) (c : Int) (d : Int) (e : Int) (f : Int) (a : Bool) (g : List Int) (h : List Int) (i : List Int) (j : List Int) (k : (List Int) → Option ρ) : wu b c d e f a g h i j k = aes b c d e f a g h i j k := by unfold wu; rw [dh]

abbrev bnj (ρ : Type) := Int → (List Int) → (List Int) → Int → Int → Int → Int → Int → Int → Int → Bool → (List Int) → (List Int) → (List Int) → Option ρ
def aed {ρ : Type} (m : Int) (c n : List Int) (l b a d e f g : Int) (h : Bool) (i j k : List Int) (nx o : bnj ρ) : Option ρ := br (decide (b < l)) (br (decide ((0 : Int) ≤ a)) (br (decide (a ≤ (↑c.length : Int))) (br (decide ((↑c.length : Int) ≤ (↑c.length : Int))) (br (decide ((0 : Int) ≤ a)) (br (decide (a ≤ (↑(List.drop a.toNat (List.take (↑c.length : Int).toNat c)).length : Int))) (br (decide (b < (0 : Int))) none (br (bits BinOp.and IntKind.u64 (m.fdiv ((2 : Int) ^ min b.toNat 64)) (1 : Int) == (1 : Int)) (br (decide (IntKind.i64.wrap (b + (1 : Int)) < (0 : Int))) none (ig a d e f g h i j k (IntKind.i64.wrap (b + (1 : Int))) (m.fdiv ((2 : Int) ^ min (IntKind.i64.wrap (b + (1 : Int))).toNat 64)) [List.drop 0 (List.take a.toNat (List.drop a.toNat (List.take (↑c.length : Int).toNat c))), n] fun p => nx m (List.drop a.toNat (List.take (↑c.length : Int).toNat c)) p l (IntKind.i64.wrap (b + (1 : Int))) a d e f g h i j k)) (br (decide (IntKind.i64.wrap (b + (1 : Int)) < (0 : Int))) none (ig a d e f g h i j k (IntKind.i64.wrap (b + (1 : Int))) (m.fdiv ((2 : Int) ^ min (IntKind.i64.wrap (b + (1 : Int))).toNat 64)) [n, List.drop 0 (List.take a.toNat (List.drop a.toNat (List.take (↑c.length : Int).toNat c)))] fun q => nx m (List.drop a.toNat (List.take (↑c.length : Int).toNat c)) q l (IntKind.i64.wrap (b + (1 : Int))) a d e f g h i j k)))) none) none) none) none) none) (o m c n l b a d e f g h i j k)
abbrev bix := Int × (List Int) × (List Int) × Int × Int × Int × Int × Int × Int × Int × Bool × (List Int) × (List Int) × (List Int)
abbrev bm8 := bix
def bq6 {ρ : Type} (f : bix → Option ρ) : bnj ρ := fun m n o k l a b c d e g h i j => f (m, n, o, k, l, a, b, c, d, e, g, h, i, j)
def bi9 {ρ : Type} : ahx bix bm8 ρ := fun (l, m, n, j, k, a, b, c, d, e, f, g, h, i) next ex => aed l m n j k a b c d e f g h i (bq6 next) (bq6 ex)
def bn5 {ρ : Type} := shut (lp (bi9 (ρ := ρ)))
theorem br7 {ρ : Type} : bn5 (ρ := ρ) = lp bi9 := dh _
def bmx {ρ : Type} (f : ahy bix bm8 ρ) (m : Int) (n o : List Int) (k l a b c d e : Int) (g : Bool) (h i j : List Int) (p : bnj ρ) : Option ρ := f (m, n, o, k, l, a, b, c, d, e, g, h, i, j) (fun (m, n, o, k, l, a, b, c, d, e, g, h, i, j) => p m n o k l a b c d e g h i j)
def aht {ρ : Type} := bmx (lp (bi9 (ρ := ρ)))
def ahq {ρ : Type} := bmx (bn5 (ρ := ρ))
theorem aj7 {ρ : Type} : ahq (ρ := ρ) = aht := congrArg bmx br7
def ac0 {ρ : Type} (a e f c g : Int) (b : Bool) (d h i : List Int) (l : Int) (j : List Int) (k : (List Int) → Option ρ) : Option ρ := br (decide (0 ≤ a)) (br (decide (a ≤ (↑j.length : Int))) (ig a e f c g b d h i 0 l [List.drop 0 (List.take a.toNat j)] fun m => ahq l j m c 0 a e f c g b d h i fun t u n v w y z A B o p q r s => k n) none) none
def ng {ρ : Type} := shut (ac0 (ρ := ρ))
theorem ahl {ρ : Type} (c : Int) (d : Int) (e : Int) (f : Int) (g : Int) (a : Bool) (b : List Int) (h : List Int) (i : List Int) (j : Int) (l : List Int) (k : (List Int) → Option ρ) : ng c d e f g a b h i j l k = ac0 c d e f g a b h i j l k := by unfold ng; rw [dh]

def ab6 {ρ : Type} (b c d e f : Int) (a : Bool) (g h i j : List Int) (k : (List Int) → Option ρ) : Option ρ := jm b c d e f a g h i 4 fun l => uq b c d e f a h l j fun m => k m
def jv {ρ : Type} := shut (ab6 (ρ := ρ))
theorem agx {ρ : Type} (c : Int) (d : Int) (e : Int) (f : Int) (g : Int) (a : Bool) (b : List Int) (h : List Int) (i : List Int) (j : List Int) (k : (List Int) → Option ρ) : jv c d e f g a b h i j k = ab6 c d e f g a b h i j k := by unfold jv; rw [dh]

abbrev bpp (ρ : Type) := Int → Int → (List Int) → Int → Int → Int → Int → Int → Bool → (List Int) → Int → Int → Int → Int → Int → Bool → (List Int) → (List Int) → Int → Int → Int → Int → Int → Bool → (List Int) → (List Int) → (List Int) → Option ρ
def aby {ρ : Type} (o b : Int) (f : List Int) (c p q d r : Int) (s : Bool) (a : List Int) (g h i j k : Int) (l : Bool) (m n : List Int) (t u v e w : Int) (y : Bool) (z A B : List Int) (nx F : bpp ρ) : Option ρ := br (decide (b < o)) (br (decide (0 ≤ b)) (br (decide (b < (↑B.length : Int))) (br (decide (e < 0)) none (ng g h i j k l [] m n (bits BinOp.or IntKind.u64 (IntKind.u64.wrap (IntKind.u64.wrap b * 2 ^ min e.toNat 64)) (IntKind.u64.wrap (B.getD b.toNat 0))) a fun C => br (decide ((f.length + C.length) * 1 ≤ 140737488355328)) (br (decide (0 ≤ IntKind.i64.wrap (c * IntKind.i64.wrap (d + 1)))) (br (decide (IntKind.i64.wrap (c * IntKind.i64.wrap (d + 1)) ≤ (↑a.length : Int))) (br (decide ((↑a.length : Int) ≤ (↑a.length : Int))) (nx o (IntKind.i64.wrap (b + 1)) (f ++ C) c p q d r s (List.drop (IntKind.i64.wrap (c * IntKind.i64.wrap (d + 1))).toNat (List.take (↑a.length : Int).toNat a)) g h i j k l m n t u v e w y z A B) none) none) none) none)) none) none) (F o b f c p q d r s a g h i j k l m n t u v e w y z A B)
abbrev bkd := Int × Int × (List Int) × Int × Int × Int × Int × Int × Bool × (List Int) × Int × Int × Int × Int × Int × Bool × (List Int) × (List Int) × Int × Int × Int × Int × Int × Bool × (List Int) × (List Int) × (List Int)
abbrev bpz := bkd
def brb {ρ : Type} (f : bkd → Option ρ) : bpp ρ := fun A B a b c d e g h i j k l m n o p q r s t u v w y z C => f (A, B, a, b, c, d, e, g, h, i, j, k, l, m, n, o, p, q, r, s, t, u, v, w, y, z, C)
def bk6 {ρ : Type} : ahx bkd bpz ρ := fun (z, A, a, b, c, d, e, f, g, h, i, j, k, l, m, n, o, p, q, r, s, t, u, v, w, y, B) next ex => aby z A a b c d e f g h i j k l m n o p q r s t u v w y B (brb next) (brb ex)
def bqu {ρ : Type} := shut (lp (bk6 (ρ := ρ)))
theorem bsd {ρ : Type} : bqu (ρ := ρ) = lp bk6 := dh _
def bmr {ρ : Type} (f : ahy bkd bpz ρ) (A B : Int) (a : List Int) (b c d e g : Int) (h : Bool) (i : List Int) (j k l m n : Int) (o : Bool) (p q : List Int) (r s t u v : Int) (w : Bool) (y z C : List Int) (F : bpp ρ) : Option ρ := f (A, B, a, b, c, d, e, g, h, i, j, k, l, m, n, o, p, q, r, s, t, u, v, w, y, z, C) (fun (A, B, a, b, c, d, e, g, h, i, j, k, l, m, n, o, p, q, r, s, t, u, v, w, y, z, C) => F A B a b c d e g h i j k l m n o p q r s t u v w y z C)
def aff {ρ : Type} := bmr (lp (bk6 (ρ := ρ)))
def afl {ρ : Type} := bmr (bqu (ρ := ρ))
theorem ah2 {ρ : Type} : afl (ρ := ρ) = aff := congrArg bmr bsd
def ab9 {ρ : Type} (b e f c d : Int) (a : Bool) (h i g j : List Int) (k : (List Int) → Option ρ) : Option ρ := gq b e f c d a fun v w => og b e f c d a fun y => br (!y) (k []) (br ((↑g.length : Int) != b) (k []) (br ((↑i.length : Int) != w) (k []) (br ((↑h.length : Int) != v) (k []) (jk i c d fun l => afl (↑l.length : Int) 0 [] b e f c d a h b e f c d a g j b e f c d a g j l fun W Z z q7 q8 q9 A B C F m n o p q r s t G H I J M N O Q U => jv m n o p q r [] s t z fun u => k u))))
def p9 {ρ : Type} := shut (ab9 (ρ := ρ))
theorem agz {ρ : Type} (b : Int) (c : Int) (d : Int) (e : Int) (f : Int) (a : Bool) (g : List Int) (h : List Int) (i : List Int) (j : List Int) (k : (List Int) → Option ρ) : p9 b c d e f a g h i j k = ab9 b c d e f a g h i j k := by unfold p9; rw [dh]

abbrev bm4 (ρ : Type) := Int → Int → (List Int) → Int → Int → Int → Int → Int → Bool → Int → Int → Int → Int → Int → Bool → (List Int) → (List Int) → (List Int) → Option ρ
def agh {ρ : Type} (l k : Int) (m : List Int) (n o p a q : Int) (r : Bool) (b c d e f : Int) (g : Bool) (h i j : List Int) (nx t : bm4 ρ) : Option ρ := br (decide (k < l)) (jc b c d e f g h i j a (IntKind.u64.wrap k) fun s => br (decide ((m.length + s.length) * 1 ≤ 140737488355328)) (nx l (IntKind.i64.wrap (k + 1)) (m ++ s) n o p a q r b c d e f g h i j) none) (t l k m n o p a q r b c d e f g h i j)
abbrev bju := Int × Int × (List Int) × Int × Int × Int × Int × Int × Bool × Int × Int × Int × Int × Int × Bool × (List Int) × (List Int) × (List Int)
abbrev bpd := bju
def bnh {ρ : Type} (f : bju → Option ρ) : bm4 ρ := fun q r s a b c d e g h i j k l m n o p => f (q, r, s, a, b, c, d, e, g, h, i, j, k, l, m, n, o, p)
def blm {ρ : Type} : ahx bju bpd ρ := fun (p, q, r, a, b, c, d, e, f, g, h, i, j, k, l, m, n, o) next ex => agh p q r a b c d e f g h i j k l m n o (bnh next) (bnh ex)
def bpc {ρ : Type} := shut (lp (blm (ρ := ρ)))
theorem br1 {ρ : Type} : bpc (ρ := ρ) = lp blm := dh _
def bmn {ρ : Type} (f : ahy bju bpd ρ) (q r : Int) (s : List Int) (a b c d e : Int) (g : Bool) (h i j k l : Int) (m : Bool) (n o p : List Int) (t : bm4 ρ) : Option ρ := f (q, r, s, a, b, c, d, e, g, h, i, j, k, l, m, n, o, p) (fun (q, r, s, a, b, c, d, e, g, h, i, j, k, l, m, n, o, p) => t q r s a b c d e g h i j k l m n o p)
def ajm {ρ : Type} := bmn (lp (blm (ρ := ρ)))
def aji {ρ : Type} := bmn (bpc (ρ := ρ))
theorem ama {ρ : Type} : aji (ρ := ρ) = ajm := congrArg bmn br1
def afj {ρ : Type} (c d e f b : Int) (a : Bool) (s t u : List Int) (k : (List Int) → Option ρ) : Option ρ := jh c d e f b a s t u fun v w y z A B C F G H => br (!H) (k []) (aji b 0 [] c d e f b a v w y z A B C F G fun I J g M N O Q U W h i j l m n o p q => jv h i j l m n o p q g fun r => k r)
def uw {ρ : Type} := shut (afj (ρ := ρ))
theorem ajq {ρ : Type} (b : Int) (c : Int) (d : Int) (e : Int) (f : Int) (a : Bool) (g : List Int) (h : List Int) (i : List Int) (k : (List Int) → Option ρ) : uw b c d e f a g h i k = afj b c d e f a g h i k := by unfold uw; rw [dh]

def ahj {ρ : Type} (k : Bool → Option ρ) : Option ρ := gq 16 2 1 2 3 false fun a b => br (a == 144) (br (b == 1) (wu 16 2 1 2 3 false (List.replicate 2 (0 : Int)) (List.replicate 16 (0 : Int)) (List.replicate 16 (0 : Int)) [0, 0, 0, 0, 0, 0, 0, 0, 0, 0, 0, 0, 0, 0, 0, 0, 0, 0, 0, 0, 0, 0, 0, 0, 0, 0, 0, 0, 0, 0, 0, 0] fun c => k ((↑c.length : Int) == 0)) (k false)) (k false)
def aaq {ρ : Type} := shut (ahj (ρ := ρ))
theorem amx {ρ : Type}  (k : Bool → Option ρ) : aaq  k = ahj  k := by unfold aaq; rw [dh]

def adl {ρ : Type} (a : Int) (c : Bool) (d e : Int) (f h g i : List Int) (k : Bool → Option ρ) : Option ρ := gq (IntKind.i64.wrap (16 + IntKind.i64.wrap (8 * IntKind.i64.wrap (a.tmod 3)))) 2 1 (IntKind.i64.wrap (1 + IntKind.i64.wrap (d.tmod 4))) (IntKind.i64.wrap (1 + IntKind.i64.wrap (e.tmod 4))) c fun m b => br (decide (b < 1)) (k false) (br (decide (b > 8)) (k false) (br (decide (0 ≤ b)) (br (decide (b ≤ (↑8 : Int))) (br (decide (0 ≤ IntKind.i64.wrap (16 + IntKind.i64.wrap (8 * IntKind.i64.wrap (a.tmod 3))))) (br (decide (IntKind.i64.wrap (16 + IntKind.i64.wrap (8 * IntKind.i64.wrap (a.tmod 3))) ≤ (↑32 : Int))) (br (decide (0 ≤ IntKind.i64.wrap (16 + IntKind.i64.wrap (8 * IntKind.i64.wrap (a.tmod 3))))) (br (decide (IntKind.i64.wrap (16 + IntKind.i64.wrap (8 * IntKind.i64.wrap (a.tmod 3))) ≤ (↑32 : Int))) (wu (IntKind.i64.wrap (16 + IntKind.i64.wrap (8 * IntKind.i64.wrap (a.tmod 3)))) 2 1 (IntKind.i64.wrap (1 + IntKind.i64.wrap (d.tmod 4))) (IntKind.i64.wrap (1 + IntKind.i64.wrap (e.tmod 4))) c (List.take (b - 0).toNat (List.drop 0 i)) (List.take (IntKind.i64.wrap (16 + IntKind.i64.wrap (8 * IntKind.i64.wrap (a.tmod 3))) - 0).toNat (List.drop 0 h)) (List.take (IntKind.i64.wrap (16 + IntKind.i64.wrap (8 * IntKind.i64.wrap (a.tmod 3))) - 0).toNat (List.drop 0 g)) f fun j => br (decide (0 ≤ b)) (br (decide (b ≤ (↑8 : Int))) (br (decide (0 ≤ IntKind.i64.wrap (16 + IntKind.i64.wrap (8 * IntKind.i64.wrap (a.tmod 3))))) (br (decide (IntKind.i64.wrap (16 + IntKind.i64.wrap (8 * IntKind.i64.wrap (a.tmod 3))) ≤ (↑32 : Int))) (p9 (IntKind.i64.wrap (16 + IntKind.i64.wrap (8 * IntKind.i64.wrap (a.tmod 3)))) 2 1 (IntKind.i64.wrap (1 + IntKind.i64.wrap (d.tmod 4))) (IntKind.i64.wrap (1 + IntKind.i64.wrap (e.tmod 4))) c j (List.take (b - 0).toNat (List.drop 0 i)) (List.take (IntKind.i64.wrap (16 + IntKind.i64.wrap (8 * IntKind.i64.wrap (a.tmod 3))) - 0).toNat (List.drop 0 g)) f fun l => br ((↑j.length : Int) == m) (br ((↑l.length : Int) == IntKind.i64.wrap (16 + IntKind.i64.wrap (8 * IntKind.i64.wrap (a.tmod 3)))) (br (decide (0 ≤ IntKind.i64.wrap (16 + IntKind.i64.wrap (8 * IntKind.i64.wrap (a.tmod 3))))) (br (decide (IntKind.i64.wrap (16 + IntKind.i64.wrap (8 * IntKind.i64.wrap (a.tmod 3))) ≤ (↑32 : Int))) (br (decide (0 ≤ IntKind.i64.wrap (16 + IntKind.i64.wrap (8 * IntKind.i64.wrap (a.tmod 3))))) (br (decide (IntKind.i64.wrap (16 + IntKind.i64.wrap (8 * IntKind.i64.wrap (a.tmod 3))) ≤ (↑32 : Int))) (uw (IntKind.i64.wrap (16 + IntKind.i64.wrap (8 * IntKind.i64.wrap (a.tmod 3)))) 2 1 (IntKind.i64.wrap (1 + IntKind.i64.wrap (d.tmod 4))) (IntKind.i64.wrap (1 + IntKind.i64.wrap (e.tmod 4))) c (List.take (IntKind.i64.wrap (16 + IntKind.i64.wrap (8 * IntKind.i64.wrap (a.tmod 3))) - 0).toNat (List.drop 0 h)) (List.take (IntKind.i64.wrap (16 + IntKind.i64.wrap (8 * IntKind.i64.wrap (a.tmod 3))) - 0).toNat (List.drop 0 g)) f fun n => ace l n fun o => br o (aaq fun p => k p) (k false)) none) none) none) none) (k false)) (k false)) none) none) none) none) none) none) none) none) none) none))
def uo {ρ : Type} := shut (adl (ρ := ρ))
theorem ahu {ρ : Type} (a : Int) (b : Bool) (c : Int) (d : Int) (e : List Int) (f : List Int) (g : List Int) (h : List Int) (k : Bool → Option ρ) : uo a b c d e f g h k = adl a b c d e f g h k := by unfold uo; rw [dh]



























































































































































def afa {ρ : Type} (b : List Int) (a : Int) (k : Int → Option ρ) : Option ρ := br (decide (0 ≤ IntKind.i64.wrap (8 + IntKind.i64.wrap (4 * a)))) (br (decide (IntKind.i64.wrap (8 + IntKind.i64.wrap (4 * a)) ≤ IntKind.i64.wrap (12 + IntKind.i64.wrap (4 * a)))) (br (decide (IntKind.i64.wrap (12 + IntKind.i64.wrap (4 * a)) ≤ (↑32 : Int))) (su (List.take (IntKind.i64.wrap (12 + IntKind.i64.wrap (4 * a)) - IntKind.i64.wrap (8 + IntKind.i64.wrap (4 * a))).toNat (List.drop (IntKind.i64.wrap (8 + IntKind.i64.wrap (4 * a))).toNat b)) fun c => k c) none) none) none
def adi {ρ : Type} := shut (afa (ρ := ρ))
theorem apu {ρ : Type} (a : List Int) (b : Int) (k : Int → Option ρ) : adi a b k = afa a b k := by unfold adi; rw [dh]

end P
end
