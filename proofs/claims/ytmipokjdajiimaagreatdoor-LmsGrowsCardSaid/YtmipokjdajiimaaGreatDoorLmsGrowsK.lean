/-
  LmsGrows, part 11: an interpreter of my own over abstract values, the pure functions, the walks and the plain law.
-/

import Derived.Test.YtmipokjdajiimaaGreatDoorLmsGrowsH
import Derived.Test.YtmipokjdajiimaaGreatDoorLmsGrowsJ
import Derived.Test.YtmipokjdajiimaaGreatDoorLmsGrowsI

noncomputable section
open Go Go.Abs
set_option linter.unusedVariables false
namespace P

def afs {ρ : Type} (a : Int) (k : Int → Option ρ) : Option ρ := br (decide (0 ≤ a)) (br (decide (a < (↑64 : Int))) (k (roots256.getD a.toNat 0)) none) none
def mh {ρ : Type} := shut (afs (ρ := ρ))
theorem ak4 {ρ : Type} (a : Int) (k : Int → Option ρ) : mh a k = afs a k := by unfold mh; rw [ay]

def ug {ρ : Type} (a g : Int) (b c d e : List Int) (h f : Int) (k : Int → Option ρ) : Option ρ := br (decide (f < 0)) none (br (decide (IntKind.i64.wrap (a - f) < 0)) none (k (bits BinOp.or IntKind.u32 (h.fdiv (2 ^ min f.toNat 32)) (IntKind.u32.wrap (h * 2 ^ min (IntKind.i64.wrap (a - f)).toNat 32)))))
def au {ρ : Type} := shut (ug (ρ := ρ))
theorem aaw {ρ : Type} (f : Int) (e : Int) (a : List Int) (b : List Int) (c : List Int) (d : List Int) (g : Int) (h : Int) (k : Int → Option ρ) : au f e a b c d g h k = ug f e a b c d g h k := by unfold au; rw [ay]

def qp {ρ : Type} (f e : Int) (a b c d : List Int) (g h : Int) (k : Int → Option ρ) : Option ρ := br (decide (h = (↑0 : Int))) (au f e a b c d g (a.getD 0 0) fun l => au f e a b c d g (a.getD 1 0) fun m => au f e a b c d g (a.getD 2 0) fun n => k (bits BinOp.xor IntKind.u32 (bits BinOp.xor IntKind.u32 l m) n)) (br (decide (h = (↑1 : Int))) (au f e a b c d g (b.getD 0 0) fun o => au f e a b c d g (b.getD 1 0) fun p => au f e a b c d g (b.getD 2 0) fun q => k (bits BinOp.xor IntKind.u32 (bits BinOp.xor IntKind.u32 o p) q)) (br (decide (h = (↑2 : Int))) (au f e a b c d g (c.getD 0 0) fun r => au f e a b c d g (c.getD 1 0) fun s => au f e a b c d g (c.getD 2 0) fun t => k (bits BinOp.xor IntKind.u32 (bits BinOp.xor IntKind.u32 r s) t)) (br (decide (h = (↑3 : Int))) (au f e a b c d g (d.getD 0 0) fun u => au f e a b c d g (d.getD 1 0) fun i => au f e a b c d g (d.getD 2 0) fun j => k (bits BinOp.xor IntKind.u32 (bits BinOp.xor IntKind.u32 u i) j)) none)))
def iw {ρ : Type} := shut (qp (ρ := ρ))
theorem y5 {ρ : Type} (f : Int) (e : Int) (a : List Int) (b : List Int) (c : List Int) (d : List Int) (g : Int) (h : Int) (k : Int → Option ρ) : iw f e a b c d g h k = qp f e a b c d g h k := by unfold iw; rw [ay]

def qz {ρ : Type} (f e : Int) (a b c d : List Int) (g h : Int) (k : Int → Option ρ) : Option ρ := br (decide (h = (↑0 : Int))) (au f e a b c d g (a.getD 0 (0 : Int)) fun i => au f e a b c d g (a.getD 1 (0 : Int)) fun j => br (decide (a.getD 2 (0 : Int) < (0 : Int))) none (k (bits BinOp.xor IntKind.u32 (bits BinOp.xor IntKind.u32 i j) (g.fdiv ((2 : Int) ^ min (a.getD 2 (0 : Int)).toNat 32))))) (br (decide (h = (↑1 : Int))) (au f e a b c d g (b.getD 0 (0 : Int)) fun l => au f e a b c d g (b.getD 1 (0 : Int)) fun m => br (decide (b.getD 2 (0 : Int) < (0 : Int))) none (k (bits BinOp.xor IntKind.u32 (bits BinOp.xor IntKind.u32 l m) (g.fdiv ((2 : Int) ^ min (b.getD 2 (0 : Int)).toNat 32))))) (br (decide (h = (↑2 : Int))) (au f e a b c d g (c.getD 0 (0 : Int)) fun n => au f e a b c d g (c.getD 1 (0 : Int)) fun o => br (decide (c.getD 2 (0 : Int) < (0 : Int))) none (k (bits BinOp.xor IntKind.u32 (bits BinOp.xor IntKind.u32 n o) (g.fdiv ((2 : Int) ^ min (c.getD 2 (0 : Int)).toNat 32))))) (br (decide (h = (↑3 : Int))) (au f e a b c d g (d.getD 0 (0 : Int)) fun p => au f e a b c d g (d.getD 1 (0 : Int)) fun q => br (decide (d.getD 2 (0 : Int) < (0 : Int))) none (k (bits BinOp.xor IntKind.u32 (bits BinOp.xor IntKind.u32 p q) (g.fdiv ((2 : Int) ^ min (d.getD 2 (0 : Int)).toNat 32))))) none)))
def jf {ρ : Type} := shut (qz (ρ := ρ))
theorem zi {ρ : Type} (f : Int) (e : Int) (a : List Int) (b : List Int) (c : List Int) (d : List Int) (g : Int) (h : Int) (k : Int → Option ρ) : jf f e a b c d g h k = qz f e a b c d g h k := by unfold jf; rw [ay]

abbrev zc9 (ρ : Type) := (List Int) → Int → Int → Int → Int → (List Int) → (List Int) → (List Int) → (List Int) → (List Int) → (List Int) → (List Int) → Option ρ
def xu {ρ : Type} (l : List Int) (b a c d : Int) (e f g h i j k : List Int) (nx m : zc9 ρ) : Option ρ := br (decide (a < 16)) (br (decide (0 ≤ IntKind.i64.wrap (a * b))) (br (decide (IntKind.i64.wrap (a * b) ≤ IntKind.i64.wrap (IntKind.i64.wrap (a + 1) * b))) (br (decide (IntKind.i64.wrap (IntKind.i64.wrap (a + 1) * b) ≤ (↑l.length : Int))) (jy (List.drop (IntKind.i64.wrap (a * b)).toNat (List.take (IntKind.i64.wrap (IntKind.i64.wrap (a + 1) * b)).toNat l)) fun n => br (decide (0 ≤ a)) (br (decide (a < (↑16 : Int))) (nx l b (IntKind.i64.wrap (a + 1)) c d e f g h i j (k.set a.toNat (IntKind.u32.wrap n))) none) none) none) none) none) (m l b a c d e f g h i j k)
abbrev zt9 := (List Int) × Int × Int × Int × Int × (List Int) × (List Int) × (List Int) × (List Int) × (List Int) × (List Int) × (List Int)
abbrev zy9 := zt9
def zu9 {ρ : Type} (f : zt9 → Option ρ) : zc9 ρ := fun l m k a b c d e g h i j => f (l, m, k, a, b, c, d, e, g, h, i, j)
def zs9 {ρ : Type} : afi zt9 zy9 ρ := fun (k, l, j, a, b, c, d, e, f, g, h, i) next ex => xu k l j a b c d e f g h i (zu9 next) (zu9 ex)
def zm9 {ρ : Type} := shut (lp (zs9 (ρ := ρ)))
theorem ze9 {ρ : Type} : zm9 (ρ := ρ) = lp zs9 := ay _
def zk9 {ρ : Type} (f : afj zt9 zy9 ρ) (l : List Int) (m k a b : Int) (c d e g h i j : List Int) (n : zc9 ρ) : Option ρ := f (l, m, k, a, b, c, d, e, g, h, i, j) (fun (l, m, k, a, b, c, d, e, g, h, i, j) => n l m k a b c d e g h i j)
def abz {ρ : Type} := zk9 (lp (zs9 (ρ := ρ)))
def x9 {ρ : Type} := zk9 (zm9 (ρ := ρ))
theorem aez {ρ : Type} : x9 (ρ := ρ) = abz := congrArg zk9 ze9
abbrev bvj (ρ : Type) := Int → Int → (List Int) → (List Int) → (List Int) → Int → Int → (List Int) → (List Int) → (List Int) → (List Int) → (List Int) → Option ρ
def vo {ρ : Type} (j b : Int) (c k l : List Int) (d e : Int) (f g h i a : List Int) (nx o : bvj ρ) : Option ρ := br (decide (b < j)) (br (decide (0 ≤ b.tmod 16)) (br (decide (b.tmod 16 < (↑16 : Int))) (iw d e f g h i (a.getD 4 0) 3 fun m => mh b fun n => iw d e f g h i (a.getD 0 0) 2 fun p => br (decide (0 ≤ (IntKind.i64.wrap (b + 1)).tmod 16)) (br (decide ((IntKind.i64.wrap (b + 1)).tmod 16 < (↑16 : Int))) (jf d e f g h i (c.getD ((IntKind.i64.wrap (b + 1)).tmod 16).toNat 0) 0 fun q => br (decide (0 ≤ (IntKind.i64.wrap (b + 9)).tmod 16)) (br (decide ((IntKind.i64.wrap (b + 9)).tmod 16 < (↑16 : Int))) (br (decide (0 ≤ (IntKind.i64.wrap (b + 14)).tmod 16)) (br (decide ((IntKind.i64.wrap (b + 14)).tmod 16 < (↑16 : Int))) (jf d e f g h i (c.getD ((IntKind.i64.wrap (b + 14)).tmod 16).toNat 0) 1 fun r => br (decide (0 ≤ b.tmod 16)) (br (decide (b.tmod 16 < (↑16 : Int))) (nx j (IntKind.i64.wrap (b + 1)) (c.set (b.tmod 16).toNat (IntKind.u32.wrap (IntKind.u32.wrap (IntKind.u32.wrap (c.getD (b.tmod 16).toNat 0 + q) + c.getD ((IntKind.i64.wrap (b + 9)).tmod 16).toNat 0) + r))) k l d e f g h i ((((List.take 1 a).append (List.take 7 (List.take 7 (List.drop 0 a)) ++ List.drop (1 + min 7 (List.take 7 (List.drop 0 a)).length) a)).set 4 (IntKind.u32.wrap (((List.take 1 a).append (List.take 7 (List.take 7 (List.drop 0 a)) ++ List.drop (1 + min 7 (List.take 7 (List.drop 0 a)).length) a)).getD 4 0 + IntKind.u32.wrap (IntKind.u32.wrap (IntKind.u32.wrap (IntKind.u32.wrap (a.getD 7 0 + m) + bits BinOp.xor IntKind.u32 (a.getD 6 0) (bits BinOp.and IntKind.u32 (a.getD 4 0) (bits BinOp.xor IntKind.u32 (a.getD 5 0) (a.getD 6 0)))) + n) + c.getD (b.tmod 16).toNat 0)))).set 0 (IntKind.u32.wrap (IntKind.u32.wrap (IntKind.u32.wrap (IntKind.u32.wrap (IntKind.u32.wrap (a.getD 7 0 + m) + bits BinOp.xor IntKind.u32 (a.getD 6 0) (bits BinOp.and IntKind.u32 (a.getD 4 0) (bits BinOp.xor IntKind.u32 (a.getD 5 0) (a.getD 6 0)))) + n) + c.getD (b.tmod 16).toNat 0) + IntKind.u32.wrap (p + bits BinOp.or IntKind.u32 (bits BinOp.and IntKind.u32 (a.getD 0 0) (a.getD 1 0)) (bits BinOp.and IntKind.u32 (a.getD 2 0) (bits BinOp.or IntKind.u32 (a.getD 0 0) (a.getD 1 0)))))))) none) none) none) none) none) none) none) none) none) none) (o j b c k l d e f g h i a)
abbrev bra := Int × Int × (List Int) × (List Int) × (List Int) × Int × Int × (List Int) × (List Int) × (List Int) × (List Int) × (List Int)
abbrev bvf := bra
def buo {ρ : Type} (f : bra → Option ρ) : bvj ρ := fun l m a b c d e g h i j k => f (l, m, a, b, c, d, e, g, h, i, j, k)
def bqk {ρ : Type} : afi bra bvf ρ := fun (k, l, a, b, c, d, e, f, g, h, i, j) next ex => vo k l a b c d e f g h i j (buo next) (buo ex)
def bxa {ρ : Type} := shut (lp (bqk (ρ := ρ)))
theorem bz6 {ρ : Type} : bxa (ρ := ρ) = lp bqk := ay _
def btf {ρ : Type} (f : afj bra bvf ρ) (l m : Int) (a b c : List Int) (d e : Int) (g h i j k : List Int) (n : bvj ρ) : Option ρ := f (l, m, a, b, c, d, e, g, h, i, j, k) (fun (l, m, a, b, c, d, e, g, h, i, j, k) => n l m a b c d e g h i j k)
def aa5 {ρ : Type} := btf (lp (bqk (ρ := ρ)))
def pq {ρ : Type} := btf (bxa (ρ := ρ))
theorem aep {ρ : Type} : pq (ρ := ρ) = aa5 := congrArg btf bz6
abbrev bwa (ρ : Type) := Int → (List Int) → (List Int) → (List Int) → Option ρ
def xg {ρ : Type} (a : Int) (b d c : List Int) (nx e : bwa ρ) : Option ρ := br (decide (a < 8)) (br (decide (0 ≤ a)) (br (decide (a < (↑8 : Int))) (br (decide (0 ≤ a)) (br (decide (a < (↑8 : Int))) (br (decide (0 ≤ a)) (br (decide (a < (↑8 : Int))) (nx (IntKind.i64.wrap (a + 1)) b d (c.set a.toNat (IntKind.u32.wrap (c.getD a.toNat 0 + b.getD a.toNat 0)))) none) none) none) none) none) none) (e a b d c)
abbrev br5 := Int × (List Int) × (List Int) × (List Int)
abbrev bw2 := br5
def bwq {ρ : Type} (f : br5 → Option ρ) : bwa ρ := fun a b c d => f (a, b, c, d)
def bpn {ρ : Type} : afi br5 bw2 ρ := fun (a, b, c, d) next ex => xg a b c d (bwq next) (bwq ex)
def buj {ρ : Type} := shut (lp (bpn (ρ := ρ)))
theorem bz1 {ρ : Type} : buj (ρ := ρ) = lp bpn := ay _
def bta {ρ : Type} (f : afj br5 bw2 ρ) (a : Int) (b c d : List Int) (e : bwa ρ) : Option ρ := f (a, b, c, d) (fun (a, b, c, d) => e a b c d)
def aa4 {ρ : Type} := bta (lp (bpn (ρ := ρ)))
def pz {ρ : Type} := bta (buj (ρ := ρ))
theorem aej {ρ : Type} : pz (ρ := ρ) = aa4 := congrArg bta bz1
def vv {ρ : Type} (a f : Int) (b c d e p q : List Int) (k : (List Int) → Option ρ) : Option ρ := x9 q (IntKind.i64.wrap (a.tdiv 8)) 0 a f b c d e p [0, 0, 0, 0, 0, 0, 0, 0] [0, 0, 0, 0, 0, 0, 0, 0, 0, 0, 0, 0, 0, 0, 0, 0] fun N O Q r g s t u v h i j => pq g 0 j i h r g s t u v h fun w y z l m A B C F G H n => pz 0 m l n fun I J M o => k o
def jq {ρ : Type} := shut (vv (ρ := ρ))
theorem ab0 {ρ : Type} (f : Int) (e : Int) (a : List Int) (b : List Int) (c : List Int) (d : List Int) (g : List Int) (h : List Int) (k : (List Int) → Option ρ) : jq f e a b c d g h k = vv f e a b c d g h k := by unfold jq; rw [ay]

abbrev bym (ρ : Type) := (List Int) → (List Int) → Int → Int → Int → (List Int) → (List Int) → (List Int) → (List Int) → (List Int) → (List Int) → (List Int) → Option ρ
def abj {ρ : Type} (l b : List Int) (a c d : Int) (e f g h i j k : List Int) (nx m : bym ρ) : Option ρ := br (decide (a < 8)) (br (decide (0 ≤ a)) (br (decide (a < (↑8 : Int))) (br (decide (0 ≤ a)) (br (decide (a < (↑8 : Int))) (nx l b (IntKind.i64.wrap (a + 1)) c d e f g h i j (k.set a.toNat (IntKind.u32.wrap (b.getD a.toNat 0)))) none) none) none) none) (m l b a c d e f g h i j k)
abbrev brm := (List Int) × (List Int) × Int × Int × Int × (List Int) × (List Int) × (List Int) × (List Int) × (List Int) × (List Int) × (List Int)
abbrev buk := brm
def bvo {ρ : Type} (f : brm → Option ρ) : bym ρ := fun m k l a b c d e g h i j => f (m, k, l, a, b, c, d, e, g, h, i, j)
def zs12 {ρ : Type} : afi brm buk ρ := fun (l, j, k, a, b, c, d, e, f, g, h, i) next ex => abj l j k a b c d e f g h i (bvo next) (bvo ex)
def bxr {ρ : Type} := shut (lp (zs12 (ρ := ρ)))
theorem bzb {ρ : Type} : bxr (ρ := ρ) = lp zs12 := ay _
def bs5 {ρ : Type} (f : afj brm buk ρ) (m k : List Int) (l a b : Int) (c d e g h i j : List Int) (n : bym ρ) : Option ρ := f (m, k, l, a, b, c, d, e, g, h, i, j) (fun (m, k, l, a, b, c, d, e, g, h, i, j) => n m k l a b c d e g h i j)
def aeo {ρ : Type} := bs5 (lp (zs12 (ρ := ρ)))
def aa6 {ρ : Type} := bs5 (bxr (ρ := ρ))
theorem ahv {ρ : Type} : aa6 (ρ := ρ) = aeo := congrArg bs5 bzb
abbrev btz (ρ : Type) := (List Int) → Int → (List Int) → (List Int) → (List Int) → Int → Int → (List Int) → (List Int) → (List Int) → (List Int) → Option ρ
def aa0 {ρ : Type} (b : List Int) (a : Int) (i j k : List Int) (c d : Int) (e f g h : List Int) (nx l : btz ρ) : Option ρ := br (decide ((↑b.length : Int) ≥ a)) (br (decide (0 ≤ a)) (br (decide (a ≤ (↑b.length : Int))) (jq c d e f g h i (List.drop 0 (List.take a.toNat b)) fun m => br (decide (0 ≤ a)) (br (decide (a ≤ (↑b.length : Int))) (br (decide ((↑b.length : Int) ≤ (↑b.length : Int))) (nx (List.drop a.toNat (List.take (↑b.length : Int).toNat b)) a m j k c d e f g h) none) none) none) none) none) (l b a i j k c d e f g h)
abbrev brc := (List Int) × Int × (List Int) × (List Int) × (List Int) × Int × Int × (List Int) × (List Int) × (List Int) × (List Int)
abbrev byo := brc
def byf {ρ : Type} (f : brc → Option ρ) : btz ρ := fun l k a b c d e g h i j => f (l, k, a, b, c, d, e, g, h, i, j)
def bq9 {ρ : Type} : afi brc byo ρ := fun (k, j, a, b, c, d, e, f, g, h, i) next ex => aa0 k j a b c d e f g h i (byf next) (byf ex)
def byk {ρ : Type} := shut (lp (bq9 (ρ := ρ)))
theorem bzs {ρ : Type} : byk (ρ := ρ) = lp bq9 := ay _
def btm {ρ : Type} (f : afj brc byo ρ) (l : List Int) (k : Int) (a b c : List Int) (d e : Int) (g h i j : List Int) (m : btz ρ) : Option ρ := f (l, k, a, b, c, d, e, g, h, i, j) (fun (l, k, a, b, c, d, e, g, h, i, j) => m l k a b c d e g h i j)
def aer {ρ : Type} := btm (lp (bq9 (ρ := ρ)))
def abh {ρ : Type} := btm (byk (ρ := ρ))
theorem ahx {ρ : Type} : abh (ρ := ρ) = aer := congrArg btm bzs
abbrev bve (ρ : Type) := (List Int) → (List Int) → Int → (List Int) → (List Int) → Option ρ
def aao {ρ : Type} (e b : List Int) (a : Int) (c d : List Int) (nx f : bve ρ) : Option ρ := br (decide (a < 8)) (br (decide (0 ≤ a)) (br (decide (a < (↑8 : Int))) (br (decide (0 ≤ a)) (br (decide (a < (↑8 : Int))) (nx e b (IntKind.i64.wrap (a + 1)) (c.set a.toNat (IntKind.u64.wrap (b.getD a.toNat 0))) d) none) none) none) none) (f e b a c d)
abbrev bp8 := (List Int) × (List Int) × Int × (List Int) × (List Int)
abbrev bu4 := bp8
def bx6 {ρ : Type} (f : bp8 → Option ρ) : bve ρ := fun e c d a b => f (e, c, d, a, b)
def bqf {ρ : Type} : afi bp8 bu4 ρ := fun (e, c, d, a, b) next ex => aao e c d a b (bx6 next) (bx6 ex)
def bv2 {ρ : Type} := shut (lp (bqf (ρ := ρ)))
theorem bzd {ρ : Type} : bv2 (ρ := ρ) = lp bqf := ay _
def bs8 {ρ : Type} (f : afj bp8 bu4 ρ) (e c : List Int) (d : Int) (a b : List Int) (g : bve ρ) : Option ρ := f (e, c, d, a, b) (fun (e, c, d, a, b) => g e c d a b)
def adj {ρ : Type} := bs8 (lp (bqf (ρ := ρ)))
def aat {ρ : Type} := bs8 (bv2 (ρ := ρ))
theorem ahc {ρ : Type} : aat (ρ := ρ) = adj := congrArg bs8 bzd
def aaq {ρ : Type} (f e : Int) (a b c d g r : List Int) (k : (List Int) → (List Int) → Option ρ) : Option ρ := aa6 r g 0 f e a b c d g [0, 0, 0, 0, 0, 0, 0, 0] [0, 0, 0, 0, 0, 0, 0, 0] fun s O Q h t u v w y z i j => abh s (IntKind.i64.wrap (h * 2)) j i z h t u v w y fun l A m n o B C F G H I => aat l m 0 o n fun p J M q N => k q p
def nk {ρ : Type} := shut (aaq (ρ := ρ))
theorem aeg {ρ : Type} (f : Int) (e : Int) (a : List Int) (b : List Int) (c : List Int) (d : List Int) (g : List Int) (h : List Int) (k : (List Int) → (List Int) → Option ρ) : nk f e a b c d g h k = aaq f e a b c d g h k := by unfold nk; rw [ay]

def am9 {ρ : Type} (k : Int → Int → (List Int) → (List Int) → (List Int) → (List Int) → Option ρ) : Option ρ := k 32 64 [7, 18, 3] [17, 19, 10] [2, 13, 22] [6, 11, 25]
def abg {ρ : Type} := shut (am9 (ρ := ρ))
theorem ap4 {ρ : Type}  (k : Int → Int → (List Int) → (List Int) → (List Int) → (List Int) → Option ρ) : abg  k = am9  k := by unfold abg; rw [ay]

def af3 {ρ : Type} (a : Int) (k : Int → Option ρ) : Option ρ := br (decide (0 ≤ a)) (br (decide (a < (↑80 : Int))) (k (roots512.getD a.toNat 0)) none) none
def mo {ρ : Type} := shut (af3 (ρ := ρ))
theorem alc {ρ : Type} (a : Int) (k : Int → Option ρ) : mo a k = af3 a k := by unfold mo; rw [ay]

def uf {ρ : Type} (a g : Int) (b c d e : List Int) (h f : Int) (k : Int → Option ρ) : Option ρ := br (decide (f < 0)) none (br (decide (IntKind.i64.wrap (a - f) < 0)) none (k (bits BinOp.or IntKind.u64 (h.fdiv (2 ^ min f.toNat 64)) (IntKind.u64.wrap (h * 2 ^ min (IntKind.i64.wrap (a - f)).toNat 64)))))
def av {ρ : Type} := shut (uf (ρ := ρ))
theorem aav {ρ : Type} (f : Int) (e : Int) (a : List Int) (b : List Int) (c : List Int) (d : List Int) (g : Int) (h : Int) (k : Int → Option ρ) : av f e a b c d g h k = uf f e a b c d g h k := by unfold av; rw [ay]

def qo {ρ : Type} (f e : Int) (a b c d : List Int) (g h : Int) (k : Int → Option ρ) : Option ρ := br (decide (h = (↑0 : Int))) (av f e a b c d g (a.getD 0 0) fun l => av f e a b c d g (a.getD 1 0) fun m => av f e a b c d g (a.getD 2 0) fun n => k (bits BinOp.xor IntKind.u64 (bits BinOp.xor IntKind.u64 l m) n)) (br (decide (h = (↑1 : Int))) (av f e a b c d g (b.getD 0 0) fun o => av f e a b c d g (b.getD 1 0) fun p => av f e a b c d g (b.getD 2 0) fun q => k (bits BinOp.xor IntKind.u64 (bits BinOp.xor IntKind.u64 o p) q)) (br (decide (h = (↑2 : Int))) (av f e a b c d g (c.getD 0 0) fun r => av f e a b c d g (c.getD 1 0) fun s => av f e a b c d g (c.getD 2 0) fun t => k (bits BinOp.xor IntKind.u64 (bits BinOp.xor IntKind.u64 r s) t)) (br (decide (h = (↑3 : Int))) (av f e a b c d g (d.getD 0 0) fun u => av f e a b c d g (d.getD 1 0) fun i => av f e a b c d g (d.getD 2 0) fun j => k (bits BinOp.xor IntKind.u64 (bits BinOp.xor IntKind.u64 u i) j)) none)))
def iy {ρ : Type} := shut (qo (ρ := ρ))
theorem y7 {ρ : Type} (f : Int) (e : Int) (a : List Int) (b : List Int) (c : List Int) (d : List Int) (g : Int) (h : Int) (k : Int → Option ρ) : iy f e a b c d g h k = qo f e a b c d g h k := by unfold iy; rw [ay]

def qy {ρ : Type} (f e : Int) (a b c d : List Int) (g h : Int) (k : Int → Option ρ) : Option ρ := br (decide (h = (↑0 : Int))) (av f e a b c d g (a.getD 0 (0 : Int)) fun i => av f e a b c d g (a.getD 1 (0 : Int)) fun j => br (decide (a.getD 2 (0 : Int) < (0 : Int))) none (k (bits BinOp.xor IntKind.u64 (bits BinOp.xor IntKind.u64 i j) (g.fdiv ((2 : Int) ^ min (a.getD 2 (0 : Int)).toNat 64))))) (br (decide (h = (↑1 : Int))) (av f e a b c d g (b.getD 0 (0 : Int)) fun l => av f e a b c d g (b.getD 1 (0 : Int)) fun m => br (decide (b.getD 2 (0 : Int) < (0 : Int))) none (k (bits BinOp.xor IntKind.u64 (bits BinOp.xor IntKind.u64 l m) (g.fdiv ((2 : Int) ^ min (b.getD 2 (0 : Int)).toNat 64))))) (br (decide (h = (↑2 : Int))) (av f e a b c d g (c.getD 0 (0 : Int)) fun n => av f e a b c d g (c.getD 1 (0 : Int)) fun o => br (decide (c.getD 2 (0 : Int) < (0 : Int))) none (k (bits BinOp.xor IntKind.u64 (bits BinOp.xor IntKind.u64 n o) (g.fdiv ((2 : Int) ^ min (c.getD 2 (0 : Int)).toNat 64))))) (br (decide (h = (↑3 : Int))) (av f e a b c d g (d.getD 0 (0 : Int)) fun p => av f e a b c d g (d.getD 1 (0 : Int)) fun q => br (decide (d.getD 2 (0 : Int) < (0 : Int))) none (k (bits BinOp.xor IntKind.u64 (bits BinOp.xor IntKind.u64 p q) (g.fdiv ((2 : Int) ^ min (d.getD 2 (0 : Int)).toNat 64))))) none)))
def jg {ρ : Type} := shut (qy (ρ := ρ))
theorem zh {ρ : Type} (f : Int) (e : Int) (a : List Int) (b : List Int) (c : List Int) (d : List Int) (g : Int) (h : Int) (k : Int → Option ρ) : jg f e a b c d g h k = qy f e a b c d g h k := by unfold jg; rw [ay]

abbrev bvk (ρ : Type) := (List Int) → Int → Int → Int → Int → (List Int) → (List Int) → (List Int) → (List Int) → (List Int) → (List Int) → (List Int) → Option ρ
def yc {ρ : Type} (l : List Int) (b a c d : Int) (e f g h i j k : List Int) (nx m : bvk ρ) : Option ρ := br (decide (a < 16)) (br (decide (0 ≤ IntKind.i64.wrap (a * b))) (br (decide (IntKind.i64.wrap (a * b) ≤ IntKind.i64.wrap (IntKind.i64.wrap (a + 1) * b))) (br (decide (IntKind.i64.wrap (IntKind.i64.wrap (a + 1) * b) ≤ (↑l.length : Int))) (jy (List.drop (IntKind.i64.wrap (a * b)).toNat (List.take (IntKind.i64.wrap (IntKind.i64.wrap (a + 1) * b)).toNat l)) fun n => br (decide (0 ≤ a)) (br (decide (a < (↑16 : Int))) (nx l b (IntKind.i64.wrap (a + 1)) c d e f g h i j (k.set a.toNat n)) none) none) none) none) none) (m l b a c d e f g h i j k)
abbrev bpf := (List Int) × Int × Int × Int × Int × (List Int) × (List Int) × (List Int) × (List Int) × (List Int) × (List Int) × (List Int)
abbrev bun := bpf
def bvz {ρ : Type} (f : bpf → Option ρ) : bvk ρ := fun l m k a b c d e g h i j => f (l, m, k, a, b, c, d, e, g, h, i, j)
def bpp {ρ : Type} : afi bpf bun ρ := fun (k, l, j, a, b, c, d, e, f, g, h, i) next ex => yc k l j a b c d e f g h i (bvz next) (bvz ex)
def bwt {ρ : Type} := shut (lp (bpp (ρ := ρ)))
theorem bzf {ρ : Type} : bwt (ρ := ρ) = lp bpp := ay _
def btt {ρ : Type} (f : afj bpf bun ρ) (l : List Int) (m k a b : Int) (c d e g h i j : List Int) (n : bvk ρ) : Option ρ := f (l, m, k, a, b, c, d, e, g, h, i, j) (fun (l, m, k, a, b, c, d, e, g, h, i, j) => n l m k a b c d e g h i j)
def ab1 {ρ : Type} := btt (lp (bpp (ρ := ρ)))
def xw {ρ : Type} := btt (bwt (ρ := ρ))
theorem ae0 {ρ : Type} : xw (ρ := ρ) = ab1 := congrArg btt bzf
abbrev buc (ρ : Type) := Int → Int → (List Int) → (List Int) → (List Int) → Int → Int → (List Int) → (List Int) → (List Int) → (List Int) → (List Int) → Option ρ
def wo {ρ : Type} (j b : Int) (c k l : List Int) (d e : Int) (f g h i a : List Int) (nx o : buc ρ) : Option ρ := br (decide (b < j)) (br (decide (0 ≤ b.tmod 16)) (br (decide (b.tmod 16 < (↑16 : Int))) (iy d e f g h i (a.getD 4 0) 3 fun m => mo b fun n => iy d e f g h i (a.getD 0 0) 2 fun p => br (decide (0 ≤ (IntKind.i64.wrap (b + 1)).tmod 16)) (br (decide ((IntKind.i64.wrap (b + 1)).tmod 16 < (↑16 : Int))) (jg d e f g h i (c.getD ((IntKind.i64.wrap (b + 1)).tmod 16).toNat 0) 0 fun q => br (decide (0 ≤ (IntKind.i64.wrap (b + 9)).tmod 16)) (br (decide ((IntKind.i64.wrap (b + 9)).tmod 16 < (↑16 : Int))) (br (decide (0 ≤ (IntKind.i64.wrap (b + 14)).tmod 16)) (br (decide ((IntKind.i64.wrap (b + 14)).tmod 16 < (↑16 : Int))) (jg d e f g h i (c.getD ((IntKind.i64.wrap (b + 14)).tmod 16).toNat 0) 1 fun r => br (decide (0 ≤ b.tmod 16)) (br (decide (b.tmod 16 < (↑16 : Int))) (nx j (IntKind.i64.wrap (b + 1)) (c.set (b.tmod 16).toNat (IntKind.u64.wrap (IntKind.u64.wrap (IntKind.u64.wrap (c.getD (b.tmod 16).toNat 0 + q) + c.getD ((IntKind.i64.wrap (b + 9)).tmod 16).toNat 0) + r))) k l d e f g h i ((((List.take 1 a).append (List.take 7 (List.take 7 (List.drop 0 a)) ++ List.drop (1 + min 7 (List.take 7 (List.drop 0 a)).length) a)).set 4 (IntKind.u64.wrap (((List.take 1 a).append (List.take 7 (List.take 7 (List.drop 0 a)) ++ List.drop (1 + min 7 (List.take 7 (List.drop 0 a)).length) a)).getD 4 0 + IntKind.u64.wrap (IntKind.u64.wrap (IntKind.u64.wrap (IntKind.u64.wrap (a.getD 7 0 + m) + bits BinOp.xor IntKind.u64 (a.getD 6 0) (bits BinOp.and IntKind.u64 (a.getD 4 0) (bits BinOp.xor IntKind.u64 (a.getD 5 0) (a.getD 6 0)))) + n) + c.getD (b.tmod 16).toNat 0)))).set 0 (IntKind.u64.wrap (IntKind.u64.wrap (IntKind.u64.wrap (IntKind.u64.wrap (IntKind.u64.wrap (a.getD 7 0 + m) + bits BinOp.xor IntKind.u64 (a.getD 6 0) (bits BinOp.and IntKind.u64 (a.getD 4 0) (bits BinOp.xor IntKind.u64 (a.getD 5 0) (a.getD 6 0)))) + n) + c.getD (b.tmod 16).toNat 0) + IntKind.u64.wrap (p + bits BinOp.or IntKind.u64 (bits BinOp.and IntKind.u64 (a.getD 0 0) (a.getD 1 0)) (bits BinOp.and IntKind.u64 (a.getD 2 0) (bits BinOp.or IntKind.u64 (a.getD 0 0) (a.getD 1 0)))))))) none) none) none) none) none) none) none) none) none) none) (o j b c k l d e f g h i a)
abbrev bp2 := Int × Int × (List Int) × (List Int) × (List Int) × Int × Int × (List Int) × (List Int) × (List Int) × (List Int) × (List Int)
abbrev bwo := bp2
def bv8 {ρ : Type} (f : bp2 → Option ρ) : buc ρ := fun l m a b c d e g h i j k => f (l, m, a, b, c, d, e, g, h, i, j, k)
def brz {ρ : Type} : afi bp2 bwo ρ := fun (k, l, a, b, c, d, e, f, g, h, i, j) next ex => wo k l a b c d e f g h i j (bv8 next) (bv8 ex)
def byy {ρ : Type} := shut (lp (brz (ρ := ρ)))
theorem bzm {ρ : Type} : byy (ρ := ρ) = lp brz := ay _
def btj {ρ : Type} (f : afj bp2 bwo ρ) (l m : Int) (a b c : List Int) (d e : Int) (g h i j k : List Int) (n : buc ρ) : Option ρ := f (l, m, a, b, c, d, e, g, h, i, j, k) (fun (l, m, a, b, c, d, e, g, h, i, j, k) => n l m a b c d e g h i j k)
def abm {ρ : Type} := btj (lp (brz (ρ := ρ)))
def p8 {ρ : Type} := btj (byy (ρ := ρ))
theorem ael {ρ : Type} : p8 (ρ := ρ) = abm := congrArg btj bzm
abbrev bub (ρ : Type) := Int → (List Int) → (List Int) → (List Int) → Option ρ
def wh {ρ : Type} (a : Int) (b d c : List Int) (nx e : bub ρ) : Option ρ := br (decide (a < 8)) (br (decide (0 ≤ a)) (br (decide (a < (↑8 : Int))) (br (decide (0 ≤ a)) (br (decide (a < (↑8 : Int))) (br (decide (0 ≤ a)) (br (decide (a < (↑8 : Int))) (nx (IntKind.i64.wrap (a + 1)) b d (c.set a.toNat (IntKind.u64.wrap (c.getD a.toNat 0 + b.getD a.toNat 0)))) none) none) none) none) none) none) (e a b d c)
abbrev bqm := Int × (List Int) × (List Int) × (List Int)
abbrev bxk := bqm
def bxo {ρ : Type} (f : bqm → Option ρ) : bub ρ := fun a b c d => f (a, b, c, d)
def br0 {ρ : Type} : afi bqm bxk ρ := fun (a, b, c, d) next ex => wh a b c d (bxo next) (bxo ex)
def bwn {ρ : Type} := shut (lp (br0 (ρ := ρ)))
theorem bzr {ρ : Type} : bwn (ρ := ρ) = lp br0 := ay _
def bsr {ρ : Type} (f : afj bqm bxk ρ) (a : Int) (b c d : List Int) (e : bub ρ) : Option ρ := f (a, b, c, d) (fun (a, b, c, d) => e a b c d)
def aa3 {ρ : Type} := bsr (lp (br0 (ρ := ρ)))
def qc {ρ : Type} := bsr (bwn (ρ := ρ))
theorem aek {ρ : Type} : qc (ρ := ρ) = aa3 := congrArg bsr bzr
def xk {ρ : Type} (a f : Int) (b c d e p q : List Int) (k : (List Int) → Option ρ) : Option ρ := xw q (IntKind.i64.wrap (a.tdiv 8)) 0 a f b c d e p [0, 0, 0, 0, 0, 0, 0, 0] [0, 0, 0, 0, 0, 0, 0, 0, 0, 0, 0, 0, 0, 0, 0, 0] fun N O Q r g s t u v h i j => p8 g 0 j i h r g s t u v h fun w y z l m A B C F G H n => qc 0 m l n fun I J M o => k o
def jo {ρ : Type} := shut (xk (ρ := ρ))
theorem ab2 {ρ : Type} (f : Int) (e : Int) (a : List Int) (b : List Int) (c : List Int) (d : List Int) (g : List Int) (h : List Int) (k : (List Int) → Option ρ) : jo f e a b c d g h k = xk f e a b c d g h k := by unfold jo; rw [ay]

abbrev bwl (ρ : Type) := (List Int) → (List Int) → Int → Int → Int → (List Int) → (List Int) → (List Int) → (List Int) → (List Int) → (List Int) → (List Int) → Option ρ
def abf {ρ : Type} (l b : List Int) (a c d : Int) (e f g h i j k : List Int) (nx m : bwl ρ) : Option ρ := br (decide (a < 8)) (br (decide (0 ≤ a)) (br (decide (a < (↑8 : Int))) (br (decide (0 ≤ a)) (br (decide (a < (↑8 : Int))) (nx l b (IntKind.i64.wrap (a + 1)) c d e f g h i j (k.set a.toNat (b.getD a.toNat 0))) none) none) none) none) (m l b a c d e f g h i j k)
abbrev bpc := (List Int) × (List Int) × Int × Int × Int × (List Int) × (List Int) × (List Int) × (List Int) × (List Int) × (List Int) × (List Int)
abbrev bxy := bpc
def bwh {ρ : Type} (f : bpc → Option ρ) : bwl ρ := fun m k l a b c d e g h i j => f (m, k, l, a, b, c, d, e, g, h, i, j)
def bsk {ρ : Type} : afi bpc bxy ρ := fun (l, j, k, a, b, c, d, e, f, g, h, i) next ex => abf l j k a b c d e f g h i (bwh next) (bwh ex)
def byv {ρ : Type} := shut (lp (bsk (ρ := ρ)))
theorem by3 {ρ : Type} : byv (ρ := ρ) = lp bsk := ay _
def btn {ρ : Type} (f : afj bpc bxy ρ) (m k : List Int) (l a b : Int) (c d e g h i j : List Int) (n : bwl ρ) : Option ρ := f (m, k, l, a, b, c, d, e, g, h, i, j) (fun (m, k, l, a, b, c, d, e, g, h, i, j) => n m k l a b c d e g h i j)
def aeh {ρ : Type} := btn (lp (bsk (ρ := ρ)))
def abk {ρ : Type} := btn (byv (ρ := ρ))
theorem ahy {ρ : Type} : abk (ρ := ρ) = aeh := congrArg btn by3
abbrev bx5 (ρ : Type) := (List Int) → Int → (List Int) → (List Int) → (List Int) → Int → Int → (List Int) → (List Int) → (List Int) → (List Int) → Option ρ
def aa1 {ρ : Type} (b : List Int) (a : Int) (i j k : List Int) (c d : Int) (e f g h : List Int) (nx l : bx5 ρ) : Option ρ := br (decide ((↑b.length : Int) ≥ a)) (br (decide (0 ≤ a)) (br (decide (a ≤ (↑b.length : Int))) (jo c d e f g h i (List.drop 0 (List.take a.toNat b)) fun m => br (decide (0 ≤ a)) (br (decide (a ≤ (↑b.length : Int))) (br (decide ((↑b.length : Int) ≤ (↑b.length : Int))) (nx (List.drop a.toNat (List.take (↑b.length : Int).toNat b)) a m j k c d e f g h) none) none) none) none) none) (l b a i j k c d e f g h)
abbrev bp7 := (List Int) × Int × (List Int) × (List Int) × (List Int) × Int × Int × (List Int) × (List Int) × (List Int) × (List Int)
abbrev bx8 := bp7
def btw {ρ : Type} (f : bp7 → Option ρ) : bx5 ρ := fun l k a b c d e g h i j => f (l, k, a, b, c, d, e, g, h, i, j)
def brq {ρ : Type} : afi bp7 bx8 ρ := fun (k, j, a, b, c, d, e, f, g, h, i) next ex => aa1 k j a b c d e f g h i (btw next) (btw ex)
def byw {ρ : Type} := shut (lp (brq (ρ := ρ)))
theorem bzk {ρ : Type} : byw (ρ := ρ) = lp brq := ay _
def bs9 {ρ : Type} (f : afj bp7 bx8 ρ) (l : List Int) (k : Int) (a b c : List Int) (d e : Int) (g h i j : List Int) (m : bx5 ρ) : Option ρ := f (l, k, a, b, c, d, e, g, h, i, j) (fun (l, k, a, b, c, d, e, g, h, i, j) => m l k a b c d e g h i j)
def aem {ρ : Type} := bs9 (lp (brq (ρ := ρ)))
def aa8 {ρ : Type} := bs9 (byw (ρ := ρ))
theorem ahq {ρ : Type} : aa8 (ρ := ρ) = aem := congrArg bs9 bzk
abbrev bw5 (ρ : Type) := (List Int) → (List Int) → Int → (List Int) → (List Int) → Option ρ
def aau {ρ : Type} (e b : List Int) (a : Int) (c d : List Int) (nx f : bw5 ρ) : Option ρ := br (decide (a < 8)) (br (decide (0 ≤ a)) (br (decide (a < (↑8 : Int))) (br (decide (0 ≤ a)) (br (decide (a < (↑8 : Int))) (nx e b (IntKind.i64.wrap (a + 1)) (c.set a.toNat (b.getD a.toNat 0)) d) none) none) none) none) (f e b a c d)
abbrev bp1 := (List Int) × (List Int) × Int × (List Int) × (List Int)
abbrev bwe := bp1
def bxt {ρ : Type} (f : bp1 → Option ρ) : bw5 ρ := fun e c d a b => f (e, c, d, a, b)
def bpj {ρ : Type} : afi bp1 bwe ρ := fun (e, c, d, a, b) next ex => aau e c d a b (bxt next) (bxt ex)
def bw1 {ρ : Type} := shut (lp (bpj (ρ := ρ)))
theorem bzp {ρ : Type} : bw1 (ρ := ρ) = lp bpj := ay _
def bs6 {ρ : Type} (f : afj bp1 bwe ρ) (e c : List Int) (d : Int) (a b : List Int) (g : bw5 ρ) : Option ρ := f (e, c, d, a, b) (fun (e, c, d, a, b) => g e c d a b)
def adp {ρ : Type} := bs6 (lp (bpj (ρ := ρ)))
def aap {ρ : Type} := bs6 (bw1 (ρ := ρ))
theorem ahf {ρ : Type} : aap (ρ := ρ) = adp := congrArg bs6 bzp
def aan {ρ : Type} (f e : Int) (a b c d g r : List Int) (k : (List Int) → (List Int) → Option ρ) : Option ρ := abk r g 0 f e a b c d g [0, 0, 0, 0, 0, 0, 0, 0] [0, 0, 0, 0, 0, 0, 0, 0] fun s O Q h t u v w y z i j => aa8 s (IntKind.i64.wrap (h * 2)) j i z h t u v w y fun l A m n o B C F G H I => aap l m 0 o n fun p J M q N => k q p
def ny {ρ : Type} := shut (aan (ρ := ρ))
theorem aee {ρ : Type} (f : Int) (e : Int) (a : List Int) (b : List Int) (c : List Int) (d : List Int) (g : List Int) (h : List Int) (k : (List Int) → (List Int) → Option ρ) : ny f e a b c d g h k = aan f e a b c d g h k := by unfold ny; rw [ay]

def aor {ρ : Type} (k : Int → Int → (List Int) → (List Int) → (List Int) → (List Int) → Option ρ) : Option ρ := k 64 80 [1, 8, 7] [19, 61, 6] [28, 34, 39] [14, 18, 41]
def abd {ρ : Type} := shut (aor (ρ := ρ))
theorem aqh {ρ : Type}  (k : Int → Int → (List Int) → (List Int) → (List Int) → (List Int) → Option ρ) : abd  k = aor  k := by unfold abd; rw [ay]

def ng {ρ : Type} (a : List Int) (k : (List Int) → Option ρ) : Option ρ := br (decide (a.length * 1 ≤ 140737488355328)) (k a) none

def alz {ρ : Type} (a : Int) (b d : List Int) (c : Int) (e : List Int) (k : Int → (List Int) → (List Int) → Int → Option ρ) : Option ρ := ig [d, e] fun f => br (a == 1) (abg fun q r s t u v => nk q r s t u v b f fun w y => ng y fun z => k a w z (IntKind.u64.wrap (c + IntKind.u64.wrap (↑e.length : Int)))) (abd fun g h i j l m => ny g h i j l m b f fun n o => ng o fun p => k a n p (IntKind.u64.wrap (c + IntKind.u64.wrap (↑e.length : Int))))
def vw {ρ : Type} := shut (alz (ρ := ρ))
theorem aw1 {ρ : Type} (b : Int) (a : List Int) (c : List Int) (d : Int) (e : List Int) (k : Int → (List Int) → (List Int) → Int → Option ρ) : vw b a c d e k = alz b a c d e k := by unfold vw; rw [ay]

def adz {ρ : Type} (a : Int) (k : Int → Option ρ) : Option ρ := br (a == 1) (k 64) (k 128)
def p9 {ρ : Type} := shut (adz (ρ := ρ))
theorem ai2 {ρ : Type} (a : Int) (k : Int → Option ρ) : p9 a k = adz a k := by unfold p9; rw [ay]

abbrev bxj (ρ : Type) := Int → (List Int) → Int → (List Int) → Int → (List Int) → Int → (List Int) → Option ρ
def alp {ρ : Type} (g : Int) (b : List Int) (a : Int) (c : List Int) (d : Int) (e : List Int) (f : Int) (h : List Int) (nx j : bxj ρ) : Option ρ := br (decide (a < 8)) (br (decide (0 ≤ a)) (br (decide (a < (↑8 : Int))) (jl (b.getD a.toNat 0) (IntKind.i64.wrap (g.tdiv 16)) fun i => br (decide ((c.length + i.length) * 1 ≤ 140737488355328)) (nx g b (IntKind.i64.wrap (a + 1)) (c ++ i) d e f h) none) none) none) (j g b a c d e f h)
abbrev bqx := Int × (List Int) × Int × (List Int) × Int × (List Int) × Int × (List Int)
abbrev buh := bqx
def buq {ρ : Type} (f : bqx → Option ρ) : bxj ρ := fun h d e g a b c i => f (h, d, e, g, a, b, c, i)
def bpi {ρ : Type} : afi bqx buh ρ := fun (g, d, e, f, a, b, c, h) next ex => alp g d e f a b c h (buq next) (buq ex)
def bxi {ρ : Type} := shut (lp (bpi (ρ := ρ)))
theorem bzh {ρ : Type} : bxi (ρ := ρ) = lp bpi := ay _
def bs2 {ρ : Type} (f : afj bqx buh ρ) (h : Int) (d : List Int) (e : Int) (g : List Int) (a : Int) (b : List Int) (c : Int) (i : List Int) (j : bxj ρ) : Option ρ := f (h, d, e, g, a, b, c, i) (fun (h, d, e, g, a, b, c, i) => j h d e g a b c i)
def ar8 {ρ : Type} := bs2 (lp (bpi (ρ := ρ)))
def alq {ρ : Type} := bs2 (bxi (ρ := ρ))
theorem au5 {ρ : Type} : alq (ρ := ρ) = ar8 := congrArg bs2 bzh
def al7 {ρ : Type} (c : Int) (e a : List Int) (d : Int) (k : (List Int) → Option ρ) : Option ρ := p9 c fun b => br (decide (1 ≤ b)) (br (decide (b * (↑1 : Int) ≤ (↑140737488355328 : Int))) (br (decide (b = 0)) none (br (decide (0 ≤ IntKind.i64.wrap (IntKind.i64.wrap ((IntKind.i64.wrap (IntKind.i64.wrap (IntKind.i64.wrap (IntKind.i64.wrap (2 * b) - 1) - IntKind.i64.wrap (b.tdiv 8)) - (↑a.length : Int))).tmod b + IntKind.i64.wrap (b.tdiv 8)) - 8))) (br (decide ((1 + (IntKind.i64.wrap (IntKind.i64.wrap ((IntKind.i64.wrap (IntKind.i64.wrap (IntKind.i64.wrap (IntKind.i64.wrap (2 * b) - 1) - IntKind.i64.wrap (b.tdiv 8)) - (↑a.length : Int))).tmod b + IntKind.i64.wrap (b.tdiv 8)) - 8)).toNat) * 1 ≤ 140737488355328)) (jl (IntKind.u64.wrap (d * 2 ^ 3)) 8 fun g => br (decide ((((List.replicate (IntKind.i64.wrap (IntKind.i64.wrap ((IntKind.i64.wrap (IntKind.i64.wrap (IntKind.i64.wrap (IntKind.i64.wrap (2 * b) - 1) - IntKind.i64.wrap (b.tdiv 8)) - (↑a.length : Int))).tmod b + IntKind.i64.wrap (b.tdiv 8)) - 8)).toNat (0 : Int)).length.add 0).succ + g.length) * 1 ≤ 140737488355328)) (vw c e a d ((List.replicate 1 (0 : Int)).set 0 128 ++ List.replicate (IntKind.i64.wrap (IntKind.i64.wrap ((IntKind.i64.wrap (IntKind.i64.wrap (IntKind.i64.wrap (IntKind.i64.wrap (2 * b) - 1) - IntKind.i64.wrap (b.tdiv 8)) - (↑a.length : Int))).tmod b + IntKind.i64.wrap (b.tdiv 8)) - 8)).toNat (0 : Int) ++ g) fun j h l m => alq b h 0 [] j h m l fun q r s f i n o p => br (i == 2) (br (decide (48 ≤ (↑f.length : Int))) (k (List.take ((48 : Int) - (0 : Int)).toNat f)) none) (k f)) none) none) none)) none) none
def ach {ρ : Type} := shut (al7 (ρ := ρ))
theorem aws {ρ : Type} (b : Int) (a : List Int) (c : List Int) (d : Int) (k : (List Int) → Option ρ) : ach b a c d k = al7 b a c d k := by unfold ach; rw [ay]

def alf {ρ : Type} (i : List Int) (j l : Int) (m : List (List Int)) (k : (List Int) → Option ρ) : Option ρ := acd 1 fun n o p q w => jl j 4 fun r => jl l 2 fun s => fu [i, r, s] fun t => vw n o p q t fun u v a b => fu m fun c => vw u v a b c fun d e f g => ach d e f g fun h => k h
def uq {ρ : Type} := shut (alf (ρ := ρ))
theorem av8 {ρ : Type} (a : List Int) (b : Int) (c : Int) (d : List (List Int)) (k : (List Int) → Option ρ) : uq a b c d k = alf a b c d k := by unfold uq; rw [ay]

def ac1 {ρ : Type} (o : Int) (d : List Int) (e a b c p : Int) (q : List (List Int)) (k : (List Int) → Option ρ) : Option ρ := acd 1 fun r s t u B => jl (IntKind.u64.wrap e) 4 fun v => jl p 2 fun w => fu [d, v, w] fun y => vw r s t u y fun z A f g => fu q fun h => vw z A f g h fun i j l m => ach i j l m fun n => k n
def gy {ρ : Type} := shut (ac1 (ρ := ρ))
theorem ahs {ρ : Type} (e : Int) (d : List Int) (f : Int) (a : Int) (b : Int) (c : Int) (g : Int) (h : List (List Int)) (k : (List Int) → Option ρ) : gy e d f a b c g h k = ac1 e d f a b c g h k := by unfold gy; rw [ay]

def aoa {ρ : Type} (c : List Int) (a b : Int) (k : Bool → Option ρ) : Option ρ := br (decide (a ≥ 1)) (br (decide (a ≤ 24)) (br (decide (b ≥ 0)) (br (decide (a = 0)) none (k (decide (b ≤ IntKind.i64.wrap ((IntKind.i64.wrap ((↑c.length : Int) * 8)).tdiv a))))) (k false)) (k false)) (k false)
def abe {ρ : Type} := shut (aoa (ρ := ρ))
theorem ap9 {ρ : Type} (a : List Int) (b : Int) (c : Int) (k : Bool → Option ρ) : abe a b c k = aoa a b c k := by unfold abe; rw [ay]

abbrev bua (ρ : Type) := (List Int) → Int → Int → Int → Int → Int → Int → (List Int) → Option ρ
def ahg {ρ : Type} (a : List Int) (e g f b c d : Int) (h : List Int) (nx i : bua ρ) : Option ρ := br (decide (f < e)) (br (decide (0 < (↑a.length : Int))) (br (decide (1 ≤ (↑a.length : Int))) (br (decide ((↑a.length : Int) ≤ (↑a.length : Int))) (nx (List.drop 1 (List.take (↑a.length : Int).toNat a)) e (bits BinOp.or IntKind.u64 (IntKind.u64.wrap (g * 2 ^ 8)) (IntKind.u64.wrap (a.getD 0 0))) (IntKind.i64.wrap (f + 8)) b c d h) none) none) none) (i a e g f b c d h)
abbrev brb := (List Int) × Int × Int × Int × Int × Int × Int × (List Int)
abbrev bwv := brb
def bxm {ρ : Type} (f : brb → Option ρ) : bua ρ := fun d e g h a b c i => f (d, e, g, h, a, b, c, i)
def br2 {ρ : Type} : afi brb bwv ρ := fun (d, e, f, g, a, b, c, h) next ex => ahg d e f g a b c h (bxm next) (bxm ex)
def byu {ρ : Type} := shut (lp (br2 (ρ := ρ)))
theorem bz7 {ρ : Type} : byu (ρ := ρ) = lp br2 := ay _
def btd {ρ : Type} (f : afj brb bwv ρ) (d : List Int) (e g h a b c : Int) (i : List Int) (j : bua ρ) : Option ρ := f (d, e, g, h, a, b, c, i) (fun (d, e, g, h, a, b, c, i) => j d e g h a b c i)
def ak5 {ρ : Type} := btd (lp (br2 (ρ := ρ)))
def ale {ρ : Type} := btd (byu (ρ := ρ))
theorem ao9 {ρ : Type} : ale (ρ := ρ) = ak5 := congrArg btd bz7
abbrev bvm (ρ : Type) := (List Int) → Int → Int → Int → Int → Int → (List Int) → Option ρ
def ahi {ρ : Type} (f : List Int) (g h i c a : Int) (j : List Int) (nx m : bvm ρ) : Option ρ := br (decide (a < c)) (ale f g h i a c a j fun n b k d e o p l => br (decide (IntKind.i64.wrap (d - b) < 0)) none (br (decide (b < 0)) none (br (decide (0 ≤ e)) (br (decide (e < (↑l.length : Int))) (nx n b k (IntKind.i64.wrap (d - b)) o (IntKind.i64.wrap (p + 1)) (l.set e.toNat (IntKind.u32.wrap (bits BinOp.and IntKind.u64 (k.fdiv (2 ^ min (IntKind.i64.wrap (d - b)).toNat 64)) (IntKind.u64.wrap (IntKind.u64.wrap (1 * 2 ^ min b.toNat 64) - 1)))))) none) none))) (m f g h i c a j)
abbrev bse := (List Int) × Int × Int × Int × Int × Int × (List Int)
abbrev bwz := bse
def bue {ρ : Type} (f : bse → Option ρ) : bvm ρ := fun c d e g a b h => f (c, d, e, g, a, b, h)
def bpk {ρ : Type} : afi bse bwz ρ := fun (c, d, e, f, a, b, g) next ex => ahi c d e f a b g (bue next) (bue ex)
def byh {ρ : Type} := shut (lp (bpk (ρ := ρ)))
theorem by5 {ρ : Type} : byh (ρ := ρ) = lp bpk := ay _
def btp {ρ : Type} (f : afj bse bwz ρ) (c : List Int) (d e g a b : Int) (h : List Int) (i : bvm ρ) : Option ρ := f (c, d, e, g, a, b, h) (fun (c, d, e, g, a, b, h) => i c d e g a b h)
def ala {ρ : Type} := btp (lp (bpk (ρ := ρ)))
def ak8 {ρ : Type} := btp (byh (ρ := ρ))
theorem ao3 {ρ : Type} : ak8 (ρ := ρ) = ala := congrArg btp by5
def af2 {ρ : Type} (b : List Int) (c a : Int) (k : (List Int) → Option ρ) : Option ρ := abe b c a fun d => br (!d) (k []) (br (decide (0 ≤ a)) (br (decide (a ≤ a)) (br (decide (a * (↑4 : Int) ≤ (↑140737488355328 : Int))) (ak8 b c 0 0 (↑(List.replicate a.toNat (0 : Int)).length : Int) 0 (List.replicate a.toNat (0 : Int)) fun f g h i j l e => k e) none) none) none)
def qx {ρ : Type} := shut (af2 (ρ := ρ))
theorem ak6 {ρ : Type} (a : List Int) (b : Int) (c : Int) (k : (List Int) → Option ρ) : qx a b c k = af2 a b c k := by unfold qx; rw [ay]

abbrev bu9 (ρ : Type) := Int → Int → Int → Int → Int → Int → Int → (List Int) → Option ρ
def agc {ρ : Type} (g h b a c d e : Int) (f : List Int) (nx i : bu9 ρ) : Option ρ := br (decide (a < b)) (br (decide (0 ≤ a)) (br (decide (a < (↑f.length : Int))) (nx g (IntKind.u64.wrap (h - IntKind.u64.wrap (f.getD a.toNat 0))) b (IntKind.i64.wrap (a + 1)) c d e f) none) none) (i g h b a c d e f)
abbrev bpx := Int × Int × Int × Int × Int × Int × Int × (List Int)
abbrev bxv := bpx
def bvt {ρ : Type} (f : bpx → Option ρ) : bu9 ρ := fun g h d e a b c i => f (g, h, d, e, a, b, c, i)
def bqc {ρ : Type} : afi bpx bxv ρ := fun (f, g, d, e, a, b, c, h) next ex => agc f g d e a b c h (bvt next) (bvt ex)
def bu6 {ρ : Type} := shut (lp (bqc (ρ := ρ)))
theorem bzx {ρ : Type} : bu6 (ρ := ρ) = lp bqc := ay _
def btr {ρ : Type} (f : afj bpx bxv ρ) (g h d e a b c : Int) (i : List Int) (j : bu9 ρ) : Option ρ := f (g, h, d, e, a, b, c, i) (fun (g, h, d, e, a, b, c, i) => j g h d e a b c i)
def aj7 {ρ : Type} := btr (lp (bqc (ρ := ρ)))
def akg {ρ : Type} := btr (bu6 (ρ := ρ))
theorem am6 {ρ : Type} : akg (ρ := ρ) = aj7 := congrArg btr bzx
def ae5 {ρ : Type} (a : Int) (f : List Int) (k : (List Int) → Int → Option ρ) : Option ρ := mg a fun h i j l => br (!l) (k [] 9) (br ((↑f.length : Int) != 32) (k [] 14) (br (decide (a = 0)) none (qx f a (IntKind.i64.wrap (Int.tdiv 256 a)) fun e => br (decide (a < 0)) none (akg a (IntKind.u64.wrap (IntKind.u64.wrap (↑e.length : Int) * IntKind.u64.wrap (IntKind.u64.wrap (1 * 2 ^ min a.toNat 64) - 1))) (↑e.length : Int) 0 h i j e fun m n q r o c p b => br (decide (c < 0)) none (jl (IntKind.u64.wrap (n * 2 ^ min c.toNat 64)) 2 fun g => qx g m (IntKind.i64.wrap (o - (↑b.length : Int))) fun d => br (decide ((b.length + d.length) * 4 ≤ 140737488355328)) (k (b ++ d) 0) none)))))
def yu {ρ : Type} := shut (ae5 (ρ := ρ))
theorem ajp {ρ : Type} (a : Int) (b : List Int) (k : (List Int) → Int → Option ρ) : yu a b k = ae5 a b k := by unfold yu; rw [ay]

def zx {ρ : Type} (d : Int) (e : List Int) (f a b c : Int) (g h : List Int) (k : (List Int) → Option ρ) : Option ρ := gy d e f a b c 33153 [g, h] fun i => yu d i fun j l => k j
def ji {ρ : Type} := shut (zx (ρ := ρ))
theorem adl {ρ : Type} (e : Int) (d : List Int) (f : Int) (a : Int) (b : Int) (c : Int) (g : List Int) (h : List Int) (k : (List Int) → Option ρ) : ji e d f a b c g h k = zx e d f a b c g h k := by unfold ji; rw [ay]

abbrev bv5 (ρ : Type) := Int → Int → (List Int) → Int → Int → Int → (List Int) → Int → Int → Int → Int → Option ρ
def acg {ρ : Type} (i j : Int) (k : List Int) (h g a : Int) (b : List Int) (c d e f : Int) (nx l : bv5 ρ) : Option ρ := br (decide (g < h)) (gy a b c d e f (IntKind.u64.wrap i) [[IntKind.u8.wrap (IntKind.u32.wrap (j + g))], k] fun m => nx i j m h (IntKind.u32.wrap (g + 1)) a b c d e f) (l i j k h g a b c d e f)
abbrev bsg := Int × Int × (List Int) × Int × Int × Int × (List Int) × Int × Int × Int × Int
abbrev bt2 := bsg
def byg {ρ : Type} (f : bsg → Option ρ) : bv5 ρ := fun j k l h i a b c d e g => f (j, k, l, h, i, a, b, c, d, e, g)
def bq3 {ρ : Type} : afi bsg bt2 ρ := fun (i, j, k, g, h, a, b, c, d, e, f) next ex => acg i j k g h a b c d e f (byg next) (byg ex)
def bu7 {ρ : Type} := shut (lp (bq3 (ρ := ρ)))
theorem bzv {ρ : Type} : bu7 (ρ := ρ) = lp bq3 := ay _
def bs1 {ρ : Type} (f : afj bsg bt2 ρ) (j k : Int) (l : List Int) (h i a : Int) (b : List Int) (c d e g : Int) (m : bv5 ρ) : Option ρ := f (j, k, l, h, i, a, b, c, d, e, g) (fun (j, k, l, h, i, a, b, c, d, e, g) => m j k l h i a b c d e g)
def af6 {ρ : Type} := bs1 (lp (bq3 (ρ := ρ)))
def afz {ρ : Type} := bs1 (bu7 (ρ := ρ))
theorem aja {ρ : Type} : afz (ρ := ρ) = af6 := congrArg bs1 bzv
def ab3 {ρ : Type} (e : Int) (d : List Int) (f a b c g h i : Int) (j : List Int) (k : (List Int) → Option ρ) : Option ρ := afz g h j i 0 e d f a b c fun n o l p q r s t u v m => k l
def jk {ρ : Type} := shut (ab3 (ρ := ρ))
theorem afx {ρ : Type} (e : Int) (d : List Int) (f : Int) (a : Int) (b : Int) (c : Int) (g : Int) (h : Int) (i : Int) (j : List Int) (k : (List Int) → Option ρ) : jk e d f a b c g h i j k = ab3 e d f a b c g h i j k := by unfold jk; rw [ay]

def ae6 {ρ : Type} (c : Int) (e : List Int) (f a b d : Int) (k : Int → Option ρ) : Option ρ := br (decide (c < 0)) none (k (IntKind.u32.wrap (IntKind.u32.wrap (1 * 2 ^ min c.toNat 32) - 1)))
def l5 {ρ : Type} := shut (ae6 (ρ := ρ))
theorem afw {ρ : Type} (e : Int) (d : List Int) (f : Int) (a : Int) (b : Int) (c : Int) (k : Int → Option ρ) : l5 e d f a b c k = ae6 e d f a b c k := by unfold l5; rw [ay]

def agd {ρ : Type} (a : Int) (b : List Int) (c : Int) (k : Int → (List Int) → Int → Int → Int → Int → Int → Option ρ) : Option ρ := mg a fun d e f g => br (!g) (k 0 [] 0 0 0 0 9) (br ((↑b.length : Int) != 16) (k 0 [] 0 0 0 0 14) (k a b c d e f 0))
def tu {ρ : Type} := shut (agd (ρ := ρ))
theorem ak7 {ρ : Type} (a : Int) (b : List Int) (c : Int) (k : Int → (List Int) → Int → Int → Int → Int → Int → Option ρ) : tu a b c k = agd a b c k := by unfold tu; rw [ay]

abbrev bxn (ρ : Type) := (List Int) → Int → Int → (List Int) → Int → (List Int) → Int → Int → Int → Int → (List Int) → Option ρ
def ana {ρ : Type} (a : List Int) (i b : Int) (k : List Int) (c : Int) (d : List Int) (e f g h : Int) (j : List Int) (nx m : bxn ρ) : Option ρ := br (decide (b < i)) (br (decide (0 ≤ b)) (br (decide (b < (↑j.length : Int))) (l5 c d e f g h fun n => br (decide (32 ≤ (↑a.length : Int))) (jk c d e f g h b (j.getD b.toNat 0) (IntKind.u32.wrap (n - j.getD b.toNat 0)) (List.drop 0 (List.take (Int.toNat 32) a)) fun l => br (decide ((k.length + l.length) * 1 ≤ 140737488355328)) (br (decide (32 ≤ (↑a.length : Int))) (br (decide ((↑a.length : Int) ≤ (↑a.length : Int))) (nx (List.drop 32 (List.take (↑a.length : Int).toNat a)) i (IntKind.i64.wrap (b + 1)) (k ++ l) c d e f g h j) none) none) none) none) none) none) (m a i b k c d e f g h j)
abbrev bsi := (List Int) × Int × Int × (List Int) × Int × (List Int) × Int × Int × Int × Int × (List Int)
abbrev bv1 := bsi
def bzo {ρ : Type} (f : bsi → Option ρ) : bxn ρ := fun h i j k a b c d e g l => f (h, i, j, k, a, b, c, d, e, g, l)
def btc {ρ : Type} : afi bsi bv1 ρ := fun (g, h, i, j, a, b, c, d, e, f, k) next ex => ana g h i j a b c d e f k (bzo next) (bzo ex)
def byd {ρ : Type} := shut (lp (btc (ρ := ρ)))
theorem b0a {ρ : Type} : byd (ρ := ρ) = lp btc := ay _
def bvs {ρ : Type} (f : afj bsi bv1 ρ) (h : List Int) (i j : Int) (k : List Int) (a : Int) (b : List Int) (c d e g : Int) (l : List Int) (m : bxn ρ) : Option ρ := f (h, i, j, k, a, b, c, d, e, g, l) (fun (h, i, j, k, a, b, c, d, e, g, l) => m h i j k a b c d e g l)
def anr {ρ : Type} := bvs (lp (btc (ρ := ρ)))
def agl {ρ : Type} := bvs (byd (ρ := ρ))
theorem azu {ρ : Type} : agl (ρ := ρ) = anr := congrArg bvs b0a
def agf {ρ : Type} (c : Int) (t : List Int) (u : Int) (v a : List Int) (k : (List Int) → Int → Option ρ) : Option ρ := tu c t u fun d e f g h b i => br (i != 0) (k [] i) (jv c fun w => br ((↑a.length : Int) != w) (k [] 1) (br (decide (4 ≤ (↑a.length : Int))) (jy (List.drop 0 (List.take (Int.toNat 4) a)) fun y => br (y != IntKind.u64.wrap b) (k [] 1) (br (decide (36 ≤ (↑a.length : Int))) (br (decide ((↑a.length : Int) ≤ (↑a.length : Int))) (br (decide (36 ≤ (↑a.length : Int))) (ji d e f g h b (List.drop 4 (List.take (Int.toNat 36) a)) v fun j => agl (List.drop 36 (List.take (↑a.length : Int).toNat a)) (↑j.length : Int) 0 [] d e f g h b j fun z A B l m n o p q r C => gy m n o p q r 32896 [l] fun s => k s 0) none) none) none)) none))
def ko {ρ : Type} := shut (agf (ρ := ρ))
theorem amy {ρ : Type} (a : Int) (b : List Int) (c : Int) (d : List Int) (e : List Int) (k : (List Int) → Int → Option ρ) : ko a b c d e k = agf a b c d e k := by unfold ko; rw [ay]

abbrev bt3 (ρ : Type) := Int → (List Int) → (List Int) → (List Int) → (List Int) → Option ρ
def ax1 {ρ : Type} (c : Int) (b e d a : List Int) (nx f : bt3 ρ) : Option ρ := br (decide (c > (1 : Int))) (br (decide ((32 : Int) ≤ (↑a.length : Int))) (br (c.tmod (2 : Int) == (1 : Int)) (uq b (IntKind.u64.wrap (c.tdiv (2 : Int))) (33667 : Int) [List.drop 0 (List.take (Int.toNat (32 : Int)) a), d] fun g => br (decide ((32 : Int) ≤ (↑a.length : Int))) (br (decide ((↑a.length : Int) ≤ (↑a.length : Int))) (nx (IntKind.u64.wrap (c.tdiv (2 : Int))) b e g (List.drop 32 (List.take (↑a.length : Int).toNat a))) none) none) (uq b (IntKind.u64.wrap (c.tdiv (2 : Int))) (33667 : Int) [d, List.drop 0 (List.take (Int.toNat (32 : Int)) a)] fun h => br (decide ((32 : Int) ≤ (↑a.length : Int))) (br (decide ((↑a.length : Int) ≤ (↑a.length : Int))) (nx (IntKind.u64.wrap (c.tdiv (2 : Int))) b e h (List.drop 32 (List.take (↑a.length : Int).toNat a))) none) none)) none) (f c b e d a)
abbrev bq4 := Int × (List Int) × (List Int) × (List Int) × (List Int)
abbrev bww := bq4
def bzj {ρ : Type} (f : bq4 → Option ρ) : bt3 ρ := fun d a e b c => f (d, a, e, b, c)
def bsv {ρ : Type} : afi bq4 bww ρ := fun (d, a, e, b, c) next ex => ax1 d a e b c (bzj next) (bzj ex)
def byb {ρ : Type} := shut (lp (bsv (ρ := ρ)))
theorem bz5 {ρ : Type} : byb (ρ := ρ) = lp bsv := ay _
def byz {ρ : Type} (f : afj bq4 bww ρ) (d : Int) (a e b c : List Int) (g : bt3 ρ) : Option ρ := f (d, a, e, b, c) (fun (d, a, e, b, c) => g d a e b c)
def ax5 {ρ : Type} := byz (lp (bsv (ρ := ρ)))
def aoj {ρ : Type} := byz (byb (ρ := ρ))
theorem bga {ρ : Type} : aoj (ρ := ρ) = ax5 := congrArg byz bz5
def apz {ρ : Type} (a d : Int) (e h b : List Int) (k : (List Int) → Option ρ) : Option ρ := br (decide (4 ≤ (↑b.length : Int))) (jy (List.drop 0 (List.take (Int.toNat 4) b)) fun f => jv d fun c => br (decide (4 ≤ IntKind.i64.wrap (4 + c))) (br (decide (IntKind.i64.wrap (4 + c) ≤ (↑b.length : Int))) (ko d e (IntKind.u32.wrap f) h (List.drop 4 (List.take (IntKind.i64.wrap (4 + c)).toNat b)) fun i l => br (decide (a < 0)) none (uq e (IntKind.u64.wrap (IntKind.u64.wrap (1 * 2 ^ min a.toNat 64) + IntKind.u64.wrap (IntKind.u32.wrap f))) 33410 [i] fun g => br (decide (0 ≤ IntKind.i64.wrap (IntKind.i64.wrap (4 + c) + 4))) (br (decide (IntKind.i64.wrap (IntKind.i64.wrap (4 + c) + 4) ≤ (↑b.length : Int))) (br (decide ((↑b.length : Int) ≤ (↑b.length : Int))) (br (decide (a < 0)) none (aoj (IntKind.u64.wrap (IntKind.u64.wrap (1 * 2 ^ min a.toNat 64) + IntKind.u64.wrap (IntKind.u32.wrap f))) e g g (List.drop (IntKind.i64.wrap (IntKind.i64.wrap (4 + c) + 4)).toNat (List.take (↑b.length : Int).toNat b)) fun m n o j p => k j)) none) none) none)) none) none) none
def ag0 {ρ : Type} := shut (apz (ρ := ρ))
theorem bbu {ρ : Type} (a : Int) (b : Int) (c : List Int) (d : List Int) (e : List Int) (k : (List Int) → Option ρ) : ag0 a b c d e k = apz a b c d e k := by unfold ag0; rw [ay]

def ahm {ρ : Type} (a j b : List Int) (k : Int → Option ρ) : Option ρ := br ((↑a.length : Int) != 56) (k 10) (br (decide (4 ≤ (↑a.length : Int))) (jy (List.drop 0 (List.take (Int.toNat 4) a)) fun l => tq l fun m => br (m == 0) (k 10) (br (decide (8 ≤ (↑a.length : Int))) (jy (List.drop 4 (List.take (Int.toNat 8) a)) fun n => yh n fun o => br (o == 0) (k 10) (ahb b fun r c d p e => br (e != 0) (k e) (br (decide ((↑p.length : Int) > 0)) (k 1) (ab8 c d fun q => br (decide (8 ≤ (↑a.length : Int))) (aa7 q (List.drop 0 (List.take (Int.toNat 8) a)) fun f => br (!f) (k 1) (br (decide (4 ≤ (↑b.length : Int))) (jy (List.drop 0 (List.take (Int.toNat 4) b)) fun g => br (decide (c < 0)) none (br (g.fdiv (2 ^ min c.toNat 64) != 0) (k 13) (br (decide (24 ≤ (↑a.length : Int))) (ag0 c d (List.drop 8 (List.take (Int.toNat 24) a)) j b fun h => br (decide (24 ≤ (↑a.length : Int))) (br (decide ((↑a.length : Int) ≤ (↑a.length : Int))) (aa7 h (List.drop 24 (List.take (↑a.length : Int).toNat a)) fun i => br (!i) (k 11) (k 0)) none) none) none))) none)) none)))) none)) none)
def abp {ρ : Type} := shut (ahm (ρ := ρ))
theorem am1 {ρ : Type} (a : List Int) (b : List Int) (c : List Int) (k : Int → Option ρ) : abp a b c k = ahm a b c k := by unfold abp; rw [ay]

def aiq {ρ : Type} (k : Bool → Option ρ) : Option ρ := ze 5 8 fun a => br (a == 1292) (abp [] [] [] fun b => br (b == 10) (wm 6 8 fun c => br (!c) (wm 5 8 fun d => k d) (k false)) (k false)) (k false)
def um {ρ : Type} := shut (aiq (ρ := ρ))
theorem aq0 {ρ : Type}  (k : Bool → Option ρ) : um  k = aiq  k := by unfold um; rw [ay]

def uw {ρ : Type} (a b : Int) (c d : List Int) (k : Int → Option ρ) : Option ρ := wm a b fun e => br (!e) (k 9) (br ((↑c.length : Int) != 16) (k 14) (br ((↑d.length : Int) != 32) (k 14) (br (decide (a > 10)) (k 8) (k 0))))
def o7 {ρ : Type} := shut (uw (ρ := ρ))
theorem ajt {ρ : Type} (a : Int) (b : Int) (c : List Int) (d : List Int) (k : Int → Option ρ) : o7 a b c d k = uw a b c d k := by unfold o7; rw [ay]

def aex {ρ : Type} (h : Int) (i : List Int) (j : Int) (l : List Int) (k : Int → (List Int) → Int → Int → Int → Int → Int → Option ρ) : Option ρ := tu h i j fun b c d e f g a => br (a == 0) (br ((↑l.length : Int) != 32) (k 0 [] 0 0 0 0 14) (k b c d e f g a)) (k b c d e f g a)
def qh {ρ : Type} := shut (aex (ρ := ρ))
theorem aj2 {ρ : Type} (a : Int) (b : List Int) (c : Int) (d : List Int) (k : Int → (List Int) → Int → Int → Int → Int → Int → Option ρ) : qh a b c d k = aex a b c d k := by unfold qh; rw [ay]

def ab9 {ρ : Type} (e : Int) (d : List Int) (f a b c g : Int) (h : List Int) (k : (List Int) → Option ρ) : Option ρ := gy e d f a b c g [[255], h] fun i => k i
def l6 {ρ : Type} := shut (ab9 (ρ := ρ))
theorem agy {ρ : Type} (e : Int) (d : List Int) (f : Int) (a : Int) (b : Int) (c : Int) (g : Int) (h : List Int) (k : (List Int) → Option ρ) : l6 e d f a b c g h k = ab9 e d f a b c g h k := by unfold l6; rw [ay]

abbrev bup (ρ : Type) := (List Int) → Int → Int → (List Int) → Int → (List Int) → Int → Int → Int → Int → Option ρ
def af0 {ρ : Type} (i : List Int) (h g : Int) (j : List Int) (a : Int) (b : List Int) (c d e f : Int) (nx l : bup ρ) : Option ρ := br (decide (g < h)) (l5 a b c d e f fun m => l6 a b c d e f (IntKind.u64.wrap g) i fun n => jk a b c d e f g 0 m n fun k => br (decide ((j.length + k.length) * 1 ≤ 140737488355328)) (nx i h (IntKind.i64.wrap (g + 1)) (j ++ k) a b c d e f) none) (l i h g j a b c d e f)
abbrev bp5 := (List Int) × Int × Int × (List Int) × Int × (List Int) × Int × Int × Int × Int
abbrev bva := bp5
def bv6 {ρ : Type} (f : bp5 → Option ρ) : bup ρ := fun j h i k a b c d e g => f (j, h, i, k, a, b, c, d, e, g)
def brp {ρ : Type} : afi bp5 bva ρ := fun (i, g, h, j, a, b, c, d, e, f) next ex => af0 i g h j a b c d e f (bv6 next) (bv6 ex)
def byn {ρ : Type} := shut (lp (brp (ρ := ρ)))
theorem bz8 {ρ : Type} : byn (ρ := ρ) = lp brp := ay _
def bth {ρ : Type} (f : afj bp5 bva ρ) (j : List Int) (h i : Int) (k : List Int) (a : Int) (b : List Int) (c d e g : Int) (l : bup ρ) : Option ρ := f (j, h, i, k, a, b, c, d, e, g) (fun (j, h, i, k, a, b, c, d, e, g) => l j h i k a b c d e g)
def ake {ρ : Type} := bth (lp (brp (ρ := ρ)))
def ajf {ρ : Type} := bth (byn (ρ := ρ))
theorem anj {ρ : Type} : ajf (ρ := ρ) = ake := congrArg bth bz8
def ae1 {ρ : Type} (m : Int) (n : List Int) (o : Int) (a : List Int) (k : (List Int) → Int → Option ρ) : Option ρ := qh m n o a fun p q r b s t c => br (c != 0) (k [] c) (ajf a b 0 [] p q r b s t fun u v w d e f g h i j => gy e f g h i j 32896 [d] fun l => k l 0)
def yw {ρ : Type} := shut (ae1 (ρ := ρ))
theorem aj1 {ρ : Type} (a : Int) (b : List Int) (c : Int) (d : List Int) (k : (List Int) → Int → Option ρ) : yw a b c d k = ae1 a b c d k := by unfold yw; rw [ay]

def zy {ρ : Type} (rc : Int → Int → (List Int) → (List Int) → Int → ((List Int) → Option ρ) → Option ρ) (a b : Int) (c d : List Int) (e : Int) (k : (List Int) → Option ρ) : Option ρ := br (decide (a < 0)) none (br (decide (e ≥ IntKind.u64.wrap (1 * 2 ^ min a.toNat 64))) (yw b c (IntKind.u32.wrap (IntKind.u64.wrap (e - IntKind.u64.wrap (1 * 2 ^ min a.toNat 64)))) d fun f l => uq c e 33410 [f] fun g => k g) (rc a b c d (IntKind.u64.wrap (2 * e)) fun h => rc a b c d (IntKind.u64.wrap (IntKind.u64.wrap (2 * e) + 1)) fun i => uq c e 33667 [h, i] fun j => k j))
def gq {ρ : Type} (n : Nat) : Int → Int → (List Int) → (List Int) → Int → ((List Int) → Option ρ) → Option ρ := Nat.rec (fun _ _ _ _ _ _ => none) (fun _ rc => shut (zy (ρ := ρ) rc)) n
theorem acy {ρ : Type} (n : Nat) : gq (ρ := ρ) (n + 1) = zy (gq n) := ay _

def ad8 {ρ : Type} (a b : Int) (c d : List Int) (k : (List Int) → Int → Option ρ) : Option ρ := o7 a b c d fun e => br (e != 0) (k [] e) (ab8 a b fun f => gq (a.toNat + 2) a b c d 1 fun g => fu [f, c, g] fun h => k h 0)
def aak {ρ : Type} := shut (ad8 (ρ := ρ))
theorem aib {ρ : Type} (a : Int) (b : Int) (c : List Int) (d : List Int) (k : (List Int) → Int → Option ρ) : aak a b c d k = ad8 a b c d k := by unfold aak; rw [ay]

abbrev bu8 (ρ : Type) := (List (List Int)) → Int → (List Int) → Option ρ
def al1 {ρ : Type} (b : List (List Int)) (a : Int) (c : List Int) (nx d : bu8 ρ) : Option ρ := br (decide (a < (↑b.length : Int))) (br (decide (0 ≤ a)) (br (decide (a < (↑b.length : Int))) (br (decide ((c.length + (b.getD a.toNat []).length) * 1 ≤ 140737488355328)) (nx b (IntKind.i64.wrap (a + 1)) (c ++ b.getD a.toNat [])) none) none) none) (d b a c)
abbrev bp6 := (List (List Int)) × Int × (List Int)
abbrev bw7 := bp6
def bvy {ρ : Type} (f : bp6 → Option ρ) : bu8 ρ := fun a b c => f (a, b, c)
def bps {ρ : Type} : afi bp6 bw7 ρ := fun (a, b, c) next ex => al1 a b c (bvy next) (bvy ex)
def bt8 {ρ : Type} := shut (lp (bps (ρ := ρ)))
theorem bzg {ρ : Type} : bt8 (ρ := ρ) = lp bps := ay _
def bts {ρ : Type} (f : afj bp6 bw7 ρ) (a : List (List Int)) (b : Int) (c : List Int) (d : bu8 ρ) : Option ρ := f (a, b, c) (fun (a, b, c) => d a b c)
def auo {ρ : Type} := bts (lp (bps (ρ := ρ)))
def auk {ρ : Type} := bts (bt8 (ρ := ρ))
theorem au1 {ρ : Type} : auk (ρ := ρ) = auo := congrArg bts bzg
def akf {ρ : Type} (a : List (List Int)) (k : (List Int) → Option ρ) : Option ρ := auk a 0 [] fun c d b => k b
def kg {ρ : Type} := shut (akf (ρ := ρ))
theorem atj {ρ : Type} (a : List (List Int)) (k : (List Int) → Option ρ) : kg a k = akf a k := by unfold kg; rw [ay]

def yg {ρ : Type} (a b : Int) (c d : List Int) (k : Int → Option ρ) : Option ρ := yx a b fun e => br (!e) (k 9) (br ((↑c.length : Int) != 16) (k 14) (br ((↑d.length : Int) != 32) (k 14) (br (decide (a > 10)) (k 8) (k 0))))
def uj {ρ : Type} := shut (yg (ρ := ρ))
theorem ap5 {ρ : Type} (a : Int) (b : Int) (c : List Int) (d : List Int) (k : Int → Option ρ) : uj a b c d k = yg a b c d k := by unfold uj; rw [ay]

abbrev bwb (ρ : Type) := Int → Int → (List Int) → Option ρ
def aud {ρ : Type} (b a : Int) (c : List Int) (nx d : bwb ρ) : Option ρ := br (decide (a ≥ 0)) (br (decide (0 ≤ a)) (br (decide (a < (↑c.length : Int))) (nx (b.fdiv (2 ^ 8)) (IntKind.i64.wrap (a - 1)) (c.set a.toNat (IntKind.u8.wrap (bits BinOp.and IntKind.u64 b 255)))) none) none) (d b a c)
abbrev bqe := Int × Int × (List Int)
abbrev bwc := bqe
def byq {ρ : Type} (f : bqe → Option ρ) : bwb ρ := fun a b c => f (a, b, c)
def bpz {ρ : Type} : afi bqe bwc ρ := fun (a, b, c) next ex => aud a b c (byq next) (byq ex)
def bw6 {ρ : Type} := shut (lp (bpz (ρ := ρ)))
theorem bzn {ρ : Type} : bw6 (ρ := ρ) = lp bpz := ay _
def bsq {ρ : Type} (f : afj bqe bwc ρ) (a b : Int) (c : List Int) (d : bwb ρ) : Option ρ := f (a, b, c) (fun (a, b, c) => d a b c)
def bbh {ρ : Type} := bsq (lp (bpz (ρ := ρ)))
def bay {ρ : Type} := bsq (bw6 (ρ := ρ))
theorem ay8 {ρ : Type} : bay (ρ := ρ) = bbh := congrArg bsq bzn
def apt {ρ : Type} (b a : Int) (k : (List Int) → Option ρ) : Option ρ := br (decide (a < 0)) (k []) (br (decide (a > 65536)) (k []) (br (decide (0 ≤ a)) (br (decide (a ≤ a)) (br (decide (a * (↑1 : Int) ≤ (↑140737488355328 : Int))) (bay b (IntKind.i64.wrap (a - 1)) (List.replicate a.toNat (0 : Int)) fun d e c => k c) none) none) none))
def jd {ρ : Type} := shut (apt (ρ := ρ))
theorem bab {ρ : Type} (a : Int) (b : Int) (k : (List Int) → Option ρ) : jd a b k = apt a b k := by unfold jd; rw [ay]

def akb {ρ : Type} (a b : Int) (k : (List Int) → Option ρ) : Option ρ := og b fun g h e => sw a fun f => jd f 4 fun c => jd e 4 fun d => br (decide ((c.length + d.length) * 1 ≤ 140737488355328)) (k (c ++ d)) none
def aff {ρ : Type} := shut (akb (ρ := ρ))
theorem atr {ρ : Type} (a : Int) (b : Int) (k : (List Int) → Option ρ) : aff a b k = akb a b k := by unfold aff; rw [ay]

def ah8 {ρ : Type} (a : Int) (b c : List Int) (k : Int → Option ρ) : Option ρ := og a fun d e f => br (d == 0) (k 9) (br ((↑b.length : Int) != 16) (k 14) (br ((↑c.length : Int) != 32) (k 14) (k 0)))
def aaf {ρ : Type} := shut (ah8 (ρ := ρ))
theorem aqs {ρ : Type} (a : Int) (b : List Int) (c : List Int) (k : Int → Option ρ) : aaf a b c k = ah8 a b c k := by unfold aaf; rw [ay]

def ami {ρ : Type} (a : Int) (k : Int → (List Int) → (List Int) → Int → Int → Option ρ) : Option ρ := br (a == 1) (k a [1779033703, 3144134277, 1013904242, 2773480762, 1359893119, 2600822924, 528734635, 1541459225] [] 0 0) (br (a == 2) (k a [14680500436340154072, 7105036623409894663, 10473403895298186519, 1526699215303891257, 7436329637833083697, 10282925794625328401, 15784041429090275239, 5167115440072839076] [] 0 0) (br (a == 3) (k a [7640891576956012808, 13503953896175478587, 4354685564936845355, 11912009170470909681, 5840696475078001361, 11170449401992604703, 2270897969802886507, 6620516959819538809] [] 0 0) (k 0 [0, 0, 0, 0, 0, 0, 0, 0] [] 0 9)))
def agh {ρ : Type} := shut (ami (ρ := ρ))
theorem awl {ρ : Type} (a : Int) (k : Int → (List Int) → (List Int) → Int → Int → Option ρ) : agh a k = ami a k := by unfold agh; rw [ay]

def aip {ρ : Type} (a : Int) (k : Int → Option ρ) : Option ρ := br (a == 1) (k 64) (k 128)
def wz {ρ : Type} := shut (aip (ρ := ρ))
theorem aqt {ρ : Type} (a : Int) (k : Int → Option ρ) : wz a k = aip a k := by unfold wz; rw [ay]

def aiz {ρ : Type} (k : (List Int) → Option ρ) : Option ρ := k [1116352408, 1899447441, 3049323471, 3921009573, 961987163, 1508970993, 2453635748, 2870763221, 3624381080, 310598401, 607225278, 1426881987, 1925078388, 2162078206, 2614888103, 3248222580, 3835390401, 4022224774, 264347078, 604807628, 770255983, 1249150122, 1555081692, 1996064986, 2554220882, 2821834349, 2952996808, 3210313671, 3336571891, 3584528711, 113926993, 338241895, 666307205, 773529912, 1294757372, 1396182291, 1695183700, 1986661051, 2177026350, 2456956037, 2730485921, 2820302411, 3259730800, 3345764771, 3516065817, 3600352804, 4094571909, 275423344, 430227734, 506948616, 659060556, 883997877, 958139571, 1322822218, 1537002063, 1747873779, 1955562222, 2024104815, 2227730452, 2361852424, 2428436474, 2756734187, 3204031479, 3329325298]
def uy {ρ : Type} := shut (aiz (ρ := ρ))
theorem agb {ρ : Type}  (k : (List Int) → Option ρ) : uy  k = aiz  k := by unfold uy; rw [ay]

def ai3 {ρ : Type} (k : (List Int) → Option ρ) : Option ρ := k [4794697086780616226, 8158064640168781261, 13096744586834688815, 16840607885511220156, 4131703408338449720, 6480981068601479193, 10538285296894168987, 12329834152419229976, 15566598209576043074, 1334009975649890238, 2608012711638119052, 6128411473006802146, 8268148722764581231, 9286055187155687089, 11230858885718282805, 13951009754708518548, 16472876342353939154, 17275323862435702243, 1135362057144423861, 2597628984639134821, 3308224258029322869, 5365058923640841347, 6679025012923562964, 8573033837759648693, 10970295158949994411, 12119686244451234320, 12683024718118986047, 13788192230050041572, 14330467153632333762, 15395433587784984357, 489312712824947311, 1452737877330783856, 2861767655752347644, 3322285676063803686, 5560940570517711597, 5996557281743188959, 7280758554555802590, 8532644243296465576, 9350256976987008742, 10552545826968843579, 11727347734174303076, 12113106623233404929, 14000437183269869457, 14369950271660146224, 15101387698204529176, 15463397548674623760, 17586052441742319658, 1182934255886127544, 1847814050463011016, 2177327727835720531, 2830643537854262169, 3796741975233480872, 4115178125766777443, 5681478168544905931, 6601373596472566643, 7507060721942968483, 8399075790359081724, 8693463985226723168, 9568029438360202098, 10144078919501101548, 10430055236837252648, 11840083180663258601, 13761210420658862357, 14299343276471374635, 14566680578165727644, 15097957966210449927, 16922976911328602910, 17689382322260857208, 500013540394364858, 748580250866718886, 1242879168328830382, 1977374033974150939, 2944078676154940804, 3659926193048069267, 4368137639120453308, 4836135668995329356, 5532061633213252278, 6448918945643986474, 6902733635092675308, 7801388544844847127]
def uz {ρ : Type} := shut (ai3 (ρ := ρ))
theorem aga {ρ : Type}  (k : (List Int) → Option ρ) : uz  k = ai3  k := by unfold uz; rw [ay]

def adh {ρ : Type} (b a : Int) (c : Bool) (k : Int → Option ρ) : Option ρ := br c (br (decide (a < 0)) none (br (decide (IntKind.i64.wrap (64 - a) < 0)) none (k (bits BinOp.or IntKind.u64 (b.fdiv (2 ^ min a.toNat 64)) (IntKind.u64.wrap (b * 2 ^ min (IntKind.i64.wrap (64 - a)).toNat 64)))))) (br (decide (a < 0)) none (br (decide (IntKind.i64.wrap (32 - a) < 0)) none (k (bits BinOp.or IntKind.u64 (b.fdiv (2 ^ min a.toNat 64)) (bits BinOp.and IntKind.u64 (IntKind.u64.wrap (b * 2 ^ min (IntKind.i64.wrap (32 - a)).toNat 64)) 4294967295)))))
def vg {ρ : Type} := shut (adh (ρ := ρ))
theorem ag3 {ρ : Type} (a : Int) (b : Int) (c : Bool) (k : Int → Option ρ) : vg a b c k = adh a b c k := by unfold vg; rw [ay]

def aay {ρ : Type} (a d e c : Int) (f b : Bool) (k : Int → Option ρ) : Option ρ := br (decide (c < 0)) none (br (!f) (vg a c b fun g => vg a d b fun h => vg a e b fun i => k (bits BinOp.xor IntKind.u64 (bits BinOp.xor IntKind.u64 h i) g)) (vg a d b fun j => vg a e b fun l => k (bits BinOp.xor IntKind.u64 (bits BinOp.xor IntKind.u64 j l) (a.fdiv (2 ^ min c.toNat 64)))))
def vk {ρ : Type} := shut (aay (ρ := ρ))
theorem adw {ρ : Type} (a : Int) (b : Int) (c : Int) (d : Int) (e : Bool) (f : Bool) (k : Int → Option ρ) : vk a b c d e f k = aay a b c d e f k := by unfold vk; rw [ay]

abbrev bt6 (ρ : Type) := (List Int) → Int → Int → Option ρ
def apj {ρ : Type} (b : List Int) (c a : Int) (nx d : bt6 ρ) : Option ρ := br (decide (a < (↑b.length : Int))) (br (decide (0 ≤ a)) (br (decide (a < (↑b.length : Int))) (nx b (IntKind.u64.wrap (IntKind.u64.wrap (c * 256) + IntKind.u64.wrap (b.getD a.toNat 0))) (IntKind.i64.wrap (a + 1))) none) none) (d b c a)
abbrev bq2 := (List Int) × Int × Int
abbrev bvw := bq2
def bxc {ρ : Type} (f : bq2 → Option ρ) : bt6 ρ := fun a b c => f (a, b, c)
def bpd {ρ : Type} : afi bq2 bvw ρ := fun (a, b, c) next ex => apj a b c (bxc next) (bxc ex)
def bx7 {ρ : Type} := shut (lp (bpd (ρ := ρ)))
theorem by6 {ρ : Type} : bx7 (ρ := ρ) = lp bpd := ay _
def bs7 {ρ : Type} (f : afj bq2 bvw ρ) (a : List Int) (b c : Int) (d : bt6 ρ) : Option ρ := f (a, b, c) (fun (a, b, c) => d a b c)
def avt {ρ : Type} := bs7 (lp (bpd (ρ := ρ)))
def avg {ρ : Type} := bs7 (bx7 (ρ := ρ))
theorem ax2 {ρ : Type} : avg (ρ := ρ) = avt := congrArg bs7 by6
def alg {ρ : Type} (a : List Int) (k : Int → Option ρ) : Option ρ := avg a 0 0 fun c b d => k b
def aev {ρ : Type} := shut (alg (ρ := ρ))
theorem au9 {ρ : Type} (a : List Int) (k : Int → Option ρ) : aev a k = alg a k := by unfold aev; rw [ay]

abbrev bvn (ρ : Type) := (List Int) → Bool → Int → Int → Int → Int → (List Int) → Option ρ
def aeb {ρ : Type} (d : List Int) (f : Bool) (g e c a : Int) (b : List Int) (nx h : bvn ρ) : Option ρ := br (decide (a < g)) (br (decide (a < 16)) (br (decide (0 ≤ IntKind.i64.wrap (a * c))) (br (decide (IntKind.i64.wrap (a * c) ≤ IntKind.i64.wrap (IntKind.i64.wrap (a * c) + c))) (br (decide (IntKind.i64.wrap (IntKind.i64.wrap (a * c) + c) ≤ (↑d.length : Int))) (aev (List.drop (IntKind.i64.wrap (a * c)).toNat (List.take (IntKind.i64.wrap (IntKind.i64.wrap (a * c) + c)).toNat d)) fun i => br (decide ((b.length + 1) * 8 ≤ 140737488355328)) (nx d f g e c (IntKind.i64.wrap (a + 1)) (b ++ [i])) none) none) none) none) (br (decide (0 ≤ IntKind.i64.wrap (a - 15))) (br (decide (IntKind.i64.wrap (a - 15) < (↑b.length : Int))) (vk (b.getD (IntKind.i64.wrap (a - 15)).toNat 0) 7 18 3 true false fun j => br (decide (0 ≤ IntKind.i64.wrap (a - 2))) (br (decide (IntKind.i64.wrap (a - 2) < (↑b.length : Int))) (vk (b.getD (IntKind.i64.wrap (a - 2)).toNat 0) 17 19 10 true false fun k => br f (br (decide (0 ≤ IntKind.i64.wrap (a - 15))) (br (decide (IntKind.i64.wrap (a - 15) < (↑b.length : Int))) (vk (b.getD (IntKind.i64.wrap (a - 15)).toNat 0) 1 8 7 true true fun l => br (decide (0 ≤ IntKind.i64.wrap (a - 2))) (br (decide (IntKind.i64.wrap (a - 2) < (↑b.length : Int))) (vk (b.getD (IntKind.i64.wrap (a - 2)).toNat 0) 19 61 6 true true fun m => br (decide (0 ≤ IntKind.i64.wrap (a - 7))) (br (decide (IntKind.i64.wrap (a - 7) < (↑b.length : Int))) (br (decide (0 ≤ IntKind.i64.wrap (a - 16))) (br (decide (IntKind.i64.wrap (a - 16) < (↑b.length : Int))) (br (decide ((b.length + 1) * 8 ≤ 140737488355328)) (nx d f g e c (IntKind.i64.wrap (a + 1)) (b ++ [bits BinOp.and IntKind.u64 (IntKind.u64.wrap (IntKind.u64.wrap (IntKind.u64.wrap (m + b.getD (IntKind.i64.wrap (a - 7)).toNat 0) + l) + b.getD (IntKind.i64.wrap (a - 16)).toNat 0)) e])) none) none) none) none) none) none) none) none) none) (br (decide (0 ≤ IntKind.i64.wrap (a - 7))) (br (decide (IntKind.i64.wrap (a - 7) < (↑b.length : Int))) (br (decide (0 ≤ IntKind.i64.wrap (a - 16))) (br (decide (IntKind.i64.wrap (a - 16) < (↑b.length : Int))) (br (decide ((b.length + 1) * 8 ≤ 140737488355328)) (nx d f g e c (IntKind.i64.wrap (a + 1)) (b ++ [bits BinOp.and IntKind.u64 (IntKind.u64.wrap (IntKind.u64.wrap (IntKind.u64.wrap (k + b.getD (IntKind.i64.wrap (a - 7)).toNat 0) + j) + b.getD (IntKind.i64.wrap (a - 16)).toNat 0)) e])) none) none) none) none) none)) none) none) none) none)) (h d f g e c a b)
abbrev bre := (List Int) × Bool × Int × Int × Int × Int × (List Int)
abbrev bwg := bre
def bs4 {ρ : Type} (f : bre → Option ρ) : bvn ρ := fun b c d e g a h => f (b, c, d, e, g, a, h)
def bo5 {ρ : Type} : afi bre bwg ρ := fun (b, c, d, e, f, a, g) next ex => aeb b c d e f a g (bs4 next) (bs4 ex)
def bul {ρ : Type} := shut (lp (bo5 (ρ := ρ)))
theorem bz9 {ρ : Type} : bul (ρ := ρ) = lp bo5 := ay _
def bqt {ρ : Type} (f : afj bre bwg ρ) (b : List Int) (c : Bool) (d e g a : Int) (h : List Int) (i : bvn ρ) : Option ρ := f (b, c, d, e, g, a, h) (fun (b, c, d, e, g, a, h) => i b c d e g a h)
def ajl {ρ : Type} := bqt (lp (bo5 (ρ := ρ)))
def ajv {ρ : Type} := bqt (bul (ρ := ρ))
theorem ajm {ρ : Type} : ajv (ρ := ρ) = ajl := congrArg bqt bz9
def afg {ρ : Type} (b : List Int) (a : Bool) (c d : Int) (k : (List Int) → Option ρ) : Option ρ := br a (ajv b a c d 8 0 [] fun j l m n o p f => k f) (ajv b a c d 4 0 [] fun q r s g h i e => k e)
def aa2 {ρ : Type} := shut (afg (ρ := ρ))
theorem akl {ρ : Type} (a : List Int) (b : Bool) (c : Int) (d : Int) (k : (List Int) → Option ρ) : aa2 a b c d k = afg a b c d k := by unfold aa2; rw [ay]

abbrev bux (ρ : Type) := Bool → Int → Int → Int → (List Int) → (List Int) → (List Int) → (List Int) → (List Int) → (List Int) → Option ρ
def ac8 {ρ : Type} (i : Bool) (j c b : Int) (g h d e f a : List Int) (nx m : bux ρ) : Option ρ := br (decide (b < j)) (vk (a.getD 0 0) 2 13 22 false false fun n => vk (a.getD 4 0) 6 11 25 false false fun k => br i (vk (a.getD 0 0) 28 34 39 false true fun o => vk (a.getD 4 0) 14 18 41 false true fun l => br (decide (0 ≤ b)) (br (decide (b < (↑80 : Int))) (br (decide (0 ≤ b)) (br (decide (b < (↑f.length : Int))) (nx i j c (IntKind.i64.wrap (b + 1)) g h d e f [bits BinOp.and IntKind.u64 (IntKind.u64.wrap (IntKind.u64.wrap (IntKind.u64.wrap (IntKind.u64.wrap (IntKind.u64.wrap (a.getD 7 0 + l) + bits BinOp.xor IntKind.u64 (bits BinOp.and IntKind.u64 (a.getD 4 0) (a.getD 5 0)) (bits BinOp.and IntKind.u64 (bits BinOp.xor IntKind.u64 c (a.getD 4 0)) (a.getD 6 0))) + e.getD b.toNat 0) + f.getD b.toNat 0) + IntKind.u64.wrap (o + bits BinOp.xor IntKind.u64 (bits BinOp.xor IntKind.u64 (bits BinOp.and IntKind.u64 (a.getD 0 0) (a.getD 1 0)) (bits BinOp.and IntKind.u64 (a.getD 0 0) (a.getD 2 0))) (bits BinOp.and IntKind.u64 (a.getD 1 0) (a.getD 2 0))))) c, a.getD 0 0, a.getD 1 0, a.getD 2 0, bits BinOp.and IntKind.u64 (IntKind.u64.wrap (a.getD 3 0 + IntKind.u64.wrap (IntKind.u64.wrap (IntKind.u64.wrap (IntKind.u64.wrap (a.getD 7 0 + l) + bits BinOp.xor IntKind.u64 (bits BinOp.and IntKind.u64 (a.getD 4 0) (a.getD 5 0)) (bits BinOp.and IntKind.u64 (bits BinOp.xor IntKind.u64 c (a.getD 4 0)) (a.getD 6 0))) + e.getD b.toNat 0) + f.getD b.toNat 0))) c, a.getD 4 0, a.getD 5 0, a.getD 6 0]) none) none) none) none) (br (decide (0 ≤ b)) (br (decide (b < (↑64 : Int))) (br (decide (0 ≤ b)) (br (decide (b < (↑f.length : Int))) (nx i j c (IntKind.i64.wrap (b + 1)) g h d e f [bits BinOp.and IntKind.u64 (IntKind.u64.wrap (IntKind.u64.wrap (IntKind.u64.wrap (IntKind.u64.wrap (IntKind.u64.wrap (a.getD 7 0 + k) + bits BinOp.xor IntKind.u64 (bits BinOp.and IntKind.u64 (a.getD 4 0) (a.getD 5 0)) (bits BinOp.and IntKind.u64 (bits BinOp.xor IntKind.u64 c (a.getD 4 0)) (a.getD 6 0))) + d.getD b.toNat 0) + f.getD b.toNat 0) + IntKind.u64.wrap (n + bits BinOp.xor IntKind.u64 (bits BinOp.xor IntKind.u64 (bits BinOp.and IntKind.u64 (a.getD 0 0) (a.getD 1 0)) (bits BinOp.and IntKind.u64 (a.getD 0 0) (a.getD 2 0))) (bits BinOp.and IntKind.u64 (a.getD 1 0) (a.getD 2 0))))) c, a.getD 0 0, a.getD 1 0, a.getD 2 0, bits BinOp.and IntKind.u64 (IntKind.u64.wrap (a.getD 3 0 + IntKind.u64.wrap (IntKind.u64.wrap (IntKind.u64.wrap (IntKind.u64.wrap (a.getD 7 0 + k) + bits BinOp.xor IntKind.u64 (bits BinOp.and IntKind.u64 (a.getD 4 0) (a.getD 5 0)) (bits BinOp.and IntKind.u64 (bits BinOp.xor IntKind.u64 c (a.getD 4 0)) (a.getD 6 0))) + d.getD b.toNat 0) + f.getD b.toNat 0))) c, a.getD 4 0, a.getD 5 0, a.getD 6 0]) none) none) none) none)) (m i j c b g h d e f a)
abbrev bqr := Bool × Int × Int × Int × (List Int) × (List Int) × (List Int) × (List Int) × (List Int) × (List Int)
abbrev bu1 := bqr
def bsy {ρ : Type} (f : bqr → Option ρ) : bux ρ := fun h i j g a b c d k e => f (h, i, j, g, a, b, c, d, k, e)
def bo8 {ρ : Type} : afi bqr bu1 ρ := fun (g, h, i, f, a, b, c, d, j, e) next ex => ac8 g h i f a b c d j e (bsy next) (bsy ex)
def bty {ρ : Type} := shut (lp (bo8 (ρ := ρ)))
theorem bz4 {ρ : Type} : bty (ρ := ρ) = lp bo8 := ay _
def bpb {ρ : Type} (f : afj bqr bu1 ρ) (h : Bool) (i j g : Int) (a b c d k e : List Int) (l : bux ρ) : Option ρ := f (h, i, j, g, a, b, c, d, k, e) (fun (h, i, j, g, a, b, c, d, k, e) => l h i j g a b c d k e)
def ah7 {ρ : Type} := bpb (lp (bo8 (ρ := ρ)))
def acu {ρ : Type} := bpb (bty (ρ := ρ))
theorem ai5 {ρ : Type} : acu (ρ := ρ) = ah7 := congrArg bpb bz4
abbrev byr (ρ : Type) := Int → Int → (List Int) → (List Int) → (List Int) → Option ρ
def ac6 {ρ : Type} (e a : Int) (b d c : List Int) (nx f : byr ρ) : Option ρ := br (decide (a < 8)) (br (decide (0 ≤ a)) (br (decide (a < (↑8 : Int))) (br (decide (0 ≤ a)) (br (decide (a < (↑8 : Int))) (br (decide (0 ≤ a)) (br (decide (a < (↑8 : Int))) (nx e (IntKind.i64.wrap (a + 1)) b d (c.set a.toNat (bits BinOp.and IntKind.u64 (IntKind.u64.wrap (c.getD a.toNat 0 + b.getD a.toNat 0)) e))) none) none) none) none) none) none) (f e a b d c)
abbrev bqa := Int × Int × (List Int) × (List Int) × (List Int)
abbrev bxb := bqa
def bto {ρ : Type} (f : bqa → Option ρ) : byr ρ := fun e d a b c => f (e, d, a, b, c)
def boy {ρ : Type} : afi bqa bxb ρ := fun (e, d, a, b, c) next ex => ac6 e d a b c (bto next) (bto ex)
def bw4 {ρ : Type} := shut (lp (boy (ρ := ρ)))
theorem bz3 {ρ : Type} : bw4 (ρ := ρ) = lp boy := ay _
def bqb {ρ : Type} (f : afj bqa bxb ρ) (e d : Int) (a b c : List Int) (g : byr ρ) : Option ρ := f (e, d, a, b, c) (fun (e, d, a, b, c) => g e d a b c)
def aic {ρ : Type} := bqb (lp (boy (ρ := ρ)))
def ade {ρ : Type} := bqb (bw4 (ρ := ρ))
theorem ai4 {ρ : Type} : ade (ρ := ρ) = aic := congrArg bqb bz3
def afd {ρ : Type} (b c : List Int) (a : Bool) (k : (List Int) → Option ρ) : Option ρ := uy fun d => uz fun e => br a (aa2 c a 80 18446744073709551615 fun o => acu a 80 18446744073709551615 0 b [0, 0, 0, 0, 0, 0, 0, 0] d e o b fun N O p Q q r U s t f => ade p 0 q r f fun u v w y g => k g) (aa2 c a 64 4294967295 fun h => acu a 64 4294967295 0 b [0, 0, 0, 0, 0, 0, 0, 0] d e h b fun z A i B j l C F G m => ade i 0 j l m fun H I J M n => k n)
def ab5 {ρ : Type} := shut (afd (ρ := ρ))
theorem ajk {ρ : Type} (a : List Int) (b : List Int) (c : Bool) (k : (List Int) → Option ρ) : ab5 a b c k = afd a b c k := by unfold ab5; rw [ay]

abbrev bx3 (ρ : Type) := Int → (List Int) → Int → (List Int) → (List Int) → Int → Int → (List Int) → Int → Option ρ
def ahr {ρ : Type} (a : Int) (b : List Int) (c : Int) (d e : List Int) (f g : Int) (h : List Int) (i : Int) (nx j : bx3 ρ) : Option ρ := br (decide ((↑b.length : Int) ≥ a)) (br (decide (0 ≤ a)) (br (decide (a ≤ (↑b.length : Int))) (ab5 d (List.drop 0 (List.take a.toNat b)) (a == 128) fun k => br (decide (0 ≤ a)) (br (decide (a ≤ (↑b.length : Int))) (br (decide ((↑b.length : Int) ≤ (↑b.length : Int))) (nx a (List.drop a.toNat (List.take (↑b.length : Int).toNat b)) c k e f g h i) none) none) none) none) none) (j a b c d e f g h i)
abbrev bqg := Int × (List Int) × Int × (List Int) × (List Int) × Int × Int × (List Int) × Int
abbrev bya := bqg
def bs3 {ρ : Type} (f : bqg → Option ρ) : bx3 ρ := fun i j a b c d e g h => f (i, j, a, b, c, d, e, g, h)
def bo6 {ρ : Type} : afi bqg bya ρ := fun (h, i, a, b, c, d, e, f, g) next ex => ahr h i a b c d e f g (bs3 next) (bs3 ex)
def buv {ρ : Type} := shut (lp (bo6 (ρ := ρ)))
theorem by2 {ρ : Type} : buv (ρ := ρ) = lp bo6 := ay _
def bsh {ρ : Type} (f : afj bqg bya ρ) (i : Int) (j : List Int) (a : Int) (b c : List Int) (d e : Int) (g : List Int) (h : Int) (k : bx3 ρ) : Option ρ := f (i, j, a, b, c, d, e, g, h) (fun (i, j, a, b, c, d, e, g, h) => k i j a b c d e g h)
def ao2 {ρ : Type} := bsh (lp (bo6 (ρ := ρ)))
def akq {ρ : Type} := bsh (buv (ρ := ρ))
theorem aov {ρ : Type} : akq (ρ := ρ) = ao2 := congrArg bsh by2
def alm {ρ : Type} (a : Int) (c b : List Int) (d : Int) (e : List Int) (k : Int → (List Int) → (List Int) → Int → Option ρ) : Option ρ := wz a fun f => kg [b, e] fun g => akq f g a c b (IntKind.u64.wrap (d + IntKind.u64.wrap (↑e.length : Int))) 0 [0, 0, 0, 0, 0, 0, 0, 0] 0 fun n h i j o l p q m => k i j h l
def abb {ρ : Type} := shut (alm (ρ := ρ))
theorem avi {ρ : Type} (b : Int) (a : List Int) (c : List Int) (d : Int) (e : List Int) (k : Int → (List Int) → (List Int) → Int → Option ρ) : abb b a c d e k = alm b a c d e k := by unfold abb; rw [ay]

abbrev bnq (ρ : Type) := Int → Int → (List Int) → Int → (List Int) → (List Int) → Int → Option ρ
def apb {ρ : Type} (c g : Int) (b : List Int) (d : Int) (e a : List Int) (f : Int) (nx h : bnq ρ) : Option ρ := br (decide (c = 0)) none (br ((IntKind.i64.wrap ((↑a.length : Int) + (↑b.length : Int))).tmod c != IntKind.i64.wrap (c - 8)) (br (decide ((b.length + 1) * 1 ≤ 140737488355328)) (nx c g (b ++ [0]) d e a f) none) (h c g b d e a f))
abbrev bql := Int × Int × (List Int) × Int × (List Int) × (List Int) × Int
abbrev bxw := bql
def bus {ρ : Type} (f : bql → Option ρ) : bnq ρ := fun g h e a b c d => f (g, h, e, a, b, c, d)
def brf {ρ : Type} : afi bql bxw ρ := fun (f, g, e, a, b, c, d) next ex => apb f g e a b c d (bus next) (bus ex)
def bvu {ρ : Type} := shut (lp (brf (ρ := ρ)))
theorem bzw {ρ : Type} : bvu (ρ := ρ) = lp brf := ay _
def bsp {ρ : Type} (f : afj bql bxw ρ) (g h : Int) (e : List Int) (a : Int) (b c : List Int) (d : Int) (i : bnq ρ) : Option ρ := f (g, h, e, a, b, c, d) (fun (g, h, e, a, b, c, d) => i g h e a b c d)
def avz {ρ : Type} := bsp (lp (brf (ρ := ρ)))
def apw {ρ : Type} := bsp (bvu (ρ := ρ))
theorem aym {ρ : Type} : apw (ρ := ρ) = avz := congrArg bsp bzw
abbrev zc37 (ρ : Type) := Int → Int → (List Int) → Int → (List Int) → (List Int) → Int → Option ρ
def apq {ρ : Type} (c g : Int) (b : List Int) (d : Int) (e a : List Int) (f : Int) (nx h : bnq ρ) : Option ρ := br (decide (c = 0)) none (br ((IntKind.i64.wrap ((↑a.length : Int) + (↑b.length : Int))).tmod c != IntKind.i64.wrap (c - 16)) (br (decide ((b.length + 1) * 1 ≤ 140737488355328)) (nx c g (b ++ [0]) d e a f) none) (h c g b d e a f))
abbrev bpw := Int × Int × (List Int) × Int × (List Int) × (List Int) × Int
abbrev byp := bpw
def bvp {ρ : Type} (f : bpw → Option ρ) : zc37 ρ := fun g h e a b c d => f (g, h, e, a, b, c, d)
def bqh {ρ : Type} : afi bpw byp ρ := fun (f, g, e, a, b, c, d) next ex => apq f g e a b c d (bvp next) (bvp ex)
def bwr {ρ : Type} := shut (lp (bqh (ρ := ρ)))
theorem bzu {ρ : Type} : bwr (ρ := ρ) = lp bqh := ay _
def btq {ρ : Type} (f : afj bpw byp ρ) (g h : Int) (e : List Int) (a : Int) (b c : List Int) (d : Int) (i : bnq ρ) : Option ρ := f (g, h, e, a, b, c, d) (fun (g, h, e, a, b, c, d) => i g h e a b c d)
def avc {ρ : Type} := btq (lp (bqh (ρ := ρ)))
def apn {ρ : Type} := btq (bwr (ρ := ρ))
theorem ax6 {ρ : Type} : apn (ρ := ρ) = avc := congrArg btq bzu
abbrev zc38 (ρ : Type) := Int → Int → (List Int) → Int → (List Int) → (List Int) → Int → Option ρ
def al2 {ρ : Type} (g c : Int) (a : List Int) (d : Int) (b e : List Int) (f : Int) (nx i : bnq ρ) : Option ρ := br (decide (c < 8)) (br (decide (0 ≤ c)) (br (decide (c < (↑8 : Int))) (jd (b.getD c.toNat 0) (IntKind.i64.wrap (g.tdiv 16)) fun h => br (decide ((a.length + h.length) * 1 ≤ 140737488355328)) (nx g (IntKind.i64.wrap (c + 1)) (a ++ h) d b e f) none) none) none) (i g c a d b e f)
abbrev bqs := Int × Int × (List Int) × Int × (List Int) × (List Int) × Int
abbrev bxs := bqs
def buy {ρ : Type} (f : bqs → Option ρ) : zc38 ρ := fun g h a b c d e => f (g, h, a, b, c, d, e)
def bqw {ρ : Type} : afi bqs bxs ρ := fun (f, g, a, b, c, d, e) next ex => al2 f g a b c d e (buy next) (buy ex)
def bw0 {ρ : Type} := shut (lp (bqw (ρ := ρ)))
theorem by8 {ρ : Type} : bw0 (ρ := ρ) = lp bqw := ay _
def bsn {ρ : Type} (f : afj bqs bxs ρ) (g h : Int) (a : List Int) (b : Int) (c d : List Int) (e : Int) (i : bnq ρ) : Option ρ := f (g, h, a, b, c, d, e) (fun (g, h, a, b, c, d, e) => i g h a b c d e)
def atv {ρ : Type} := bsn (lp (bqw (ρ := ρ)))
def aio {ρ : Type} := bsn (bw0 (ρ := ρ))
theorem auz {ρ : Type} : aio (ρ := ρ) = atv := congrArg bsn by8
def al9 {ρ : Type} (a : Int) (c d : List Int) (b : Int) (k : (List Int) → Option ρ) : Option ρ := wz a fun J => apw J (IntKind.u64.wrap (b * 8)) [128] a c d b fun m n o p q r s => br (m == 128) (apn m n [128] p q r s fun M N e t u v i => jd (i.fdiv (2 ^ 61)) 8 fun f => br (decide ((e.length + f.length) * 1 ≤ 140737488355328)) (jd N 8 fun j => br (decide (((e ++ f).length + j.length) * 1 ≤ 140737488355328)) (abb t u v i (e ++ f ++ j) fun w y z A => aio M 0 [] w y z A fun O Q g B U W Z => br (B == 2) (br (decide (48 ≤ (↑g.length : Int))) (k (List.take ((48 : Int) - (0 : Int)).toNat g)) none) (k g)) none) none) (jd n 8 fun l => br (decide ((o.length + l.length) * 1 ≤ 140737488355328)) (abb p q r s (o ++ l) fun C F G H => aio m 0 [] C F G H fun aa ab h I ac ad ae => br (I == 2) (br (decide (48 ≤ (↑h.length : Int))) (k (List.take ((48 : Int) - (0 : Int)).toNat h)) none) (k h)) none)
def afy {ρ : Type} := shut (al9 (ρ := ρ))
theorem avr {ρ : Type} (b : Int) (a : List Int) (c : List Int) (d : Int) (k : (List Int) → Option ρ) : afy b a c d k = al9 b a c d k := by unfold afy; rw [ay]

def alj {ρ : Type} (b : Int) (c : List Int) (k : (List Int) → Int → Option ρ) : Option ρ := agh b fun d e f g a => br (a != 0) (k [] a) (abb d e f g c fun h i j l => afy h i j l fun m => k m 0)
def af5 {ρ : Type} := shut (alj (ρ := ρ))
theorem aw2 {ρ : Type} (a : Int) (b : List Int) (k : (List Int) → Int → Option ρ) : af5 a b k = alj a b k := by unfold af5; rw [ay]

def as9 {ρ : Type} (a : List (List Int)) (k : (List Int) → Option ρ) : Option ρ := kg a fun b => af5 1 b fun c d => k c
def aew {ρ : Type} := shut (as9 (ρ := ρ))
theorem be4 {ρ : Type} (a : List (List Int)) (k : (List Int) → Option ρ) : aew a k = as9 a k := by unfold aew; rw [ay]

def ajd {ρ : Type} (a : List Int) (b c : Int) (d : List Int) (k : (List Int) → Option ρ) : Option ρ := jd (IntKind.u64.wrap b) 4 fun e => jd (IntKind.u64.wrap c) 2 fun f => aew [a, e, f, [255], d] fun g => k g
def abv {ρ : Type} := shut (ajd (ρ := ρ))
theorem atw {ρ : Type} (a : List Int) (b : Int) (c : Int) (d : List Int) (k : (List Int) → Option ρ) : abv a b c d k = ajd a b c d k := by unfold abv; rw [ay]

abbrev bxq (ρ : Type) := (List Int) → Int → Int → Int → (List Int) → Int → Option ρ
def ajj {ρ : Type} (b : List Int) (c d e : Int) (f : List Int) (a : Int) (nx g : bxq ρ) : Option ρ := br (decide (a < e)) (jd (IntKind.u64.wrap c) 4 fun h => jd (IntKind.u64.wrap d) 2 fun i => aew [b, h, i, [IntKind.u8.wrap a], f] fun j => nx b c d e j (IntKind.i64.wrap (a + 1))) (g b c d e f a)
abbrev brd := (List Int) × Int × Int × Int × (List Int) × Int
abbrev bxx := brd
def bwi {ρ : Type} (f : brd → Option ρ) : bxq ρ := fun b c d e g a => f (b, c, d, e, g, a)
def bpu {ρ : Type} : afi brd bxx ρ := fun (b, c, d, e, f, a) next ex => ajj b c d e f a (bwi next) (bwi ex)
def bt9 {ρ : Type} := shut (lp (bpu (ρ := ρ)))
theorem bz2 {ρ : Type} : bt9 (ρ := ρ) = lp bpu := ay _
def btu {ρ : Type} (f : afj brd bxx ρ) (b : List Int) (c d e : Int) (g : List Int) (a : Int) (h : bxq ρ) : Option ρ := f (b, c, d, e, g, a) (fun (b, c, d, e, g, a) => h b c d e g a)
def aqb {ρ : Type} := btu (lp (bpu (ρ := ρ)))
def aqr {ρ : Type} := btu (bt9 (ρ := ρ))
theorem as8 {ρ : Type} : aqr (ρ := ρ) = aqb := congrArg btu bz2
def aii {ρ : Type} (a : List Int) (b c d e : Int) (f : List Int) (k : (List Int) → Option ρ) : Option ρ := aqr a b c e f d fun h i j l g m => k g
def aai {ρ : Type} := shut (aii (ρ := ρ))
theorem aqk {ρ : Type} (a : List Int) (b : Int) (c : Int) (d : Int) (e : Int) (f : List Int) (k : (List Int) → Option ρ) : aai a b c d e f k = aii a b c d e f k := by unfold aai; rw [ay]

def ame {ρ : Type} (a : List Int) (b : Int) (c : List (List Int)) (k : (List Int) → Option ρ) : Option ρ := jd (IntKind.u64.wrap b) 4 fun d => jd 32896 2 fun e => kg c fun f => aew [a, d, e, f] fun g => k g
def aia {ρ : Type} := shut (ame (ρ := ρ))
theorem avb {ρ : Type} (a : List Int) (b : Int) (c : List (List Int)) (k : (List Int) → Option ρ) : aia a b c k = ame a b c k := by unfold aia; rw [ay]

abbrev byt (ρ : Type) := Int → (List Int) → Int → (List Int) → Int → Int → (List (List Int)) → Option ρ
def ain {ρ : Type} (c : Int) (d : List Int) (e : Int) (f : List Int) (b a : Int) (g : List (List Int)) (nx h : byt ρ) : Option ρ := br (decide (a < b)) (br (decide (c < 0)) none (abv d e a f fun i => aai d e a 0 (IntKind.i64.wrap (IntKind.i64.wrap (1 * 2 ^ min c.toNat 64) - 1)) i fun j => br (decide ((g.length + 1) * 24 ≤ 140737488355328)) (nx c d e f b (IntKind.i64.wrap (a + 1)) (g ++ [j])) none)) (h c d e f b a g)
abbrev brs := Int × (List Int) × Int × (List Int) × Int × Int × (List (List Int))
abbrev bwf := brs
def bv9 {ρ : Type} (f : brs → Option ρ) : byt ρ := fun c d e g a b h => f (c, d, e, g, a, b, h)
def bq1 {ρ : Type} : afi brs bwf ρ := fun (c, d, e, f, a, b, g) next ex => ain c d e f a b g (bv9 next) (bv9 ex)
def bwu {ρ : Type} := shut (lp (bq1 (ρ := ρ)))
theorem b0b {ρ : Type} : bwu (ρ := ρ) = lp bq1 := ay _
def bsu {ρ : Type} (f : afj brs bwf ρ) (c : Int) (d : List Int) (e : Int) (g : List Int) (a b : Int) (h : List (List Int)) (i : byt ρ) : Option ρ := f (c, d, e, g, a, b, h) (fun (c, d, e, g, a, b, h) => i c d e g a b h)
def aoe {ρ : Type} := bsu (lp (bq1 (ρ := ρ)))
def anf {ρ : Type} := bsu (bwu (ρ := ρ))
theorem aq8 {ρ : Type} : anf (ρ := ρ) = aoe := congrArg bsu b0b
def ahn {ρ : Type} (a : Int) (b : List Int) (g : Int) (c : List Int) (k : (List Int) → Int → Option ρ) : Option ρ := aaf a b c fun d => br (d != 0) (k [] d) (og a fun h l m => anf a b g c h 0 [] fun n i j o p q e => aia i j e fun f => k f 0)
def abo {ρ : Type} := shut (ahn (ρ := ρ))
theorem aok {ρ : Type} (a : Int) (b : List Int) (c : Int) (d : List Int) (k : (List Int) → Int → Option ρ) : abo a b c d k = ahn a b c d k := by unfold abo; rw [ay]

def afv {ρ : Type} (a : List Int) (b : Int) (c : List Int) (k : (List Int) → Option ρ) : Option ρ := jd b 4 fun d => jd 33410 2 fun e => aew [a, d, e, c] fun f => k f
def wu {ρ : Type} := shut (afv (ρ := ρ))
theorem alb {ρ : Type} (a : List Int) (b : Int) (c : List Int) (k : (List Int) → Option ρ) : wu a b c k = afv a b c k := by unfold wu; rw [ay]

def ajs {ρ : Type} (a : List Int) (b : Int) (c d : List Int) (k : (List Int) → Option ρ) : Option ρ := jd b 4 fun e => jd 33667 2 fun f => aew [a, e, f, c, d] fun g => k g
def acv {ρ : Type} := shut (ajs (ρ := ρ))
theorem ase {ρ : Type} (a : List Int) (b : Int) (c : List Int) (d : List Int) (k : (List Int) → Option ρ) : acv a b c d k = ajs a b c d k := by unfold acv; rw [ay]

abbrev bxg (ρ : Type) := (List Int) → (List Int) → Int → Int → Int → Int → (List (List Int)) → Option ρ
def ajw {ρ : Type} (e g : List Int) (f a d b : Int) (c : List (List Int)) (nx h : bxg ρ) : Option ρ := br (decide (a ≥ 1)) (br (decide (a ≥ f)) (abo b e (IntKind.u32.wrap (IntKind.i64.wrap (a - f))) g fun i l => wu e (IntKind.u64.wrap a) i fun j => br (decide (0 ≤ a)) (br (decide (a < (↑c.length : Int))) (nx e g f (IntKind.i64.wrap (a - 1)) d b (c.set a.toNat j)) none) none) (br (decide (0 ≤ IntKind.i64.wrap (2 * a))) (br (decide (IntKind.i64.wrap (2 * a) < (↑c.length : Int))) (br (decide (0 ≤ IntKind.i64.wrap (IntKind.i64.wrap (2 * a) + 1))) (br (decide (IntKind.i64.wrap (IntKind.i64.wrap (2 * a) + 1) < (↑c.length : Int))) (acv e (IntKind.u64.wrap a) (c.getD (IntKind.i64.wrap (2 * a)).toNat []) (c.getD (IntKind.i64.wrap (IntKind.i64.wrap (2 * a) + 1)).toNat []) fun k => br (decide (0 ≤ a)) (br (decide (a < (↑c.length : Int))) (nx e g f (IntKind.i64.wrap (a - 1)) d b (c.set a.toNat k)) none) none) none) none) none) none)) (h e g f a d b c)
abbrev bq0 := (List Int) × (List Int) × Int × Int × Int × Int × (List (List Int))
abbrev bx4 := bq0
def bys {ρ : Type} (f : bq0 → Option ρ) : bxg ρ := fun c d e g a b h => f (c, d, e, g, a, b, h)
def bru {ρ : Type} : afi bq0 bx4 ρ := fun (c, d, e, f, a, b, g) next ex => ajw c d e f a b g (bys next) (bys ex)
def bx9 {ρ : Type} := shut (lp (bru (ρ := ρ)))
theorem bz0 {ρ : Type} : bx9 (ρ := ρ) = lp bru := ay _
def bte {ρ : Type} (f : afj bq0 bx4 ρ) (c d : List Int) (e g a b : Int) (h : List (List Int)) (i : bxg ρ) : Option ρ := f (c, d, e, g, a, b, h) (fun (c, d, e, g, a, b, h) => i c d e g a b h)
def aqx {ρ : Type} := bte (lp (bru (ρ := ρ)))
def aqp {ρ : Type} := bte (bx9 (ρ := ρ))
theorem aug {ρ : Type} : aqp (ρ := ρ) = aqx := congrArg bte bz0
def aif {ρ : Type} (a b : Int) (c d : List Int) (k : (List (List Int)) → Option ρ) : Option ρ := br (decide (a < 0)) none (br (decide (0 ≤ IntKind.i64.wrap (2 * IntKind.i64.wrap (1 * 2 ^ min a.toNat 64)))) (br (decide (IntKind.i64.wrap (2 * IntKind.i64.wrap (1 * 2 ^ min a.toNat 64)) ≤ IntKind.i64.wrap (2 * IntKind.i64.wrap (1 * 2 ^ min a.toNat 64)))) (br (decide (IntKind.i64.wrap (2 * IntKind.i64.wrap (1 * 2 ^ min a.toNat 64)) * (↑24 : Int) ≤ (↑140737488355328 : Int))) (aqp c d (IntKind.i64.wrap (1 * 2 ^ min a.toNat 64)) (IntKind.i64.wrap (IntKind.i64.wrap (2 * IntKind.i64.wrap (1 * 2 ^ min a.toNat 64)) - 1)) a b (List.replicate (IntKind.i64.wrap (2 * IntKind.i64.wrap (1 * 2 ^ min a.toNat 64))).toNat []) fun f g h i j l e => k e) none) none) none)
def aae {ρ : Type} := shut (aif (ρ := ρ))
theorem aqm {ρ : Type} (a : Int) (b : Int) (c : List Int) (d : List Int) (k : (List (List Int)) → Option ρ) : aae a b c d k = aif a b c d k := by unfold aae; rw [ay]

def ad7 {ρ : Type} (a b : Int) (c d : List Int) (k : (List Int) → Int → Option ρ) : Option ρ := uj a b c d fun e => br (e != 0) (k [] e) (aff a b fun g => aae a b c d fun f => br (decide (1 < (↑f.length : Int))) (kg [g, c, f.getD 1 []] fun h => k h 0) none)
def aam {ρ : Type} := shut (ad7 (ρ := ρ))
theorem ah9 {ρ : Type} (a : Int) (b : Int) (c : List Int) (d : List Int) (k : (List Int) → Int → Option ρ) : aam a b c d k = ad7 a b c d k := by unfold aam; rw [ay]

abbrev bvb (ρ : Type) := (List Int) → Int → Int → (List Int) → Int → (List Int) → Int → Int → Int → Int → (List Int) → Option ρ
def ah1 {ρ : Type} (k : List Int) (h a : Int) (i : List Int) (b : Int) (c : List Int) (d e f g : Int) (j : List Int) (nx m : bvb ρ) : Option ρ := br (decide (a < h)) (br (decide (0 ≤ a)) (br (decide (a < (↑j.length : Int))) (l6 b c d e f g (IntKind.u64.wrap a) k fun n => jk b c d e f g a 0 (j.getD a.toNat 0) n fun l => br (decide ((i.length + l.length) * 1 ≤ 140737488355328)) (nx k h (IntKind.i64.wrap (a + 1)) (i ++ l) b c d e f g j) none) none) none) (m k h a i b c d e f g j)
abbrev bp9 := (List Int) × Int × Int × (List Int) × Int × (List Int) × Int × Int × Int × Int × (List Int)
abbrev bxe := bp9
def bxz {ρ : Type} (f : bp9 → Option ρ) : bvb ρ := fun k h i j a b c d e g l => f (k, h, i, j, a, b, c, d, e, g, l)
def br7 {ρ : Type} : afi bp9 bxe ρ := fun (j, g, h, i, a, b, c, d, e, f, k) next ex => ah1 j g h i a b c d e f k (bxz next) (bxz ex)
def bwj {ρ : Type} := shut (lp (br7 (ρ := ρ)))
theorem b0d {ρ : Type} : bwj (ρ := ρ) = lp br7 := ay _
def btl {ρ : Type} (f : afj bp9 bxe ρ) (k : List Int) (h i : Int) (j : List Int) (a : Int) (b : List Int) (c d e g : Int) (l : List Int) (m : bvb ρ) : Option ρ := f (k, h, i, j, a, b, c, d, e, g, l) (fun (k, h, i, j, a, b, c, d, e, g, l) => m k h i j a b c d e g l)
def aos {ρ : Type} := btl (lp (br7 (ρ := ρ)))
def aom {ρ : Type} := btl (bwj (ρ := ρ))
theorem aq6 {ρ : Type} : aom (ρ := ρ) = aos := congrArg btl b0d
def aha {ρ : Type} (m : Int) (n : List Int) (o : Int) (c p : List Int) (k : (List Int) → Int → Option ρ) : Option ρ := qh m n o c fun d e f g h a i => br (i != 0) (k [] i) (l6 d e f g h a 65533 c fun j => jl (IntKind.u64.wrap a) 4 fun q => fu [q, j] fun r => ji d e f g h a j p fun b => aom c (↑b.length : Int) 0 r d e f g h a b fun s t u l v w y z A B C => k l 0)
def qw {ρ : Type} := shut (aha (ρ := ρ))
theorem an6 {ρ : Type} (a : Int) (b : List Int) (c : Int) (d : List Int) (e : List Int) (k : (List Int) → Int → Option ρ) : qw a b c d e k = aha a b c d e k := by unfold qw; rw [ay]

abbrev bt7 (ρ : Type) := Int → (List Int) → Int → Int → (List Int) → (List Int) → Option ρ
def ail {ρ : Type} (f : Int) (e : List Int) (a b : Int) (c d : List Int) (nx h : bt7 ρ) : Option ρ := br (decide (f > 1)) (gq (a.toNat + 2) a b c d (bits BinOp.xor IntKind.u64 f 1) fun g => br (decide ((e.length + g.length) * 1 ≤ 140737488355328)) (nx (IntKind.u64.wrap (f.tdiv 2)) (e ++ g) a b c d) none) (h f e a b c d)
abbrev bph := Int × (List Int) × Int × Int × (List Int) × (List Int)
abbrev byl := bph
def byx {ρ : Type} (f : bph → Option ρ) : bt7 ρ := fun g e a b c d => f (g, e, a, b, c, d)
def brg {ρ : Type} : afi bph byl ρ := fun (f, e, a, b, c, d) next ex => ail f e a b c d (byx next) (byx ex)
def bvl {ρ : Type} := shut (lp (brg (ρ := ρ)))
theorem bze {ρ : Type} : bvl (ρ := ρ) = lp brg := ay _
def btg {ρ : Type} (f : afj bph byl ρ) (g : Int) (e : List Int) (a b : Int) (c d : List Int) (h : bt7 ρ) : Option ρ := f (g, e, a, b, c, d) (fun (g, e, a, b, c, d) => h g e a b c d)
def an7 {ρ : Type} := btg (lp (brg (ρ := ρ)))
def amt {ρ : Type} := btg (bvl (ρ := ρ))
theorem aq2 {ρ : Type} : amt (ρ := ρ) = an7 := congrArg btg bze
def aei {ρ : Type} (a b : Int) (d e : List Int) (c : Int) (g : List Int) (k : (List Int) → Int → Option ρ) : Option ρ := o7 a b d e fun f => br (f != 0) (k [] f) (br (decide (a < 0)) none (br ((IntKind.u64.wrap c).fdiv (2 ^ min a.toNat 64) != 0) (k [] 13) (qw b d c e g fun h r => jl (IntKind.u64.wrap c) 4 fun i => nu a fun j => jl j 4 fun l => fu [i, h, l] fun m => br (decide (a < 0)) none (amt (IntKind.u64.wrap (IntKind.u64.wrap (1 * 2 ^ min a.toNat 64) + IntKind.u64.wrap c)) m a b d e fun s n t o p q => k n 0))))
def acw {ρ : Type} := shut (aei (ρ := ρ))
theorem aiv {ρ : Type} (a : Int) (b : Int) (c : List Int) (d : List Int) (e : Int) (f : List Int) (k : (List Int) → Int → Option ρ) : acw a b c d e f k = aei a b c d e f k := by unfold acw; rw [ay]

def aqi {ρ : Type} (c : List Int) (a b : Int) (k : Bool → Option ρ) : Option ρ := br (decide (a ≥ 1)) (br (decide (a ≤ 24)) (br (decide (b ≥ 0)) (br (decide (a = 0)) none (k (decide (b ≤ IntKind.i64.wrap ((IntKind.i64.wrap ((↑c.length : Int) * 8)).tdiv a))))) (k false)) (k false)) (k false)
def acs {ρ : Type} := shut (aqi (ρ := ρ))
theorem asv {ρ : Type} (a : List Int) (b : Int) (c : Int) (k : Bool → Option ρ) : acs a b c k = aqi a b c k := by unfold acs; rw [ay]

end P
end
