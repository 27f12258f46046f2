/-
  HssVerifies, part 11: an interpreter of my own over abstract values, the pure functions, the walks and the plain law.
-/

import Derived.Test.YtmipokjdajiimaaDoorHssVerifiesH
import Derived.Test.YtmipokjdajiimaaDoorHssVerifiesJ
import Derived.Test.YtmipokjdajiimaaDoorHssVerifiesI

noncomputable section
open Go Go.Abs
set_option linter.unusedVariables false
namespace P

def afh {ρ : Type} (a : Int) (k : Int → Option ρ) : Option ρ := br (decide (0 ≤ a)) (br (decide (a < (↑64 : Int))) (k (roots256.getD a.toNat 0)) none) none
def l5 {ρ : Type} := shut (afh (ρ := ρ))
theorem akv {ρ : Type} (a : Int) (k : Int → Option ρ) : l5 a k = afh a k := by unfold l5; rw [bn]

def uy {ρ : Type} (a g : Int) (b c d e : List Int) (h f : Int) (k : Int → Option ρ) : Option ρ := br (decide (f < 0)) none (br (decide (IntKind.i64.wrap (a - f) < 0)) none (k (bits BinOp.or IntKind.u32 (h.fdiv (2 ^ min f.toNat 32)) (IntKind.u32.wrap (h * 2 ^ min (IntKind.i64.wrap (a - f)).toNat 32)))))
def ay {ρ : Type} := shut (uy (ρ := ρ))
theorem aas {ρ : Type} (f : Int) (e : Int) (a : List Int) (b : List Int) (c : List Int) (d : List Int) (g : Int) (h : Int) (k : Int → Option ρ) : ay f e a b c d g h k = uy f e a b c d g h k := by unfold ay; rw [bn]

def ru {ρ : Type} (f e : Int) (a b c d : List Int) (g h : Int) (k : Int → Option ρ) : Option ρ := br (decide (h = (↑0 : Int))) (ay f e a b c d g (a.getD 0 0) fun l => ay f e a b c d g (a.getD 1 0) fun m => ay f e a b c d g (a.getD 2 0) fun n => k (bits BinOp.xor IntKind.u32 (bits BinOp.xor IntKind.u32 l m) n)) (br (decide (h = (↑1 : Int))) (ay f e a b c d g (b.getD 0 0) fun o => ay f e a b c d g (b.getD 1 0) fun p => ay f e a b c d g (b.getD 2 0) fun q => k (bits BinOp.xor IntKind.u32 (bits BinOp.xor IntKind.u32 o p) q)) (br (decide (h = (↑2 : Int))) (ay f e a b c d g (c.getD 0 0) fun r => ay f e a b c d g (c.getD 1 0) fun s => ay f e a b c d g (c.getD 2 0) fun t => k (bits BinOp.xor IntKind.u32 (bits BinOp.xor IntKind.u32 r s) t)) (br (decide (h = (↑3 : Int))) (ay f e a b c d g (d.getD 0 0) fun u => ay f e a b c d g (d.getD 1 0) fun i => ay f e a b c d g (d.getD 2 0) fun j => k (bits BinOp.xor IntKind.u32 (bits BinOp.xor IntKind.u32 u i) j)) none)))
def gy {ρ : Type} := shut (ru (ρ := ρ))
theorem y8 {ρ : Type} (f : Int) (e : Int) (a : List Int) (b : List Int) (c : List Int) (d : List Int) (g : Int) (h : Int) (k : Int → Option ρ) : gy f e a b c d g h k = ru f e a b c d g h k := by unfold gy; rw [bn]

def sw {ρ : Type} (f e : Int) (a b c d : List Int) (g h : Int) (k : Int → Option ρ) : Option ρ := br (decide (h = (↑0 : Int))) (ay f e a b c d g (a.getD 0 (0 : Int)) fun i => ay f e a b c d g (a.getD 1 (0 : Int)) fun j => br (decide (a.getD 2 (0 : Int) < (0 : Int))) none (k (bits BinOp.xor IntKind.u32 (bits BinOp.xor IntKind.u32 i j) (g.fdiv ((2 : Int) ^ min (a.getD 2 (0 : Int)).toNat 32))))) (br (decide (h = (↑1 : Int))) (ay f e a b c d g (b.getD 0 (0 : Int)) fun l => ay f e a b c d g (b.getD 1 (0 : Int)) fun m => br (decide (b.getD 2 (0 : Int) < (0 : Int))) none (k (bits BinOp.xor IntKind.u32 (bits BinOp.xor IntKind.u32 l m) (g.fdiv ((2 : Int) ^ min (b.getD 2 (0 : Int)).toNat 32))))) (br (decide (h = (↑2 : Int))) (ay f e a b c d g (c.getD 0 (0 : Int)) fun n => ay f e a b c d g (c.getD 1 (0 : Int)) fun o => br (decide (c.getD 2 (0 : Int) < (0 : Int))) none (k (bits BinOp.xor IntKind.u32 (bits BinOp.xor IntKind.u32 n o) (g.fdiv ((2 : Int) ^ min (c.getD 2 (0 : Int)).toNat 32))))) (br (decide (h = (↑3 : Int))) (ay f e a b c d g (d.getD 0 (0 : Int)) fun p => ay f e a b c d g (d.getD 1 (0 : Int)) fun q => br (decide (d.getD 2 (0 : Int) < (0 : Int))) none (k (bits BinOp.xor IntKind.u32 (bits BinOp.xor IntKind.u32 p q) (g.fdiv ((2 : Int) ^ min (d.getD 2 (0 : Int)).toNat 32))))) none)))
def jd {ρ : Type} := shut (sw (ρ := ρ))
theorem zk {ρ : Type} (f : Int) (e : Int) (a : List Int) (b : List Int) (c : List Int) (d : List Int) (g : Int) (h : Int) (k : Int → Option ρ) : jd f e a b c d g h k = sw f e a b c d g h k := by unfold jd; rw [bn]

abbrev bwq (ρ : Type) := (List Int) → Int → Int → Int → Int → (List Int) → (List Int) → (List Int) → (List Int) → (List Int) → (List Int) → (List Int) → Option ρ
def yg {ρ : Type} (l : List Int) (b a c d : Int) (e f g h i j k : List Int) (nx m : bwq ρ) : Option ρ := br (decide (a < 16)) (br (decide (0 ≤ IntKind.i64.wrap (a * b))) (br (decide (IntKind.i64.wrap (a * b) ≤ IntKind.i64.wrap (IntKind.i64.wrap (a + 1) * b))) (br (decide (IntKind.i64.wrap (IntKind.i64.wrap (a + 1) * b) ≤ (↑l.length : Int))) (iy (List.drop (IntKind.i64.wrap (a * b)).toNat (List.take (IntKind.i64.wrap (IntKind.i64.wrap (a + 1) * b)).toNat l)) fun n => br (decide (0 ≤ a)) (br (decide (a < (↑16 : Int))) (nx l b (IntKind.i64.wrap (a + 1)) c d e f g h i j (k.set a.toNat (IntKind.u32.wrap n))) none) none) none) none) none) (m l b a c d e f g h i j k)
abbrev bph := (List Int) × Int × Int × Int × Int × (List Int) × (List Int) × (List Int) × (List Int) × (List Int) × (List Int) × (List Int)
abbrev bvy := bph
def bxf {ρ : Type} (f : bph → Option ρ) : bwq ρ := fun l m k a b c d e g h i j => f (l, m, k, a, b, c, d, e, g, h, i, j)
def brj {ρ : Type} : aeh bph bvy ρ := fun (k, l, j, a, b, c, d, e, f, g, h, i) next ex => yg k l j a b c d e f g h i (bxf next) (bxf ex)
def bua {ρ : Type} := shut (lp (brj (ρ := ρ)))
theorem bzb {ρ : Type} : bua (ρ := ρ) = lp brj := bn _
def bs8 {ρ : Type} (f : aei bph bvy ρ) (l : List Int) (m k a b : Int) (c d e g h i j : List Int) (n : bwq ρ) : Option ρ := f (l, m, k, a, b, c, d, e, g, h, i, j) (fun (l, m, k, a, b, c, d, e, g, h, i, j) => n l m k a b c d e g h i j)
def abx {ρ : Type} := bs8 (lp (brj (ρ := ρ)))
def x9 {ρ : Type} := bs8 (bua (ρ := ρ))
theorem ael {ρ : Type} : x9 (ρ := ρ) = abx := congrArg bs8 bzb
abbrev bxx (ρ : Type) := Int → Int → (List Int) → (List Int) → (List Int) → Int → Int → (List Int) → (List Int) → (List Int) → (List Int) → (List Int) → Option ρ
def wz {ρ : Type} (j b : Int) (c k l : List Int) (d e : Int) (f g h i a : List Int) (nx o : bxx ρ) : Option ρ := br (decide (b < j)) (br (decide (0 ≤ b.tmod 16)) (br (decide (b.tmod 16 < (↑16 : Int))) (gy d e f g h i (a.getD 4 0) 3 fun m => l5 b fun n => gy d e f g h i (a.getD 0 0) 2 fun p => br (decide (0 ≤ (IntKind.i64.wrap (b + 1)).tmod 16)) (br (decide ((IntKind.i64.wrap (b + 1)).tmod 16 < (↑16 : Int))) (jd d e f g h i (c.getD ((IntKind.i64.wrap (b + 1)).tmod 16).toNat 0) 0 fun q => br (decide (0 ≤ (IntKind.i64.wrap (b + 9)).tmod 16)) (br (decide ((IntKind.i64.wrap (b + 9)).tmod 16 < (↑16 : Int))) (br (decide (0 ≤ (IntKind.i64.wrap (b + 14)).tmod 16)) (br (decide ((IntKind.i64.wrap (b + 14)).tmod 16 < (↑16 : Int))) (jd d e f g h i (c.getD ((IntKind.i64.wrap (b + 14)).tmod 16).toNat 0) 1 fun r => br (decide (0 ≤ b.tmod 16)) (br (decide (b.tmod 16 < (↑16 : Int))) (nx j (IntKind.i64.wrap (b + 1)) (c.set (b.tmod 16).toNat (IntKind.u32.wrap (IntKind.u32.wrap (IntKind.u32.wrap (c.getD (b.tmod 16).toNat 0 + q) + c.getD ((IntKind.i64.wrap (b + 9)).tmod 16).toNat 0) + r))) k l d e f g h i ((((List.take 1 a).append (List.take 7 (List.take 7 (List.drop 0 a)) ++ List.drop (1 + min 7 (List.take 7 (List.drop 0 a)).length) a)).set 4 (IntKind.u32.wrap (((List.take 1 a).append (List.take 7 (List.take 7 (List.drop 0 a)) ++ List.drop (1 + min 7 (List.take 7 (List.drop 0 a)).length) a)).getD 4 0 + IntKind.u32.wrap (IntKind.u32.wrap (IntKind.u32.wrap (IntKind.u32.wrap (a.getD 7 0 + m) + bits BinOp.xor IntKind.u32 (a.getD 6 0) (bits BinOp.and IntKind.u32 (a.getD 4 0) (bits BinOp.xor IntKind.u32 (a.getD 5 0) (a.getD 6 0)))) + n) + c.getD (b.tmod 16).toNat 0)))).set 0 (IntKind.u32.wrap (IntKind.u32.wrap (IntKind.u32.wrap (IntKind.u32.wrap (IntKind.u32.wrap (a.getD 7 0 + m) + bits BinOp.xor IntKind.u32 (a.getD 6 0) (bits BinOp.and IntKind.u32 (a.getD 4 0) (bits BinOp.xor IntKind.u32 (a.getD 5 0) (a.getD 6 0)))) + n) + c.getD (b.tmod 16).toNat 0) + IntKind.u32.wrap (p + bits BinOp.or IntKind.u32 (bits BinOp.and IntKind.u32 (a.getD 0 0) (a.getD 1 0)) (bits BinOp.and IntKind.u32 (a.getD 2 0) (bits BinOp.or IntKind.u32 (a.getD 0 0) (a.getD 1 0)))))))) none) none) none) none) none) none) none) none) none) none) (o j b c k l d e f g h i a)
abbrev brb := Int × Int × (List Int) × (List Int) × (List Int) × Int × Int × (List Int) × (List Int) × (List Int) × (List Int) × (List Int)
abbrev bu0 := brb
def bt5 {ρ : Type} (f : brb → Option ρ) : bxx ρ := fun l m a b c d e g h i j k => f (l, m, a, b, c, d, e, g, h, i, j, k)
def zs12 {ρ : Type} : aeh brb bu0 ρ := fun (k, l, a, b, c, d, e, f, g, h, i, j) next ex => wz k l a b c d e f g h i j (bt5 next) (bt5 ex)
def buz {ρ : Type} := shut (lp (zs12 (ρ := ρ)))
theorem by3 {ρ : Type} : buz (ρ := ρ) = lp zs12 := bn _
def bsu {ρ : Type} (f : aei brb bu0 ρ) (l m : Int) (a b c : List Int) (d e : Int) (g h i j k : List Int) (n : bxx ρ) : Option ρ := f (l, m, a, b, c, d, e, g, h, i, j, k) (fun (l, m, a, b, c, d, e, g, h, i, j, k) => n l m a b c d e g h i j k)
def aat {ρ : Type} := bsu (lp (zs12 (ρ := ρ)))
def qm {ρ : Type} := bsu (buz (ρ := ρ))
theorem ad9 {ρ : Type} : qm (ρ := ρ) = aat := congrArg bsu by3
abbrev byw (ρ : Type) := Int → (List Int) → (List Int) → (List Int) → Option ρ
def xq {ρ : Type} (a : Int) (b d c : List Int) (nx e : byw ρ) : Option ρ := br (decide (a < 8)) (br (decide (0 ≤ a)) (br (decide (a < (↑8 : Int))) (br (decide (0 ≤ a)) (br (decide (a < (↑8 : Int))) (br (decide (0 ≤ a)) (br (decide (a < (↑8 : Int))) (nx (IntKind.i64.wrap (a + 1)) b d (c.set a.toNat (IntKind.u32.wrap (c.getD a.toNat 0 + b.getD a.toNat 0)))) none) none) none) none) none) none) (e a b d c)
abbrev bpf := Int × (List Int) × (List Int) × (List Int)
abbrev bwz := bpf
def bw1 {ρ : Type} (f : bpf → Option ρ) : byw ρ := fun a b c d => f (a, b, c, d)
def brl {ρ : Type} : aeh bpf bwz ρ := fun (a, b, c, d) next ex => xq a b c d (bw1 next) (bw1 ex)
def bu5 {ρ : Type} := shut (lp (brl (ρ := ρ)))
theorem b0i {ρ : Type} : bu5 (ρ := ρ) = lp brl := bn _
def bs6 {ρ : Type} (f : aei bpf bwz ρ) (a : Int) (b c d : List Int) (e : byw ρ) : Option ρ := f (a, b, c, d) (fun (a, b, c, d) => e a b c d)
def aa7 {ρ : Type} := bs6 (lp (brl (ρ := ρ)))
def qd {ρ : Type} := bs6 (bu5 (ρ := ρ))
theorem aea {ρ : Type} : qd (ρ := ρ) = aa7 := congrArg bs6 b0i
def wh {ρ : Type} (a f : Int) (b c d e p q : List Int) (k : (List Int) → Option ρ) : Option ρ := x9 q (IntKind.i64.wrap (a.tdiv 8)) 0 a f b c d e p [0, 0, 0, 0, 0, 0, 0, 0] [0, 0, 0, 0, 0, 0, 0, 0, 0, 0, 0, 0, 0, 0, 0, 0] fun N O Q r g s t u v h i j => qm g 0 j i h r g s t u v h fun w y z l m A B C F G H n => qd 0 m l n fun I J M o => k o
def ji {ρ : Type} := shut (wh (ρ := ρ))
theorem abw {ρ : Type} (f : Int) (e : Int) (a : List Int) (b : List Int) (c : List Int) (d : List Int) (g : List Int) (h : List Int) (k : (List Int) → Option ρ) : ji f e a b c d g h k = wh f e a b c d g h k := by unfold ji; rw [bn]

abbrev bvb (ρ : Type) := (List Int) → (List Int) → Int → Int → Int → (List Int) → (List Int) → (List Int) → (List Int) → (List Int) → (List Int) → (List Int) → Option ρ
def aaw {ρ : Type} (l b : List Int) (a c d : Int) (e f g h i j k : List Int) (nx m : bvb ρ) : Option ρ := br (decide (a < 8)) (br (decide (0 ≤ a)) (br (decide (a < (↑8 : Int))) (br (decide (0 ≤ a)) (br (decide (a < (↑8 : Int))) (nx l b (IntKind.i64.wrap (a + 1)) c d e f g h i j (k.set a.toNat (IntKind.u32.wrap (b.getD a.toNat 0)))) none) none) none) none) (m l b a c d e f g h i j k)
abbrev bp4 := (List Int) × (List Int) × Int × Int × Int × (List Int) × (List Int) × (List Int) × (List Int) × (List Int) × (List Int) × (List Int)
abbrev byy := bp4
def byq {ρ : Type} (f : bp4 → Option ρ) : bvb ρ := fun m k l a b c d e g h i j => f (m, k, l, a, b, c, d, e, g, h, i, j)
def bpj {ρ : Type} : aeh bp4 byy ρ := fun (l, j, k, a, b, c, d, e, f, g, h, i) next ex => aaw l j k a b c d e f g h i (byq next) (byq ex)
def byk {ρ : Type} := shut (lp (bpj (ρ := ρ)))
theorem bzs {ρ : Type} : byk (ρ := ρ) = lp bpj := bn _
def btm {ρ : Type} (f : aei bp4 byy ρ) (m k : List Int) (l a b : Int) (c d e g h i j : List Int) (n : bvb ρ) : Option ρ := f (m, k, l, a, b, c, d, e, g, h, i, j) (fun (m, k, l, a, b, c, d, e, g, h, i, j) => n m k l a b c d e g h i j)
def ady {ρ : Type} := btm (lp (bpj (ρ := ρ)))
def abf {ρ : Type} := btm (byk (ρ := ρ))
theorem ahd {ρ : Type} : abf (ρ := ρ) = ady := congrArg btm bzs
abbrev buu (ρ : Type) := (List Int) → Int → (List Int) → (List Int) → (List Int) → Int → Int → (List Int) → (List Int) → (List Int) → (List Int) → Option ρ
def abb {ρ : Type} (b : List Int) (a : Int) (i j k : List Int) (c d : Int) (e f g h : List Int) (nx l : buu ρ) : Option ρ := br (decide ((↑b.length : Int) ≥ a)) (br (decide (0 ≤ a)) (br (decide (a ≤ (↑b.length : Int))) (ji c d e f g h i (List.drop 0 (List.take a.toNat b)) fun m => br (decide (0 ≤ a)) (br (decide (a ≤ (↑b.length : Int))) (br (decide ((↑b.length : Int) ≤ (↑b.length : Int))) (nx (List.drop a.toNat (List.take (↑b.length : Int).toNat b)) a m j k c d e f g h) none) none) none) none) none) (l b a i j k c d e f g h)
abbrev brn := (List Int) × Int × (List Int) × (List Int) × (List Int) × Int × Int × (List Int) × (List Int) × (List Int) × (List Int)
abbrev bu9 := brn
def bx7 {ρ : Type} (f : brn → Option ρ) : buu ρ := fun l k a b c d e g h i j => f (l, k, a, b, c, d, e, g, h, i, j)
def brt {ρ : Type} : aeh brn bu9 ρ := fun (k, j, a, b, c, d, e, f, g, h, i) next ex => abb k j a b c d e f g h i (bx7 next) (bx7 ex)
def btx {ρ : Type} := shut (lp (brt (ρ := ρ)))
theorem by4 {ρ : Type} : btx (ρ := ρ) = lp brt := bn _
def bts {ρ : Type} (f : aei brn bu9 ρ) (l : List Int) (k : Int) (a b c : List Int) (d e : Int) (g h i j : List Int) (m : buu ρ) : Option ρ := f (l, k, a, b, c, d, e, g, h, i, j) (fun (l, k, a, b, c, d, e, g, h, i, j) => m l k a b c d e g h i j)
def adz {ρ : Type} := bts (lp (brt (ρ := ρ)))
def abg {ρ : Type} := bts (btx (ρ := ρ))
theorem ahi {ρ : Type} : abg (ρ := ρ) = adz := congrArg bts by4
abbrev bx9 (ρ : Type) := (List Int) → (List Int) → Int → (List Int) → (List Int) → Option ρ
def aam {ρ : Type} (e b : List Int) (a : Int) (c d : List Int) (nx f : bx9 ρ) : Option ρ := br (decide (a < 8)) (br (decide (0 ≤ a)) (br (decide (a < (↑8 : Int))) (br (decide (0 ≤ a)) (br (decide (a < (↑8 : Int))) (nx e b (IntKind.i64.wrap (a + 1)) (c.set a.toNat (IntKind.u64.wrap (b.getD a.toNat 0))) d) none) none) none) none) (f e b a c d)
abbrev bps := (List Int) × (List Int) × Int × (List Int) × (List Int)
abbrev byh := bps
def bw7 {ρ : Type} (f : bps → Option ρ) : bx9 ρ := fun e c d a b => f (e, c, d, a, b)
def bpw {ρ : Type} : aeh bps byh ρ := fun (e, c, d, a, b) next ex => aam e c d a b (bw7 next) (bw7 ex)
def bud {ρ : Type} := shut (lp (bpw (ρ := ρ)))
theorem b0a {ρ : Type} : bud (ρ := ρ) = lp bpw := bn _
def bsj {ρ : Type} (f : aei bps byh ρ) (e c : List Int) (d : Int) (a b : List Int) (g : bx9 ρ) : Option ρ := f (e, c, d, a, b) (fun (e, c, d, a, b) => g e c d a b)
def ac5 {ρ : Type} := bsj (lp (bpw (ρ := ρ)))
def aap {ρ : Type} := bsj (bud (ρ := ρ))
theorem agr {ρ : Type} : aap (ρ := ρ) = ac5 := congrArg bsj b0a
def aak {ρ : Type} (f e : Int) (a b c d g r : List Int) (k : (List Int) → (List Int) → Option ρ) : Option ρ := abf r g 0 f e a b c d g [0, 0, 0, 0, 0, 0, 0, 0] [0, 0, 0, 0, 0, 0, 0, 0] fun s O Q h t u v w y z i j => abg s (IntKind.i64.wrap (h * 2)) j i z h t u v w y fun l A m n o B C F G H I => aap l m 0 o n fun p J M q N => k q p
def mg {ρ : Type} := shut (aak (ρ := ρ))
theorem aef {ρ : Type} (f : Int) (e : Int) (a : List Int) (b : List Int) (c : List Int) (d : List Int) (g : List Int) (h : List Int) (k : (List Int) → (List Int) → Option ρ) : mg f e a b c d g h k = aak f e a b c d g h k := by unfold mg; rw [bn]

def anh {ρ : Type} (k : Int → Int → (List Int) → (List Int) → (List Int) → (List Int) → Option ρ) : Option ρ := k 32 64 [7, 18, 3] [17, 19, 10] [2, 13, 22] [6, 11, 25]
def aa5 {ρ : Type} := shut (anh (ρ := ρ))
theorem apv {ρ : Type}  (k : Int → Int → (List Int) → (List Int) → (List Int) → (List Int) → Option ρ) : aa5  k = anh  k := by unfold aa5; rw [bn]

def aft {ρ : Type} (a : Int) (k : Int → Option ρ) : Option ρ := br (decide (0 ≤ a)) (br (decide (a < (↑80 : Int))) (k (roots512.getD a.toNat 0)) none) none
def lu {ρ : Type} := shut (aft (ρ := ρ))
theorem akr {ρ : Type} (a : Int) (k : Int → Option ρ) : lu a k = aft a k := by unfold lu; rw [bn]

def uq {ρ : Type} (a g : Int) (b c d e : List Int) (h f : Int) (k : Int → Option ρ) : Option ρ := br (decide (f < 0)) none (br (decide (IntKind.i64.wrap (a - f) < 0)) none (k (bits BinOp.or IntKind.u64 (h.fdiv (2 ^ min f.toNat 64)) (IntKind.u64.wrap (h * 2 ^ min (IntKind.i64.wrap (a - f)).toNat 64)))))
def av {ρ : Type} := shut (uq (ρ := ρ))
theorem aar {ρ : Type} (f : Int) (e : Int) (a : List Int) (b : List Int) (c : List Int) (d : List Int) (g : Int) (h : Int) (k : Int → Option ρ) : av f e a b c d g h k = uq f e a b c d g h k := by unfold av; rw [bn]

def qz {ρ : Type} (f e : Int) (a b c d : List Int) (g h : Int) (k : Int → Option ρ) : Option ρ := br (decide (h = (↑0 : Int))) (av f e a b c d g (a.getD 0 0) fun l => av f e a b c d g (a.getD 1 0) fun m => av f e a b c d g (a.getD 2 0) fun n => k (bits BinOp.xor IntKind.u64 (bits BinOp.xor IntKind.u64 l m) n)) (br (decide (h = (↑1 : Int))) (av f e a b c d g (b.getD 0 0) fun o => av f e a b c d g (b.getD 1 0) fun p => av f e a b c d g (b.getD 2 0) fun q => k (bits BinOp.xor IntKind.u64 (bits BinOp.xor IntKind.u64 o p) q)) (br (decide (h = (↑2 : Int))) (av f e a b c d g (c.getD 0 0) fun r => av f e a b c d g (c.getD 1 0) fun s => av f e a b c d g (c.getD 2 0) fun t => k (bits BinOp.xor IntKind.u64 (bits BinOp.xor IntKind.u64 r s) t)) (br (decide (h = (↑3 : Int))) (av f e a b c d g (d.getD 0 0) fun u => av f e a b c d g (d.getD 1 0) fun i => av f e a b c d g (d.getD 2 0) fun j => k (bits BinOp.xor IntKind.u64 (bits BinOp.xor IntKind.u64 u i) j)) none)))
def ig {ρ : Type} := shut (qz (ρ := ρ))
theorem y9 {ρ : Type} (f : Int) (e : Int) (a : List Int) (b : List Int) (c : List Int) (d : List Int) (g : Int) (h : Int) (k : Int → Option ρ) : ig f e a b c d g h k = qz f e a b c d g h k := by unfold ig; rw [bn]

def tu {ρ : Type} (f e : Int) (a b c d : List Int) (g h : Int) (k : Int → Option ρ) : Option ρ := br (decide (h = (↑0 : Int))) (av f e a b c d g (a.getD 0 (0 : Int)) fun i => av f e a b c d g (a.getD 1 (0 : Int)) fun j => br (decide (a.getD 2 (0 : Int) < (0 : Int))) none (k (bits BinOp.xor IntKind.u64 (bits BinOp.xor IntKind.u64 i j) (g.fdiv ((2 : Int) ^ min (a.getD 2 (0 : Int)).toNat 64))))) (br (decide (h = (↑1 : Int))) (av f e a b c d g (b.getD 0 (0 : Int)) fun l => av f e a b c d g (b.getD 1 (0 : Int)) fun m => br (decide (b.getD 2 (0 : Int) < (0 : Int))) none (k (bits BinOp.xor IntKind.u64 (bits BinOp.xor IntKind.u64 l m) (g.fdiv ((2 : Int) ^ min (b.getD 2 (0 : Int)).toNat 64))))) (br (decide (h = (↑2 : Int))) (av f e a b c d g (c.getD 0 (0 : Int)) fun n => av f e a b c d g (c.getD 1 (0 : Int)) fun o => br (decide (c.getD 2 (0 : Int) < (0 : Int))) none (k (bits BinOp.xor IntKind.u64 (bits BinOp.xor IntKind.u64 n o) (g.fdiv ((2 : Int) ^ min (c.getD 2 (0 : Int)).toNat 64))))) (br (decide (h = (↑3 : Int))) (av f e a b c d g (d.getD 0 (0 : Int)) fun p => av f e a b c d g (d.getD 1 (0 : Int)) fun q => br (decide (d.getD 2 (0 : Int) < (0 : Int))) none (k (bits BinOp.xor IntKind.u64 (bits BinOp.xor IntKind.u64 p q) (g.fdiv ((2 : Int) ^ min (d.getD 2 (0 : Int)).toNat 64))))) none)))
def jc {ρ : Type} := shut (tu (ρ := ρ))
theorem zo {ρ : Type} (f : Int) (e : Int) (a : List Int) (b : List Int) (c : List Int) (d : List Int) (g : Int) (h : Int) (k : Int → Option ρ) : jc f e a b c d g h k = tu f e a b c d g h k := by unfold jc; rw [bn]

abbrev bv8 (ρ : Type) := (List Int) → Int → Int → Int → Int → (List Int) → (List Int) → (List Int) → (List Int) → (List Int) → (List Int) → (List Int) → Option ρ
def yh {ρ : Type} (l : List Int) (b a c d : Int) (e f g h i j k : List Int) (nx m : bv8 ρ) : Option ρ := br (decide (a < 16)) (br (decide (0 ≤ IntKind.i64.wrap (a * b))) (br (decide (IntKind.i64.wrap (a * b) ≤ IntKind.i64.wrap (IntKind.i64.wrap (a + 1) * b))) (br (decide (IntKind.i64.wrap (IntKind.i64.wrap (a + 1) * b) ≤ (↑l.length : Int))) (iy (List.drop (IntKind.i64.wrap (a * b)).toNat (List.take (IntKind.i64.wrap (IntKind.i64.wrap (a + 1) * b)).toNat l)) fun n => br (decide (0 ≤ a)) (br (decide (a < (↑16 : Int))) (nx l b (IntKind.i64.wrap (a + 1)) c d e f g h i j (k.set a.toNat n)) none) none) none) none) none) (m l b a c d e f g h i j k)
abbrev bp6 := (List Int) × Int × Int × Int × Int × (List Int) × (List Int) × (List Int) × (List Int) × (List Int) × (List Int) × (List Int)
abbrev bt4 := bp6
def bxn {ρ : Type} (f : bp6 → Option ρ) : bv8 ρ := fun l m k a b c d e g h i j => f (l, m, k, a, b, c, d, e, g, h, i, j)
def br7 {ρ : Type} : aeh bp6 bt4 ρ := fun (k, l, j, a, b, c, d, e, f, g, h, i) next ex => yh k l j a b c d e f g h i (bxn next) (bxn ex)
def bwa {ρ : Type} := shut (lp (br7 (ρ := ρ)))
theorem bzw {ρ : Type} : bwa (ρ := ρ) = lp br7 := bn _
def btf {ρ : Type} (f : aei bp6 bt4 ρ) (l : List Int) (m k a b : Int) (c d e g h i j : List Int) (n : bv8 ρ) : Option ρ := f (l, m, k, a, b, c, d, e, g, h, i, j) (fun (l, m, k, a, b, c, d, e, g, h, i, j) => n l m k a b c d e g h i j)
def aby {ρ : Type} := btf (lp (br7 (ρ := ρ)))
def yc {ρ : Type} := btf (bwa (ρ := ρ))
theorem aej {ρ : Type} : yc (ρ := ρ) = aby := congrArg btf bzw
abbrev buh (ρ : Type) := Int → Int → (List Int) → (List Int) → (List Int) → Int → Int → (List Int) → (List Int) → (List Int) → (List Int) → (List Int) → Option ρ
def xw {ρ : Type} (j b : Int) (c k l : List Int) (d e : Int) (f g h i a : List Int) (nx o : buh ρ) : Option ρ := br (decide (b < j)) (br (decide (0 ≤ b.tmod 16)) (br (decide (b.tmod 16 < (↑16 : Int))) (ig d e f g h i (a.getD 4 0) 3 fun m => lu b fun n => ig d e f g h i (a.getD 0 0) 2 fun p => br (decide (0 ≤ (IntKind.i64.wrap (b + 1)).tmod 16)) (br (decide ((IntKind.i64.wrap (b + 1)).tmod 16 < (↑16 : Int))) (jc d e f g h i (c.getD ((IntKind.i64.wrap (b + 1)).tmod 16).toNat 0) 0 fun q => br (decide (0 ≤ (IntKind.i64.wrap (b + 9)).tmod 16)) (br (decide ((IntKind.i64.wrap (b + 9)).tmod 16 < (↑16 : Int))) (br (decide (0 ≤ (IntKind.i64.wrap (b + 14)).tmod 16)) (br (decide ((IntKind.i64.wrap (b + 14)).tmod 16 < (↑16 : Int))) (jc d e f g h i (c.getD ((IntKind.i64.wrap (b + 14)).tmod 16).toNat 0) 1 fun r => br (decide (0 ≤ b.tmod 16)) (br (decide (b.tmod 16 < (↑16 : Int))) (nx j (IntKind.i64.wrap (b + 1)) (c.set (b.tmod 16).toNat (IntKind.u64.wrap (IntKind.u64.wrap (IntKind.u64.wrap (c.getD (b.tmod 16).toNat 0 + q) + c.getD ((IntKind.i64.wrap (b + 9)).tmod 16).toNat 0) + r))) k l d e f g h i ((((List.take 1 a).append (List.take 7 (List.take 7 (List.drop 0 a)) ++ List.drop (1 + min 7 (List.take 7 (List.drop 0 a)).length) a)).set 4 (IntKind.u64.wrap (((List.take 1 a).append (List.take 7 (List.take 7 (List.drop 0 a)) ++ List.drop (1 + min 7 (List.take 7 (List.drop 0 a)).length) a)).getD 4 0 + IntKind.u64.wrap (IntKind.u64.wrap (IntKind.u64.wrap (IntKind.u64.wrap (a.getD 7 0 + m) + bits BinOp.xor IntKind.u64 (a.getD 6 0) (bits BinOp.and IntKind.u64 (a.getD 4 0) (bits BinOp.xor IntKind.u64 (a.getD 5 0) (a.getD 6 0)))) + n) + c.getD (b.tmod 16).toNat 0)))).set 0 (IntKind.u64.wrap (IntKind.u64.wrap (IntKind.u64.wrap (IntKind.u64.wrap (IntKind.u64.wrap (a.getD 7 0 + m) + bits BinOp.xor IntKind.u64 (a.getD 6 0) (bits BinOp.and IntKind.u64 (a.getD 4 0) (bits BinOp.xor IntKind.u64 (a.getD 5 0) (a.getD 6 0)))) + n) + c.getD (b.tmod 16).toNat 0) + IntKind.u64.wrap (p + bits BinOp.or IntKind.u64 (bits BinOp.and IntKind.u64 (a.getD 0 0) (a.getD 1 0)) (bits BinOp.and IntKind.u64 (a.getD 2 0) (bits BinOp.or IntKind.u64 (a.getD 0 0) (a.getD 1 0)))))))) none) none) none) none) none) none) none) none) none) none) (o j b c k l d e f g h i a)
abbrev bq1 := Int × Int × (List Int) × (List Int) × (List Int) × Int × Int × (List Int) × (List Int) × (List Int) × (List Int) × (List Int)
abbrev bue := bq1
def buj {ρ : Type} (f : bq1 → Option ρ) : buh ρ := fun l m a b c d e g h i j k => f (l, m, a, b, c, d, e, g, h, i, j, k)
def bo4 {ρ : Type} : aeh bq1 bue ρ := fun (k, l, a, b, c, d, e, f, g, h, i, j) next ex => xw k l a b c d e f g h i j (buj next) (buj ex)
def bxy {ρ : Type} := shut (lp (bo4 (ρ := ρ)))
theorem bz4 {ρ : Type} : bxy (ρ := ρ) = lp bo4 := bn _
def btr {ρ : Type} (f : aei bq1 bue ρ) (l m : Int) (a b c : List Int) (d e : Int) (g h i j k : List Int) (n : buh ρ) : Option ρ := f (l, m, a, b, c, d, e, g, h, i, j, k) (fun (l, m, a, b, c, d, e, g, h, i, j, k) => n l m a b c d e g h i j k)
def aau {ρ : Type} := btr (lp (bo4 (ρ := ρ)))
def p9 {ρ : Type} := btr (bxy (ρ := ρ))
theorem ad5 {ρ : Type} : p9 (ρ := ρ) = aau := congrArg btr bz4
abbrev bv9 (ρ : Type) := Int → (List Int) → (List Int) → (List Int) → Option ρ
def xu {ρ : Type} (a : Int) (b d c : List Int) (nx e : bv9 ρ) : Option ρ := br (decide (a < 8)) (br (decide (0 ≤ a)) (br (decide (a < (↑8 : Int))) (br (decide (0 ≤ a)) (br (decide (a < (↑8 : Int))) (br (decide (0 ≤ a)) (br (decide (a < (↑8 : Int))) (nx (IntKind.i64.wrap (a + 1)) b d (c.set a.toNat (IntKind.u64.wrap (c.getD a.toNat 0 + b.getD a.toNat 0)))) none) none) none) none) none) none) (e a b d c)
abbrev br8 := Int × (List Int) × (List Int) × (List Int)
abbrev bui := br8
def bvf {ρ : Type} (f : br8 → Option ρ) : bv9 ρ := fun a b c d => f (a, b, c, d)
def bqv {ρ : Type} : aeh br8 bui ρ := fun (a, b, c, d) next ex => xu a b c d (bvf next) (bvf ex)
def bxd {ρ : Type} := shut (lp (bqv (ρ := ρ)))
theorem bzn {ρ : Type} : bxd (ρ := ρ) = lp bqv := bn _
def btn {ρ : Type} (f : aei br8 bui ρ) (a : Int) (b c d : List Int) (e : bv9 ρ) : Option ρ := f (a, b, c, d) (fun (a, b, c, d) => e a b c d)
def abe {ρ : Type} := btn (lp (bqv (ρ := ρ)))
def qo {ρ : Type} := btn (bxd (ρ := ρ))
theorem aed {ρ : Type} : qo (ρ := ρ) = abe := congrArg btn bzn
def xk {ρ : Type} (a f : Int) (b c d e p q : List Int) (k : (List Int) → Option ρ) : Option ρ := yc q (IntKind.i64.wrap (a.tdiv 8)) 0 a f b c d e p [0, 0, 0, 0, 0, 0, 0, 0] [0, 0, 0, 0, 0, 0, 0, 0, 0, 0, 0, 0, 0, 0, 0, 0] fun N O Q r g s t u v h i j => p9 g 0 j i h r g s t u v h fun w y z l m A B C F G H n => qo 0 m l n fun I J M o => k o
def jh {ρ : Type} := shut (xk (ρ := ρ))
theorem abz {ρ : Type} (f : Int) (e : Int) (a : List Int) (b : List Int) (c : List Int) (d : List Int) (g : List Int) (h : List Int) (k : (List Int) → Option ρ) : jh f e a b c d g h k = xk f e a b c d g h k := by unfold jh; rw [bn]

abbrev bvd (ρ : Type) := (List Int) → (List Int) → Int → Int → Int → (List Int) → (List Int) → (List Int) → (List Int) → (List Int) → (List Int) → (List Int) → Option ρ
def abh {ρ : Type} (l b : List Int) (a c d : Int) (e f g h i j k : List Int) (nx m : bvd ρ) : Option ρ := br (decide (a < 8)) (br (decide (0 ≤ a)) (br (decide (a < (↑8 : Int))) (br (decide (0 ≤ a)) (br (decide (a < (↑8 : Int))) (nx l b (IntKind.i64.wrap (a + 1)) c d e f g h i j (k.set a.toNat (b.getD a.toNat 0))) none) none) none) none) (m l b a c d e f g h i j k)
abbrev brx := (List Int) × (List Int) × Int × Int × Int × (List Int) × (List Int) × (List Int) × (List Int) × (List Int) × (List Int) × (List Int)
abbrev bu4 := brx
def bw4 {ρ : Type} (f : brx → Option ρ) : bvd ρ := fun m k l a b c d e g h i j => f (m, k, l, a, b, c, d, e, g, h, i, j)
def bpg {ρ : Type} : aeh brx bu4 ρ := fun (l, j, k, a, b, c, d, e, f, g, h, i) next ex => abh l j k a b c d e f g h i (bw4 next) (bw4 ex)
def bv3 {ρ : Type} := shut (lp (bpg (ρ := ρ)))
theorem bzu {ρ : Type} : bv3 (ρ := ρ) = lp bpg := bn _
def bse {ρ : Type} (f : aei brx bu4 ρ) (m k : List Int) (l a b : Int) (c d e g h i j : List Int) (n : bvd ρ) : Option ρ := f (m, k, l, a, b, c, d, e, g, h, i, j) (fun (m, k, l, a, b, c, d, e, g, h, i, j) => n m k l a b c d e g h i j)
def aeg {ρ : Type} := bse (lp (bpg (ρ := ρ)))
def aay {ρ : Type} := bse (bv3 (ρ := ρ))
theorem ahg {ρ : Type} : aay (ρ := ρ) = aeg := congrArg bse bzu
abbrev bw0 (ρ : Type) := (List Int) → Int → (List Int) → (List Int) → (List Int) → Int → Int → (List Int) → (List Int) → (List Int) → (List Int) → Option ρ
def aa8 {ρ : Type} (b : List Int) (a : Int) (i j k : List Int) (c d : Int) (e f g h : List Int) (nx l : bw0 ρ) : Option ρ := br (decide ((↑b.length : Int) ≥ a)) (br (decide (0 ≤ a)) (br (decide (a ≤ (↑b.length : Int))) (jh c d e f g h i (List.drop 0 (List.take a.toNat b)) fun m => br (decide (0 ≤ a)) (br (decide (a ≤ (↑b.length : Int))) (br (decide ((↑b.length : Int) ≤ (↑b.length : Int))) (nx (List.drop a.toNat (List.take (↑b.length : Int).toNat b)) a m j k c d e f g h) none) none) none) none) none) (l b a i j k c d e f g h)
abbrev bqa := (List Int) × Int × (List Int) × (List Int) × (List Int) × Int × Int × (List Int) × (List Int) × (List Int) × (List Int)
abbrev bwy := bqa
def bub {ρ : Type} (f : bqa → Option ρ) : bw0 ρ := fun l k a b c d e g h i j => f (l, k, a, b, c, d, e, g, h, i, j)
def brq {ρ : Type} : aeh bqa bwy ρ := fun (k, j, a, b, c, d, e, f, g, h, i) next ex => aa8 k j a b c d e f g h i (bub next) (bub ex)
def byj {ρ : Type} := shut (lp (brq (ρ := ρ)))
theorem bz8 {ρ : Type} : byj (ρ := ρ) = lp brq := bn _
def btp {ρ : Type} (f : aei bqa bwy ρ) (l : List Int) (k : Int) (a b c : List Int) (d e : Int) (g h i j : List Int) (m : bw0 ρ) : Option ρ := f (l, k, a, b, c, d, e, g, h, i, j) (fun (l, k, a, b, c, d, e, g, h, i, j) => m l k a b c d e g h i j)
def aee {ρ : Type} := btp (lp (brq (ρ := ρ)))
def aav {ρ : Type} := btp (byj (ρ := ρ))
theorem ahe {ρ : Type} : aav (ρ := ρ) = aee := congrArg btp bz8
abbrev bxl (ρ : Type) := (List Int) → (List Int) → Int → (List Int) → (List Int) → Option ρ
def aaj {ρ : Type} (e b : List Int) (a : Int) (c d : List Int) (nx f : bxl ρ) : Option ρ := br (decide (a < 8)) (br (decide (0 ≤ a)) (br (decide (a < (↑8 : Int))) (br (decide (0 ≤ a)) (br (decide (a < (↑8 : Int))) (nx e b (IntKind.i64.wrap (a + 1)) (c.set a.toNat (b.getD a.toNat 0)) d) none) none) none) none) (f e b a c d)
abbrev bq3 := (List Int) × (List Int) × Int × (List Int) × (List Int)
abbrev bwj := bq3
def bwf {ρ : Type} (f : bq3 → Option ρ) : bxl ρ := fun e c d a b => f (e, c, d, a, b)
def bqu {ρ : Type} : aeh bq3 bwj ρ := fun (e, c, d, a, b) next ex => aaj e c d a b (bwf next) (bwf ex)
def byn {ρ : Type} := shut (lp (bqu (ρ := ρ)))
theorem b0j {ρ : Type} : byn (ρ := ρ) = lp bqu := bn _
def bs0 {ρ : Type} (f : aei bq3 bwj ρ) (e c : List Int) (d : Int) (a b : List Int) (g : bxl ρ) : Option ρ := f (e, c, d, a, b) (fun (e, c, d, a, b) => g e c d a b)
def ac4 {ρ : Type} := bs0 (lp (bqu (ρ := ρ)))
def aal {ρ : Type} := bs0 (byn (ρ := ρ))
theorem agq {ρ : Type} : aal (ρ := ρ) = ac4 := congrArg bs0 b0j
def aao {ρ : Type} (f e : Int) (a b c d g r : List Int) (k : (List Int) → (List Int) → Option ρ) : Option ρ := aay r g 0 f e a b c d g [0, 0, 0, 0, 0, 0, 0, 0] [0, 0, 0, 0, 0, 0, 0, 0] fun s O Q h t u v w y z i j => aav s (IntKind.i64.wrap (h * 2)) j i z h t u v w y fun l A m n o B C F G H I => aal l m 0 o n fun p J M q N => k q p
def l9 {ρ : Type} := shut (aao (ρ := ρ))
theorem ad7 {ρ : Type} (f : Int) (e : Int) (a : List Int) (b : List Int) (c : List Int) (d : List Int) (g : List Int) (h : List Int) (k : (List Int) → (List Int) → Option ρ) : l9 f e a b c d g h k = aao f e a b c d g h k := by unfold l9; rw [bn]

def amo {ρ : Type} (k : Int → Int → (List Int) → (List Int) → (List Int) → (List Int) → Option ρ) : Option ρ := k 64 80 [1, 8, 7] [19, 61, 6] [28, 34, 39] [14, 18, 41]
def aa1 {ρ : Type} := shut (amo (ρ := ρ))
theorem apx {ρ : Type}  (k : Int → Int → (List Int) → (List Int) → (List Int) → (List Int) → Option ρ) : aa1  k = amo  k := by unfold aa1; rw [bn]

def l8 {ρ : Type} (a : List Int) (k : (List Int) → Option ρ) : Option ρ := br (decide (a.length * 1 ≤ 140737488355328)) (k a) none

def al2 {ρ : Type} (a : Int) (b d : List Int) (c : Int) (e : List Int) (k : Int → (List Int) → (List Int) → Int → Option ρ) : Option ρ := gq [d, e] fun f => br (a == 1) (aa5 fun q r s t u v => mg q r s t u v b f fun w y => l8 y fun z => k a w z (IntKind.u64.wrap (c + IntKind.u64.wrap (↑e.length : Int)))) (aa1 fun g h i j l m => l9 g h i j l m b f fun n o => l8 o fun p => k a n p (IntKind.u64.wrap (c + IntKind.u64.wrap (↑e.length : Int))))
def vw {ρ : Type} := shut (al2 (ρ := ρ))
theorem av6 {ρ : Type} (b : Int) (a : List Int) (c : List Int) (d : Int) (e : List Int) (k : Int → (List Int) → (List Int) → Int → Option ρ) : vw b a c d e k = al2 b a c d e k := by unfold vw; rw [bn]

def adt {ρ : Type} (a : Int) (k : Int → Option ρ) : Option ρ := br (a == 1) (k 64) (k 128)
def qc {ρ : Type} := shut (adt (ρ := ρ))
theorem air {ρ : Type} (a : Int) (k : Int → Option ρ) : qc a k = adt a k := by unfold qc; rw [bn]

abbrev buw (ρ : Type) := Int → (List Int) → Int → (List Int) → Int → (List Int) → Int → (List Int) → Option ρ
def alp {ρ : Type} (g : Int) (b : List Int) (a : Int) (c : List Int) (d : Int) (e : List Int) (f : Int) (h : List Int) (nx j : buw ρ) : Option ρ := br (decide (a < 8)) (br (decide (0 ≤ a)) (br (decide (a < (↑8 : Int))) (ni (b.getD a.toNat 0) (IntKind.i64.wrap (g.tdiv 16)) fun i => br (decide ((c.length + i.length) * 1 ≤ 140737488355328)) (nx g b (IntKind.i64.wrap (a + 1)) (c ++ i) d e f h) none) none) none) (j g b a c d e f h)
abbrev bpm := Int × (List Int) × Int × (List Int) × Int × (List Int) × Int × (List Int)
abbrev bwe := bpm
def bvk {ρ : Type} (f : bpm → Option ρ) : buw ρ := fun h d e g a b c i => f (h, d, e, g, a, b, c, i)
def bpo {ρ : Type} : aeh bpm bwe ρ := fun (g, d, e, f, a, b, c, h) next ex => alp g d e f a b c h (bvk next) (bvk ex)
def btw {ρ : Type} := shut (lp (bpo (ρ := ρ)))
theorem bzq {ρ : Type} : btw (ρ := ρ) = lp bpo := bn _
def btk {ρ : Type} (f : aei bpm bwe ρ) (h : Int) (d : List Int) (e : Int) (g : List Int) (a : Int) (b : List Int) (c : Int) (i : List Int) (j : buw ρ) : Option ρ := f (h, d, e, g, a, b, c, i) (fun (h, d, e, g, a, b, c, i) => j h d e g a b c i)
def aro {ρ : Type} := btk (lp (bpo (ρ := ρ)))
def ak5 {ρ : Type} := btk (btw (ρ := ρ))
theorem auu {ρ : Type} : ak5 (ρ := ρ) = aro := congrArg btk bzq
def ak2 {ρ : Type} (c : Int) (e a : List Int) (d : Int) (k : (List Int) → Option ρ) : Option ρ := qc c fun b => br (decide (1 ≤ b)) (br (decide (b * (↑1 : Int) ≤ (↑140737488355328 : Int))) (br (decide (b = 0)) none (br (decide (0 ≤ IntKind.i64.wrap (IntKind.i64.wrap ((IntKind.i64.wrap (IntKind.i64.wrap (IntKind.i64.wrap (IntKind.i64.wrap (2 * b) - 1) - IntKind.i64.wrap (b.tdiv 8)) - (↑a.length : Int))).tmod b + IntKind.i64.wrap (b.tdiv 8)) - 8))) (br (decide ((1 + (IntKind.i64.wrap (IntKind.i64.wrap ((IntKind.i64.wrap (IntKind.i64.wrap (IntKind.i64.wrap (IntKind.i64.wrap (2 * b) - 1) - IntKind.i64.wrap (b.tdiv 8)) - (↑a.length : Int))).tmod b + IntKind.i64.wrap (b.tdiv 8)) - 8)).toNat) * 1 ≤ 140737488355328)) (ni (IntKind.u64.wrap (d * 2 ^ 3)) 8 fun g => br (decide ((((List.replicate (IntKind.i64.wrap (IntKind.i64.wrap ((IntKind.i64.wrap (IntKind.i64.wrap (IntKind.i64.wrap (IntKind.i64.wrap (2 * b) - 1) - IntKind.i64.wrap (b.tdiv 8)) - (↑a.length : Int))).tmod b + IntKind.i64.wrap (b.tdiv 8)) - 8)).toNat (0 : Int)).length.add 0).succ + g.length) * 1 ≤ 140737488355328)) (vw c e a d ((List.replicate 1 (0 : Int)).set 0 128 ++ List.replicate (IntKind.i64.wrap (IntKind.i64.wrap ((IntKind.i64.wrap (IntKind.i64.wrap (IntKind.i64.wrap (IntKind.i64.wrap (2 * b) - 1) - IntKind.i64.wrap (b.tdiv 8)) - (↑a.length : Int))).tmod b + IntKind.i64.wrap (b.tdiv 8)) - 8)).toNat (0 : Int) ++ g) fun j h l m => ak5 b h 0 [] j h m l fun q r s f i n o p => br (i == 2) (br (decide (48 ≤ (↑f.length : Int))) (k (List.take ((48 : Int) - (0 : Int)).toNat f)) none) (k f)) none) none) none)) none) none
def ab4 {ρ : Type} := shut (ak2 (ρ := ρ))
theorem au3 {ρ : Type} (b : Int) (a : List Int) (c : List Int) (d : Int) (k : (List Int) → Option ρ) : ab4 b a c d k = ak2 b a c d k := by unfold ab4; rw [bn]

def ak0 {ρ : Type} (i : List Int) (j l : Int) (m : List (List Int)) (k : (List Int) → Option ρ) : Option ρ := ab7 1 fun n o p q w => ni j 4 fun r => ni l 2 fun s => jq [i, r, s] fun t => vw n o p q t fun u v a b => jq m fun c => vw u v a b c fun d e f g => ab4 d e f g fun h => k h
def y7 {ρ : Type} := shut (ak0 (ρ := ρ))
theorem avo {ρ : Type} (a : List Int) (b : Int) (c : Int) (d : List (List Int)) (k : (List Int) → Option ρ) : y7 a b c d k = ak0 a b c d k := by unfold y7; rw [bn]

def acy {ρ : Type} (o : Int) (d : List Int) (e a b c p : Int) (q : List (List Int)) (k : (List Int) → Option ρ) : Option ρ := ab7 1 fun r s t u B => ni (IntKind.u64.wrap e) 4 fun v => ni p 2 fun w => jq [d, v, w] fun y => vw r s t u y fun z A f g => jq q fun h => vw z A f g h fun i j l m => ab4 i j l m fun n => k n
def jv {ρ : Type} := shut (acy (ρ := ρ))
theorem ahf {ρ : Type} (e : Int) (d : List Int) (f : Int) (a : Int) (b : Int) (c : Int) (g : Int) (h : List (List Int)) (k : (List Int) → Option ρ) : jv e d f a b c g h k = acy e d f a b c g h k := by unfold jv; rw [bn]

def ani {ρ : Type} (c : List Int) (a b : Int) (k : Bool → Option ρ) : Option ρ := br (decide (a ≥ 1)) (br (decide (a ≤ 24)) (br (decide (b ≥ 0)) (br (decide (a = 0)) none (k (decide (b ≤ IntKind.i64.wrap ((IntKind.i64.wrap ((↑c.length : Int) * 8)).tdiv a))))) (k false)) (k false)) (k false)
def aa6 {ρ : Type} := shut (ani (ρ := ρ))
theorem aqg {ρ : Type} (a : List Int) (b : Int) (c : Int) (k : Bool → Option ρ) : aa6 a b c k = ani a b c k := by unfold aa6; rw [bn]

abbrev bt2 (ρ : Type) := (List Int) → Int → Int → Int → Int → Int → Int → (List Int) → Option ρ
def agw {ρ : Type} (a : List Int) (e g f b c d : Int) (h : List Int) (nx i : bt2 ρ) : Option ρ := br (decide (f < e)) (br (decide (0 < (↑a.length : Int))) (br (decide (1 ≤ (↑a.length : Int))) (br (decide ((↑a.length : Int) ≤ (↑a.length : Int))) (nx (List.drop 1 (List.take (↑a.length : Int).toNat a)) e (bits BinOp.or IntKind.u64 (IntKind.u64.wrap (g * 2 ^ 8)) (IntKind.u64.wrap (a.getD 0 0))) (IntKind.i64.wrap (f + 8)) b c d h) none) none) none) (i a e g f b c d h)
abbrev bqp := (List Int) × Int × Int × Int × Int × Int × Int × (List Int)
abbrev bun := bqp
def bwx {ρ : Type} (f : bqp → Option ρ) : bt2 ρ := fun d e g h a b c i => f (d, e, g, h, a, b, c, i)
def brp {ρ : Type} : aeh bqp bun ρ := fun (d, e, f, g, a, b, c, h) next ex => agw d e f g a b c h (bwx next) (bwx ex)
def bty {ρ : Type} := shut (lp (brp (ρ := ρ)))
theorem bzx {ρ : Type} : bty (ρ := ρ) = lp brp := bn _
def bsm {ρ : Type} (f : aei bqp bun ρ) (d : List Int) (e g h a b c : Int) (i : List Int) (j : bt2 ρ) : Option ρ := f (d, e, g, h, a, b, c, i) (fun (d, e, g, h, a, b, c, i) => j d e g h a b c i)
def akw {ρ : Type} := bsm (lp (brp (ρ := ρ)))
def ako {ρ : Type} := bsm (bty (ρ := ρ))
theorem apd {ρ : Type} : ako (ρ := ρ) = akw := congrArg bsm bzx
abbrev bxt (ρ : Type) := (List Int) → Int → Int → Int → Int → Int → (List Int) → Option ρ
def ag9 {ρ : Type} (f : List Int) (g h i c a : Int) (j : List Int) (nx m : bxt ρ) : Option ρ := br (decide (a < c)) (ako f g h i a c a j fun n b k d e o p l => br (decide (IntKind.i64.wrap (d - b) < 0)) none (br (decide (b < 0)) none (br (decide (0 ≤ e)) (br (decide (e < (↑l.length : Int))) (nx n b k (IntKind.i64.wrap (d - b)) o (IntKind.i64.wrap (p + 1)) (l.set e.toNat (IntKind.u32.wrap (bits BinOp.and IntKind.u64 (k.fdiv (2 ^ min (IntKind.i64.wrap (d - b)).toNat 64)) (IntKind.u64.wrap (IntKind.u64.wrap (1 * 2 ^ min b.toNat 64) - 1)))))) none) none))) (m f g h i c a j)
abbrev brg := (List Int) × Int × Int × Int × Int × Int × (List Int)
abbrev bxc := brg
def btv {ρ : Type} (f : brg → Option ρ) : bxt ρ := fun c d e g a b h => f (c, d, e, g, a, b, h)
def bre {ρ : Type} : aeh brg bxc ρ := fun (c, d, e, f, a, b, g) next ex => ag9 c d e f a b g (btv next) (btv ex)
def bw3 {ρ : Type} := shut (lp (bre (ρ := ρ)))
theorem bzr {ρ : Type} : bw3 (ρ := ρ) = lp bre := bn _
def bta {ρ : Type} (f : aei brg bxc ρ) (c : List Int) (d e g a b : Int) (h : List Int) (i : bxt ρ) : Option ρ := f (c, d, e, g, a, b, h) (fun (c, d, e, g, a, b, h) => i c d e g a b h)
def akn {ρ : Type} := bta (lp (bre (ρ := ρ)))
def aks {ρ : Type} := bta (bw3 (ρ := ρ))
theorem aov {ρ : Type} : aks (ρ := ρ) = akn := congrArg bta bzr
def afw {ρ : Type} (b : List Int) (c a : Int) (k : (List Int) → Option ρ) : Option ρ := aa6 b c a fun d => br (!d) (k []) (br (decide (0 ≤ a)) (br (decide (a ≤ a)) (br (decide (a * (↑4 : Int) ≤ (↑140737488355328 : Int))) (aks b c 0 0 (↑(List.replicate a.toNat (0 : Int)).length : Int) 0 (List.replicate a.toNat (0 : Int)) fun f g h i j l e => k e) none) none) none)
def rz {ρ : Type} := shut (afw (ρ := ρ))
theorem akt {ρ : Type} (a : List Int) (b : Int) (c : Int) (k : (List Int) → Option ρ) : rz a b c k = afw a b c k := by unfold rz; rw [bn]

abbrev bt3 (ρ : Type) := Int → Int → Int → Int → Int → Int → Int → (List Int) → Option ρ
def afi {ρ : Type} (g h b a c d e : Int) (f : List Int) (nx i : bt3 ρ) : Option ρ := br (decide (a < b)) (br (decide (0 ≤ a)) (br (decide (a < (↑f.length : Int))) (nx g (IntKind.u64.wrap (h - IntKind.u64.wrap (f.getD a.toNat 0))) b (IntKind.i64.wrap (a + 1)) c d e f) none) none) (i g h b a c d e f)
abbrev bqt := Int × Int × Int × Int × Int × Int × Int × (List Int)
abbrev bu6 := bqt
def bu3 {ρ : Type} (f : bqt → Option ρ) : bt3 ρ := fun g h d e a b c i => f (g, h, d, e, a, b, c, i)
def br9 {ρ : Type} : aeh bqt bu6 ρ := fun (f, g, d, e, a, b, c, h) next ex => afi f g d e a b c h (bu3 next) (bu3 ex)
def byp {ρ : Type} := shut (lp (br9 (ρ := ρ)))
theorem bzd {ρ : Type} : byp (ρ := ρ) = lp br9 := bn _
def btj {ρ : Type} (f : aei bqt bu6 ρ) (g h d e a b c : Int) (i : List Int) (j : bt3 ρ) : Option ρ := f (g, h, d, e, a, b, c, i) (fun (g, h, d, e, a, b, c, i) => j g h d e a b c i)
def ajt {ρ : Type} := btj (lp (br9 (ρ := ρ)))
def ajn {ρ : Type} := btj (byp (ρ := ρ))
theorem an2 {ρ : Type} : ajn (ρ := ρ) = ajt := congrArg btj bzd
def aes {ρ : Type} (a : Int) (f : List Int) (k : (List Int) → Int → Option ρ) : Option ρ := l6 a fun h i j l => br (!l) (k [] 9) (br ((↑f.length : Int) != 32) (k [] 14) (br (decide (a = 0)) none (rz f a (IntKind.i64.wrap (Int.tdiv 256 a)) fun e => br (decide (a < 0)) none (ajn a (IntKind.u64.wrap (IntKind.u64.wrap (↑e.length : Int) * IntKind.u64.wrap (IntKind.u64.wrap (1 * 2 ^ min a.toNat 64) - 1))) (↑e.length : Int) 0 h i j e fun m n q r o c p b => br (decide (c < 0)) none (ni (IntKind.u64.wrap (n * 2 ^ min c.toNat 64)) 2 fun g => rz g m (IntKind.i64.wrap (o - (↑b.length : Int))) fun d => br (decide ((b.length + d.length) * 4 ≤ 140737488355328)) (k (b ++ d) 0) none)))))
def yu {ρ : Type} := shut (aes (ρ := ρ))
theorem aj3 {ρ : Type} (a : Int) (b : List Int) (k : (List Int) → Int → Option ρ) : yu a b k = aes a b k := by unfold yu; rw [bn]

def zy {ρ : Type} (d : Int) (e : List Int) (f a b c : Int) (g h : List Int) (k : (List Int) → Option ρ) : Option ρ := jv d e f a b c 33153 [g, h] fun i => yu d i fun j l => k j
def lq {ρ : Type} := shut (zy (ρ := ρ))
theorem ac7 {ρ : Type} (e : Int) (d : List Int) (f : Int) (a : Int) (b : Int) (c : Int) (g : List Int) (h : List Int) (k : (List Int) → Option ρ) : lq e d f a b c g h k = zy e d f a b c g h k := by unfold lq; rw [bn]

abbrev bt6 (ρ : Type) := Int → Int → (List Int) → Int → Int → Int → (List Int) → Int → Int → Int → Int → Option ρ
def ace {ρ : Type} (i j : Int) (k : List Int) (h g a : Int) (b : List Int) (c d e f : Int) (nx l : bt6 ρ) : Option ρ := br (decide (g < h)) (jv a b c d e f (IntKind.u64.wrap i) [[IntKind.u8.wrap (IntKind.u32.wrap (j + g))], k] fun m => nx i j m h (IntKind.u32.wrap (g + 1)) a b c d e f) (l i j k h g a b c d e f)
abbrev bq2 := Int × Int × (List Int) × Int × Int × Int × (List Int) × Int × Int × Int × Int
abbrev bwv := bq2
def bxw {ρ : Type} (f : bq2 → Option ρ) : bt6 ρ := fun j k l h i a b c d e g => f (j, k, l, h, i, a, b, c, d, e, g)
def bp3 {ρ : Type} : aeh bq2 bwv ρ := fun (i, j, k, g, h, a, b, c, d, e, f) next ex => ace i j k g h a b c d e f (bxw next) (bxw ex)
def bwu {ρ : Type} := shut (lp (bp3 (ρ := ρ)))
theorem b0f {ρ : Type} : bwu (ρ := ρ) = lp bp3 := bn _
def bsr {ρ : Type} (f : aei bq2 bwv ρ) (j k : Int) (l : List Int) (h i a : Int) (b : List Int) (c d e g : Int) (m : bt6 ρ) : Option ρ := f (j, k, l, h, i, a, b, c, d, e, g) (fun (j, k, l, h, i, a, b, c, d, e, g) => m j k l h i a b c d e g)
def afm {ρ : Type} := bsr (lp (bp3 (ρ := ρ)))
def afb {ρ : Type} := bsr (bwu (ρ := ρ))
theorem ai1 {ρ : Type} : afb (ρ := ρ) = afm := congrArg bsr b0f
def ab0 {ρ : Type} (e : Int) (d : List Int) (f a b c g h i : Int) (j : List Int) (k : (List Int) → Option ρ) : Option ρ := afb g h j i 0 e d f a b c fun n o l p q r s t u v m => k l
def o8 {ρ : Type} := shut (ab0 (ρ := ρ))
theorem afa {ρ : Type} (e : Int) (d : List Int) (f : Int) (a : Int) (b : Int) (c : Int) (g : Int) (h : Int) (i : Int) (j : List Int) (k : (List Int) → Option ρ) : o8 e d f a b c g h i j k = ab0 e d f a b c g h i j k := by unfold o8; rw [bn]

def aev {ρ : Type} (c : Int) (e : List Int) (f a b d : Int) (k : Int → Option ρ) : Option ρ := br (decide (c < 0)) none (k (IntKind.u32.wrap (IntKind.u32.wrap (1 * 2 ^ min c.toNat 32) - 1)))
def o7 {ρ : Type} := shut (aev (ρ := ρ))
theorem afl {ρ : Type} (e : Int) (d : List Int) (f : Int) (a : Int) (b : Int) (c : Int) (k : Int → Option ρ) : o7 e d f a b c k = aev e d f a b c k := by unfold o7; rw [bn]

def afe {ρ : Type} (a : Int) (b : List Int) (c : Int) (k : Int → (List Int) → Int → Int → Int → Int → Int → Option ρ) : Option ρ := l6 a fun d e f g => br (!g) (k 0 [] 0 0 0 0 9) (br ((↑b.length : Int) != 16) (k 0 [] 0 0 0 0 14) (k a b c d e f 0))
def zx {ρ : Type} := shut (afe (ρ := ρ))
theorem aku {ρ : Type} (a : Int) (b : List Int) (c : Int) (k : Int → (List Int) → Int → Int → Int → Int → Int → Option ρ) : zx a b c k = afe a b c k := by unfold zx; rw [bn]

abbrev bu1 (ρ : Type) := (List Int) → Int → Int → (List Int) → Int → (List Int) → Int → Int → Int → Int → (List Int) → Option ρ
def ac0 {ρ : Type} (a : List Int) (i b : Int) (k : List Int) (c : Int) (d : List Int) (e f g h : Int) (j : List Int) (nx m : bu1 ρ) : Option ρ := br (decide (b < i)) (br (decide (0 ≤ b)) (br (decide (b < (↑j.length : Int))) (o7 c d e f g h fun n => br (decide (32 ≤ (↑a.length : Int))) (o8 c d e f g h b (j.getD b.toNat 0) (IntKind.u32.wrap (n - j.getD b.toNat 0)) (List.drop 0 (List.take (Int.toNat 32) a)) fun l => br (decide ((k.length + l.length) * 1 ≤ 140737488355328)) (br (decide (32 ≤ (↑a.length : Int))) (br (decide ((↑a.length : Int) ≤ (↑a.length : Int))) (nx (List.drop 32 (List.take (↑a.length : Int).toNat a)) i (IntKind.i64.wrap (b + 1)) (k ++ l) c d e f g h j) none) none) none) none) none) none) (m a i b k c d e f g h j)
abbrev bpv := (List Int) × Int × Int × (List Int) × Int × (List Int) × Int × Int × Int × Int × (List Int)
abbrev bvr := bpv
def byv {ρ : Type} (f : bpv → Option ρ) : bu1 ρ := fun h i j k a b c d e g l => f (h, i, j, k, a, b, c, d, e, g, l)
def bpe {ρ : Type} : aeh bpv bvr ρ := fun (g, h, i, j, a, b, c, d, e, f, k) next ex => ac0 g h i j a b c d e f k (byv next) (byv ex)
def bxi {ρ : Type} := shut (lp (bpe (ρ := ρ)))
theorem bz9 {ρ : Type} : bxi (ρ := ρ) = lp bpe := bn _
def btl {ρ : Type} (f : aei bpv bvr ρ) (h : List Int) (i j : Int) (k : List Int) (a : Int) (b : List Int) (c d e g : Int) (l : List Int) (m : bu1 ρ) : Option ρ := f (h, i, j, k, a, b, c, d, e, g, l) (fun (h, i, j, k, a, b, c, d, e, g, l) => m h i j k a b c d e g l)
def af7 {ρ : Type} := btl (lp (bpe (ρ := ρ)))
def agb {ρ : Type} := btl (bxi (ρ := ρ))
theorem ajx {ρ : Type} : agb (ρ := ρ) = af7 := congrArg btl bz9
def acd {ρ : Type} (c : Int) (t : List Int) (u : Int) (v a : List Int) (k : (List Int) → Int → Option ρ) : Option ρ := zx c t u fun d e f g h b i => br (i != 0) (k [] i) (je c fun w => br ((↑a.length : Int) != w) (k [] 1) (br (decide (4 ≤ (↑a.length : Int))) (iy (List.drop 0 (List.take (Int.toNat 4) a)) fun y => br (y != IntKind.u64.wrap b) (k [] 1) (br (decide (36 ≤ (↑a.length : Int))) (br (decide ((↑a.length : Int) ≤ (↑a.length : Int))) (br (decide (36 ≤ (↑a.length : Int))) (lq d e f g h b (List.drop 4 (List.take (Int.toNat 36) a)) v fun j => agb (List.drop 36 (List.take (↑a.length : Int).toNat a)) (↑j.length : Int) 0 [] d e f g h b j fun z A B l m n o p q r C => jv m n o p q r 32896 [l] fun s => k s 0) none) none) none)) none))
def jl {ρ : Type} := shut (acd (ρ := ρ))
theorem agc {ρ : Type} (a : Int) (b : List Int) (c : Int) (d : List Int) (e : List Int) (k : (List Int) → Int → Option ρ) : jl a b c d e k = acd a b c d e k := by unfold jl; rw [bn]

abbrev bvn (ρ : Type) := Int → (List Int) → (List Int) → (List Int) → (List Int) → Option ρ
def ain {ρ : Type} (c : Int) (b e d a : List Int) (nx f : bvn ρ) : Option ρ := br (decide (c > (1 : Int))) (br (decide ((32 : Int) ≤ (↑a.length : Int))) (br (c.tmod (2 : Int) == (1 : Int)) (y7 b (IntKind.u64.wrap (c.tdiv (2 : Int))) (33667 : Int) [List.drop 0 (List.take (Int.toNat (32 : Int)) a), d] fun g => br (decide ((32 : Int) ≤ (↑a.length : Int))) (br (decide ((↑a.length : Int) ≤ (↑a.length : Int))) (nx (IntKind.u64.wrap (c.tdiv (2 : Int))) b e g (List.drop 32 (List.take (↑a.length : Int).toNat a))) none) none) (y7 b (IntKind.u64.wrap (c.tdiv (2 : Int))) (33667 : Int) [d, List.drop 0 (List.take (Int.toNat (32 : Int)) a)] fun h => br (decide ((32 : Int) ≤ (↑a.length : Int))) (br (decide ((↑a.length : Int) ≤ (↑a.length : Int))) (nx (IntKind.u64.wrap (c.tdiv (2 : Int))) b e h (List.drop 32 (List.take (↑a.length : Int).toNat a))) none) none)) none) (f c b e d a)
abbrev br1 := Int × (List Int) × (List Int) × (List Int) × (List Int)
abbrev bvh := br1
def bxz {ρ : Type} (f : br1 → Option ρ) : bvn ρ := fun d a e b c => f (d, a, e, b, c)
def bpq {ρ : Type} : aeh br1 bvh ρ := fun (d, a, e, b, c) next ex => ain d a e b c (bxz next) (bxz ex)
def bvi {ρ : Type} := shut (lp (bpq (ρ := ρ)))
theorem bzy {ρ : Type} : bvi (ρ := ρ) = lp bpq := bn _
def bs5 {ρ : Type} (f : aei br1 bvh ρ) (d : Int) (a e b c : List Int) (g : bvn ρ) : Option ρ := f (d, a, e, b, c) (fun (d, a, e, b, c) => g d a e b c)
def amq {ρ : Type} := bs5 (lp (bpq (ρ := ρ)))
def aht {ρ : Type} := bs5 (bvi (ρ := ρ))
theorem aq4 {ρ : Type} : aht (ρ := ρ) = amq := congrArg bs5 bzy
def ai3 {ρ : Type} (a d : Int) (e h b : List Int) (k : (List Int) → Option ρ) : Option ρ := br (decide (4 ≤ (↑b.length : Int))) (iy (List.drop 0 (List.take (Int.toNat 4) b)) fun f => je d fun c => br (decide (4 ≤ IntKind.i64.wrap (4 + c))) (br (decide (IntKind.i64.wrap (4 + c) ≤ (↑b.length : Int))) (jl d e (IntKind.u32.wrap f) h (List.drop 4 (List.take (IntKind.i64.wrap (4 + c)).toNat b)) fun i l => br (decide (a < 0)) none (y7 e (IntKind.u64.wrap (IntKind.u64.wrap (1 * 2 ^ min a.toNat 64) + IntKind.u64.wrap (IntKind.u32.wrap f))) 33410 [i] fun g => br (decide (0 ≤ IntKind.i64.wrap (IntKind.i64.wrap (4 + c) + 4))) (br (decide (IntKind.i64.wrap (IntKind.i64.wrap (4 + c) + 4) ≤ (↑b.length : Int))) (br (decide ((↑b.length : Int) ≤ (↑b.length : Int))) (br (decide (a < 0)) none (aht (IntKind.u64.wrap (IntKind.u64.wrap (1 * 2 ^ min a.toNat 64) + IntKind.u64.wrap (IntKind.u32.wrap f))) e g g (List.drop (IntKind.i64.wrap (IntKind.i64.wrap (4 + c) + 4)).toNat (List.take (↑b.length : Int).toNat b)) fun m n o j p => k j)) none) none) none)) none) none) none
def aex {ρ : Type} := shut (ai3 (ρ := ρ))
theorem as6 {ρ : Type} (a : Int) (b : Int) (c : List Int) (d : List Int) (e : List Int) (k : (List Int) → Option ρ) : aex a b c d e k = ai3 a b c d e k := by unfold aex; rw [bn]

def nu {ρ : Type} (a j b : List Int) (k : Int → Option ρ) : Option ρ := br ((↑a.length : Int) != 56) (k 10) (br (decide (4 ≤ (↑a.length : Int))) (iy (List.drop 0 (List.take (Int.toNat 4) a)) fun l => lg l fun m => br (m == 0) (k 10) (br (decide (8 ≤ (↑a.length : Int))) (iy (List.drop 4 (List.take (Int.toNat 8) a)) fun n => ow n fun o => br (o == 0) (k 10) (zq b fun r c d p e => br (e != 0) (k e) (br (decide ((↑p.length : Int) > 0)) (k 1) (ae1 c d fun q => br (decide (8 ≤ (↑a.length : Int))) (uh q (List.drop 0 (List.take (Int.toNat 8) a)) fun f => br (!f) (k 1) (br (decide (4 ≤ (↑b.length : Int))) (iy (List.drop 0 (List.take (Int.toNat 4) b)) fun g => br (decide (c < 0)) none (br (g.fdiv (2 ^ min c.toNat 64) != 0) (k 13) (br (decide (24 ≤ (↑a.length : Int))) (aex c d (List.drop 8 (List.take (Int.toNat 24) a)) j b fun h => br (decide (24 ≤ (↑a.length : Int))) (br (decide ((↑a.length : Int) ≤ (↑a.length : Int))) (uh h (List.drop 24 (List.take (↑a.length : Int).toNat a)) fun i => br (!i) (k 11) (k 0)) none) none) none))) none)) none)))) none)) none)
def vo {ρ : Type} := shut (nu (ρ := ρ))
theorem aoi {ρ : Type} (a : List Int) (b : List Int) (c : List Int) (k : Int → Option ρ) : vo a b c k = nu a b c k := by unfold vo; rw [bn]

def aji {ρ : Type} (b e f : List Int) (g : Bool) (k : (List Int) → (List Int) → Int → Option ρ) : Option ρ := zq f fun c j l a d => br (d != 0) (k [] [] d) (br g (br (decide ((↑a.length : Int) > 0)) (k [] [] 1) (vo b e c fun h => k [] [] h)) (br (decide ((↑a.length : Int) < 56)) (k [] [] 1) (br (decide (56 ≤ (↑a.length : Int))) (br (decide (56 ≤ (↑a.length : Int))) (br (decide ((↑a.length : Int) ≤ (↑a.length : Int))) (vo b (List.take ((56 : Int) - (0 : Int)).toNat (List.drop 0 a)) c fun i => k (List.take ((56 : Int) - (0 : Int)).toNat (List.drop 0 a)) (List.take ((↑a.length : Int) - 56).toNat (List.drop 56 a)) i) none) none) none)))
def af9 {ρ : Type} := shut (aji (ρ := ρ))
theorem ar4 {ρ : Type} (a : List Int) (b : List Int) (c : List Int) (d : Bool) (k : (List Int) → (List Int) → Int → Option ρ) : af9 a b c d k = aji a b c d k := by unfold af9; rw [bn]

abbrev bv7 (ρ : Type) := (List Int) → Int → (List Int) → (List Int) → Option ρ
def an0 {ρ : Type} (b : List Int) (a : Int) (c d : List Int) (nx f : bv7 ρ) (g : Int → Option ρ) : Option ρ := br (decide (a > 0)) (af9 c b d (a == 1) fun h i e => br (e != 0) (g e) (nx b (IntKind.u64.wrap (a - 1)) h i)) (f b a c d)
abbrev bti := (List Int) × Int × (List Int) × (List Int)
abbrev bwr := ((List Int) × Int × (List Int) × (List Int)) ⊕ (Int)
def bzf {ρ : Type} (f : bti → Option ρ) : bv7 ρ := fun a b c d => f (a, b, c, d)
def bq5 {ρ : Type} : aeh bti bwr ρ := fun (a, b, c, d) next ex => an0 a b c d (bzf next) (fun a b c d => ex (.inl (a, b, c, d))) (fun e => ex (.inr e))
def bw2 {ρ : Type} := shut (lp (bq5 (ρ := ρ)))
theorem bzv {ρ : Type} : bw2 (ρ := ρ) = lp bq5 := bn _
def btg {ρ : Type} (f : aei bti bwr ρ) (a : List Int) (b : Int) (c d : List Int) (e : bv7 ρ) (g : Int → Option ρ) : Option ρ := f (a, b, c, d) (Sum.elim (fun (a, b, c, d) => e a b c d) (fun x => g x))
def amv {ρ : Type} := btg (lp (bq5 (ρ := ρ)))
def aib {ρ : Type} := btg (bw2 (ρ := ρ))
theorem aqy {ρ : Type} : aib (ρ := ρ) = amv := congrArg btg bzv
def pz {ρ : Type} (a d b : List Int) (k : Int → Option ρ) : Option ρ := br ((↑a.length : Int) != 60) (k 10) (br (decide (4 ≤ (↑a.length : Int))) (iy (List.drop 0 (List.take (Int.toNat 4) a)) fun c => br (decide (c < 1)) (k 10) (br (decide (c > 8)) (k 10) (br (decide ((↑b.length : Int) < 4)) (k 1) (br (decide (4 ≤ (↑b.length : Int))) (iy (List.drop 0 (List.take (Int.toNat 4) b)) fun e => br (e != IntKind.u64.wrap (c - 1)) (k 1) (br (decide (4 ≤ (↑a.length : Int))) (br (decide ((↑a.length : Int) ≤ (↑a.length : Int))) (br (decide (4 ≤ (↑b.length : Int))) (br (decide ((↑b.length : Int) ≤ (↑b.length : Int))) (aib d c (List.drop 4 (List.take (↑a.length : Int).toNat a)) (List.drop 4 (List.take (↑b.length : Int).toNat b)) (fun g h i j => k 0) fun f => k f) none) none) none) none)) none)))) none)
def qw {ρ : Type} := shut (pz (ρ := ρ))
theorem ail {ρ : Type} (a : List Int) (b : List Int) (c : List Int) (k : Int → Option ρ) : qw a b c k = pz a b c k := by unfold qw; rw [bn]

def aij {ρ : Type} (k : Bool → Option ρ) : Option ρ := abq 2 [(2 : Int), (3 : Int)] [(1 : Int), (1 : Int)] (List.replicate 16 (0 : Int)) (List.replicate 32 (0 : Int)) (9 : Int) fun a b => abo 2 [(2 : Int), (3 : Int)] [(1 : Int), (1 : Int)] (List.replicate 16 (0 : Int)) (List.replicate 32 (0 : Int)) fun c => br (c == (32 : Int)) (br (b == (0 : Int)) (br ((↑a.length : Int) == (2 : Int)) (br (decide ((0 : Int) < (↑a.length : Int))) (br (a.getD 0 (0 : Int) == (1 : Int)) (br (decide ((1 : Int) < (↑a.length : Int))) (br (a.getD 1 (0 : Int) == (1 : Int)) (qw [] [] [] fun d => k (d == (10 : Int))) (k false)) none) (k false)) none) (k false)) (k false)) (k false)
def ql {ρ : Type} := shut (aij (ρ := ρ))
theorem aqb {ρ : Type}  (k : Bool → Option ρ) : ql  k = aij  k := by unfold ql; rw [bn]

abbrev bv4 (ρ : Type) := (List Int) → Int → Int → Option ρ
def aok {ρ : Type} (b : List Int) (c a : Int) (nx d : bv4 ρ) : Option ρ := br (decide (a < (↑b.length : Int))) (br (decide (0 ≤ a)) (br (decide (a < (↑b.length : Int))) (nx b (IntKind.u64.wrap (IntKind.u64.wrap (c * 256) + IntKind.u64.wrap (b.getD a.toNat 0))) (IntKind.i64.wrap (a + 1))) none) none) (d b c a)
abbrev bqg := (List Int) × Int × Int
abbrev bus := bqg
def bxh {ρ : Type} (f : bqg → Option ρ) : bv4 ρ := fun a b c => f (a, b, c)
def bpc {ρ : Type} : aeh bqg bus ρ := fun (a, b, c) next ex => aok a b c (bxh next) (bxh ex)
def buo {ρ : Type} := shut (lp (bpc (ρ := ρ)))
theorem bzt {ρ : Type} : buo (ρ := ρ) = lp bpc := bn _
def btd {ρ : Type} (f : aei bqg bus ρ) (a : List Int) (b c : Int) (d : bv4 ρ) : Option ρ := f (a, b, c) (fun (a, b, c) => d a b c)
def avc {ρ : Type} := btd (lp (bpc (ρ := ρ)))
def avs {ρ : Type} := btd (buo (ρ := ρ))
theorem axj {ρ : Type} : avs (ρ := ρ) = avc := congrArg btd bzt
def alc {ρ : Type} (a : List Int) (k : Int → Option ρ) : Option ρ := avs a 0 0 fun c b d => k b
def oh {ρ : Type} := shut (alc (ρ := ρ))
theorem avb {ρ : Type} (a : List Int) (k : Int → Option ρ) : oh a k = alc a k := by unfold oh; rw [bn]

def af5 {ρ : Type} (a : Int) (k : Int → Int → Int → Option ρ) : Option ρ := br (a == 1) (k 265 7 1) (br (a == 2) (k 133 6 2) (br (a == 4) (k 67 4 3) (br (a == 8) (k 34 0 4) (k 0 0 0))))
def ny {ρ : Type} := shut (af5 (ρ := ρ))
theorem aa4 {ρ : Type} (a : Int) (k : Int → Int → Int → Option ρ) : ny a k = af5 a k := by unfold ny; rw [bn]

def af4 {ρ : Type} (b : Int) (k : Int → Option ρ) : Option ρ := ny b fun a c d => br (a == 0) (k 0) (k (IntKind.i64.wrap (36 + IntKind.i64.wrap (32 * a))))
def qp {ρ : Type} := shut (af4 (ρ := ρ))
theorem al3 {ρ : Type} (a : Int) (k : Int → Option ρ) : qp a k = af4 a k := by unfold qp; rw [bn]

def ad2 {ρ : Type} (b a : Int) (nx d : Int → Int → Option ρ) (e : Int → Option ρ) : Option ρ := br (decide (a ≤ 8)) (ny a fun f g c => br (c == b) (br (c != 0) (e a) (nx b (IntKind.i64.wrap (a + 1)))) (nx b (IntKind.i64.wrap (a + 1)))) (d b a)
abbrev bwg := Int × Int
abbrev btt := (Int × Int) ⊕ (Int)
def bpb {ρ : Type} : aeh bwg btt ρ := fun (a, b) next ex => ad2 a b (fun a b => next (a, b)) (fun a b => ex (.inl (a, b))) (fun c => ex (.inr c))
def byg {ρ : Type} := shut (lp (bpb (ρ := ρ)))
theorem b0k {ρ : Type} : byg (ρ := ρ) = lp bpb := bn _
def bsx {ρ : Type} (f : aei bwg btt ρ) (a b : Int) (c : Int → Int → Option ρ) (d : Int → Option ρ) : Option ρ := f (a, b) (Sum.elim (fun (a, b) => c a b) (fun x => d x))
def aqa {ρ : Type} := bsx (lp (bpb (ρ := ρ)))
def aps {ρ : Type} := bsx (byg (ρ := ρ))
theorem asy {ρ : Type} : aps (ρ := ρ) = aqa := congrArg bsx b0k
def ah8 {ρ : Type} (a : Int) (k : Int → Option ρ) : Option ρ := aps a 1 (fun c d => k 0) fun b => k b
def ou {ρ : Type} := shut (ah8 (ρ := ρ))
theorem aqe {ρ : Type} (a : Int) (k : Int → Option ρ) : ou a k = ah8 a k := by unfold ou; rw [bn]

def agp {ρ : Type} (a : Int) (k : Int → Option ρ) : Option ρ := br (decide (a ≥ (1 : Int))) (br (decide (a ≤ (4 : Int))) (k (IntKind.u64.wrap ((3758096384 : Int) + IntKind.u64.wrap a))) (br (decide (a ≥ (5 : Int))) (br (decide (a ≤ (25 : Int))) (br (a.tmod (5 : Int) == (0 : Int)) (k (IntKind.u64.wrap (IntKind.i64.wrap ((4 : Int) + IntKind.i64.wrap (a.tdiv (5 : Int)))))) (k (0 : Int))) (k (0 : Int))) (k (0 : Int)))) (br (decide (a ≥ (5 : Int))) (br (decide (a ≤ (25 : Int))) (br (a.tmod (5 : Int) == (0 : Int)) (k (IntKind.u64.wrap (IntKind.i64.wrap ((4 : Int) + IntKind.i64.wrap (a.tdiv (5 : Int)))))) (k (0 : Int))) (k (0 : Int))) (k (0 : Int)))
def uo {ρ : Type} := shut (agp (ρ := ρ))
theorem al4 {ρ : Type} (a : Int) (k : Int → Option ρ) : uo a k = agp a k := by unfold uo; rw [bn]

def acv {ρ : Type} (b a : Int) (nx c : Int → Int → Option ρ) (d : Int → Option ρ) : Option ρ := br (decide (a ≤ 25)) (uo a fun e => br (e == b) (br (b != 0) (d a) (nx b (IntKind.i64.wrap (a + 1)))) (nx b (IntKind.i64.wrap (a + 1)))) (c b a)
abbrev buv := Int × Int
abbrev bvt := (Int × Int) ⊕ (Int)
def bp1 {ρ : Type} : aeh buv bvt ρ := fun (a, b) next ex => acv a b (fun a b => next (a, b)) (fun a b => ex (.inl (a, b))) (fun c => ex (.inr c))
def bwh {ρ : Type} := shut (lp (bp1 (ρ := ρ)))
theorem b0g {ρ : Type} : bwh (ρ := ρ) = lp bp1 := bn _
def bsp {ρ : Type} (f : aei buv bvt ρ) (a b : Int) (c : Int → Int → Option ρ) (d : Int → Option ρ) : Option ρ := f (a, b) (Sum.elim (fun (a, b) => c a b) (fun x => d x))
def amw {ρ : Type} := bsp (lp (bp1 (ρ := ρ)))
def an7 {ρ : Type} := bsp (bwh (ρ := ρ))
theorem aqu {ρ : Type} : an7 (ρ := ρ) = amw := congrArg bsp b0g
def agu {ρ : Type} (a : Int) (k : Int → Option ρ) : Option ρ := an7 a 1 (fun c d => k 0) fun b => k b
def ku {ρ : Type} := shut (agu (ρ := ρ))
theorem am0 {ρ : Type} (a : Int) (k : Int → Option ρ) : ku a k = agu a k := by unfold ku; rw [bn]

def ak9 {ρ : Type} (a : List Int) (k : (List Int) → Int → Int → (List Int) → Int → Option ρ) : Option ρ := br (decide ((↑a.length : Int) < 8)) (k [] 0 0 [] 1) (br (decide (8 ≤ (↑a.length : Int))) (oh (List.drop 4 (List.take (Int.toNat 8) a)) fun e => ou e fun d => br (d == 0) (k [] 0 0 [] 9) (qp d fun b => br (decide ((↑a.length : Int) < IntKind.i64.wrap (IntKind.i64.wrap (4 + b) + 4))) (k [] 0 0 [] 1) (br (decide (0 ≤ IntKind.i64.wrap (4 + b))) (br (decide (IntKind.i64.wrap (4 + b) ≤ IntKind.i64.wrap (IntKind.i64.wrap (4 + b) + 4))) (br (decide (IntKind.i64.wrap (IntKind.i64.wrap (4 + b) + 4) ≤ (↑a.length : Int))) (oh (List.drop (IntKind.i64.wrap (4 + b)).toNat (List.take (IntKind.i64.wrap (IntKind.i64.wrap (4 + b) + 4)).toNat a)) fun f => ku f fun c => br (c == 0) (k [] 0 0 [] 9) (br (decide ((↑a.length : Int) < IntKind.i64.wrap (IntKind.i64.wrap (IntKind.i64.wrap (4 + b) + 4) + IntKind.i64.wrap (32 * c)))) (k [] 0 0 [] 1) (br (decide (0 ≤ IntKind.i64.wrap (IntKind.i64.wrap (IntKind.i64.wrap (4 + b) + 4) + IntKind.i64.wrap (32 * c)))) (br (decide (IntKind.i64.wrap (IntKind.i64.wrap (IntKind.i64.wrap (4 + b) + 4) + IntKind.i64.wrap (32 * c)) ≤ (↑a.length : Int))) (br (decide (0 ≤ IntKind.i64.wrap (IntKind.i64.wrap (IntKind.i64.wrap (4 + b) + 4) + IntKind.i64.wrap (32 * c)))) (br (decide (IntKind.i64.wrap (IntKind.i64.wrap (IntKind.i64.wrap (4 + b) + 4) + IntKind.i64.wrap (32 * c)) ≤ (↑a.length : Int))) (br (decide ((↑a.length : Int) ≤ (↑a.length : Int))) (k (List.drop 0 (List.take (IntKind.i64.wrap (IntKind.i64.wrap (IntKind.i64.wrap (4 + b) + 4) + IntKind.i64.wrap (32 * c))).toNat a)) c d (List.drop (IntKind.i64.wrap (IntKind.i64.wrap (IntKind.i64.wrap (4 + b) + 4) + IntKind.i64.wrap (32 * c))).toNat (List.take (↑a.length : Int).toNat a)) 0) none) none) none) none) none))) none) none) none))) none)
def zm {ρ : Type} := shut (ak9 (ρ := ρ))
theorem avq {ρ : Type} (a : List Int) (k : (List Int) → Int → Int → (List Int) → Int → Option ρ) : zm a k = ak9 a k := by unfold zm; rw [bn]

abbrev bvp (ρ : Type) := (List Int) → (List Int) → Int → Option ρ
def ak6 {ρ : Type} (b c : List Int) (a : Int) (nx d : bvp ρ) (e : Bool → Option ρ) : Option ρ := br (decide (a < (↑b.length : Int))) (br (decide (0 ≤ a)) (br (decide (a < (↑b.length : Int))) (br (decide (0 ≤ a)) (br (decide (a < (↑c.length : Int))) (br (b.getD a.toNat 0 != c.getD a.toNat 0) (e false) (nx b c (IntKind.i64.wrap (a + 1)))) none) none) none) none) (d b c a)
abbrev bsv := (List Int) × (List Int) × Int
abbrev bul := ((List Int) × (List Int) × Int) ⊕ (Bool)
def bzi {ρ : Type} (f : bsv → Option ρ) : bvp ρ := fun a b c => f (a, b, c)
def bp7 {ρ : Type} : aeh bsv bul ρ := fun (a, b, c) next ex => ak6 a b c (bzi next) (fun a b c => ex (.inl (a, b, c))) (fun d => ex (.inr d))
def bwi {ρ : Type} := shut (lp (bp7 (ρ := ρ)))
theorem bz5 {ρ : Type} : bwi (ρ := ρ) = lp bp7 := bn _
def bs1 {ρ : Type} (f : aei bsv bul ρ) (a b : List Int) (c : Int) (d : bvp ρ) (e : Bool → Option ρ) : Option ρ := f (a, b, c) (Sum.elim (fun (a, b, c) => d a b c) (fun x => e x))
def atj {ρ : Type} := bs1 (lp (bp7 (ρ := ρ)))
def auc {ρ : Type} := bs1 (bwi (ρ := ρ))
theorem auj {ρ : Type} : auc (ρ := ρ) = atj := congrArg bs1 bz5
def ajz {ρ : Type} (a b : List Int) (k : Bool → Option ρ) : Option ρ := br ((↑a.length : Int) != (↑b.length : Int)) (k false) (auc a b 0 (fun d e f => k true) fun c => k c)
def yw {ρ : Type} := shut (ajz (ρ := ρ))
theorem at6 {ρ : Type} (a : List Int) (b : List Int) (k : Bool → Option ρ) : yw a b k = ajz a b k := by unfold yw; rw [bn]

abbrev bvo (ρ : Type) := Int → Int → (List Int) → Option ρ
def atw {ρ : Type} (b a : Int) (c : List Int) (nx d : bvo ρ) : Option ρ := br (decide (a ≥ 0)) (br (decide (0 ≤ a)) (br (decide (a < (↑c.length : Int))) (nx (b.fdiv (2 ^ 8)) (IntKind.i64.wrap (a - 1)) (c.set a.toNat (IntKind.u8.wrap (bits BinOp.and IntKind.u64 b 255)))) none) none) (d b a c)
abbrev bpr := Int × Int × (List Int)
abbrev byf := bpr
def bt1 {ρ : Type} (f : bpr → Option ρ) : bvo ρ := fun a b c => f (a, b, c)
def bqj {ρ : Type} : aeh bpr byf ρ := fun (a, b, c) next ex => atw a b c (bt1 next) (bt1 ex)
def bvm {ρ : Type} := shut (lp (bqj (ρ := ρ)))
theorem bzg {ρ : Type} : bvm (ρ := ρ) = lp bqj := bn _
def bs3 {ρ : Type} (f : aei bpr byf ρ) (a b : Int) (c : List Int) (d : bvo ρ) : Option ρ := f (a, b, c) (fun (a, b, c) => d a b c)
def ay9 {ρ : Type} := bs3 (lp (bqj (ρ := ρ)))
def ba3 {ρ : Type} := bs3 (bvm (ρ := ρ))
theorem az3 {ρ : Type} : ba3 (ρ := ρ) = ay9 := congrArg bs3 bzg
def apq {ρ : Type} (b a : Int) (k : (List Int) → Option ρ) : Option ρ := br (decide (a < 0)) (k []) (br (decide (a > 65536)) (k []) (br (decide (0 ≤ a)) (br (decide (a ≤ a)) (br (decide (a * (↑1 : Int) ≤ (↑140737488355328 : Int))) (ba3 b (IntKind.i64.wrap (a - 1)) (List.replicate a.toNat (0 : Int)) fun d e c => k c) none) none) none))
def j5 {ρ : Type} := shut (apq (ρ := ρ))
theorem azk {ρ : Type} (a : Int) (b : Int) (k : (List Int) → Option ρ) : j5 a b k = apq a b k := by unfold j5; rw [bn]

def ajv {ρ : Type} (a b : Int) (k : (List Int) → Option ρ) : Option ρ := ny b fun g h e => uo a fun f => j5 f 4 fun c => j5 e 4 fun d => br (decide ((c.length + d.length) * 1 ≤ 140737488355328)) (k (c ++ d)) none
def ae5 {ρ : Type} := shut (ajv (ρ := ρ))
theorem ar3 {ρ : Type} (a : Int) (b : Int) (k : (List Int) → Option ρ) : ae5 a b k = ajv a b k := by unfold ae5; rw [bn]

def ap3 {ρ : Type} (c : List Int) (a b : Int) (k : Bool → Option ρ) : Option ρ := br (decide (a ≥ 1)) (br (decide (a ≤ 24)) (br (decide (b ≥ 0)) (br (decide (a = 0)) none (k (decide (b ≤ IntKind.i64.wrap ((IntKind.i64.wrap ((↑c.length : Int) * 8)).tdiv a))))) (k false)) (k false)) (k false)
def aci {ρ : Type} := shut (ap3 (ρ := ρ))
theorem att {ρ : Type} (a : List Int) (b : Int) (c : Int) (k : Bool → Option ρ) : aci a b c k = ap3 a b c k := by unfold aci; rw [bn]

abbrev byu (ρ : Type) := (List Int) → Int → Int → Int → Int → Int → (List Int) → Option ρ
def ahu {ρ : Type} (d : List Int) (b e c f a : Int) (g : List Int) (nx h : byu ρ) : Option ρ := br (decide (a < b)) (br (decide (0 ≤ IntKind.i64.wrap ((IntKind.i64.wrap (IntKind.i64.wrap (c * b) + a)).tdiv 8))) (br (decide (IntKind.i64.wrap ((IntKind.i64.wrap (IntKind.i64.wrap (c * b) + a)).tdiv 8) < (↑d.length : Int))) (br (decide (IntKind.i64.wrap (7 - (IntKind.i64.wrap (IntKind.i64.wrap (c * b) + a)).tmod 8) < 0)) none (nx d b e c (IntKind.u32.wrap (IntKind.u32.wrap (f * 2) + IntKind.u32.wrap (bits BinOp.and IntKind.u8 ((d.getD (IntKind.i64.wrap ((IntKind.i64.wrap (IntKind.i64.wrap (c * b) + a)).tdiv 8)).toNat 0).fdiv (2 ^ min (IntKind.i64.wrap (7 - (IntKind.i64.wrap (IntKind.i64.wrap (c * b) + a)).tmod 8)).toNat 8)) 1))) (IntKind.i64.wrap (a + 1)) g)) none) none) (h d b e c f a g)
abbrev bp8 := (List Int) × Int × Int × Int × Int × Int × (List Int)
abbrev bxv := bp8
def buk {ρ : Type} (f : bp8 → Option ρ) : byu ρ := fun b c d e g a h => f (b, c, d, e, g, a, h)
def bru {ρ : Type} : aeh bp8 bxv ρ := fun (b, c, d, e, f, a, g) next ex => ahu b c d e f a g (buk next) (buk ex)
def byd {ρ : Type} := shut (lp (bru (ρ := ρ)))
theorem bz2 {ρ : Type} : byd (ρ := ρ) = lp bru := bn _
def bsf {ρ : Type} (f : aei bp8 bxv ρ) (b : List Int) (c d e g a : Int) (h : List Int) (i : byu ρ) : Option ρ := f (b, c, d, e, g, a, h) (fun (b, c, d, e, g, a, h) => i b c d e g a h)
def amd {ρ : Type} := bsf (lp (bru (ρ := ρ)))
def an5 {ρ : Type} := bsf (byd (ρ := ρ))
theorem aqp {ρ : Type} : an5 (ρ := ρ) = amd := congrArg bsf bz2
abbrev byt (ρ : Type) := (List Int) → Int → Int → Int → (List Int) → Option ρ
def aif {ρ : Type} (c : List Int) (d a b : Int) (e : List Int) (nx g : byt ρ) : Option ρ := br (decide (b < a)) (an5 c d a b 0 0 e fun h i j k l m f => br (decide ((f.length + 1) * 4 ≤ 140737488355328)) (nx h i j (IntKind.i64.wrap (k + 1)) (f ++ [l])) none) (g c d a b e)
abbrev bq6 := (List Int) × Int × Int × Int × (List Int)
abbrev bwn := bq6
def btu {ρ : Type} (f : bq6 → Option ρ) : byt ρ := fun a b c d e => f (a, b, c, d, e)
def brc {ρ : Type} : aeh bq6 bwn ρ := fun (a, b, c, d, e) next ex => aif a b c d e (btu next) (btu ex)
def byr {ρ : Type} := shut (lp (brc (ρ := ρ)))
theorem bz6 {ρ : Type} : byr (ρ := ρ) = lp brc := bn _
def bsn {ρ : Type} (f : aei bq6 bwn ρ) (a : List Int) (b c d : Int) (e : List Int) (g : byt ρ) : Option ρ := f (a, b, c, d, e) (fun (a, b, c, d, e) => g a b c d e)
def am5 {ρ : Type} := bsn (lp (brc (ρ := ρ)))
def ame {ρ : Type} := bsn (byr (ρ := ρ))
theorem aqx {ρ : Type} : ame (ρ := ρ) = am5 := congrArg bsn bz6
def ag2 {ρ : Type} (a : List Int) (b c : Int) (k : (List Int) → Option ρ) : Option ρ := aci a b c fun d => br (!d) (k []) (ame a b c 0 [] fun f g h i e => k e)
def vv {ρ : Type} := shut (ag2 (ρ := ρ))
theorem am7 {ρ : Type} (a : List Int) (b : Int) (c : Int) (k : (List Int) → Option ρ) : vv a b c k = ag2 a b c k := by unfold vv; rw [bn]

abbrev bx4 (ρ : Type) := (List (List Int)) → Int → (List Int) → Option ρ
def ak7 {ρ : Type} (b : List (List Int)) (a : Int) (c : List Int) (nx d : bx4 ρ) : Option ρ := br (decide (a < (↑b.length : Int))) (br (decide (0 ≤ a)) (br (decide (a < (↑b.length : Int))) (br (decide ((c.length + (b.getD a.toNat []).length) * 1 ≤ 140737488355328)) (nx b (IntKind.i64.wrap (a + 1)) (c ++ b.getD a.toNat [])) none) none) none) (d b a c)
abbrev bqo := (List (List Int)) × Int × (List Int)
abbrev bv6 := bqo
def bxs {ρ : Type} (f : bqo → Option ρ) : bx4 ρ := fun a b c => f (a, b, c)
def br4 {ρ : Type} : aeh bqo bv6 ρ := fun (a, b, c) next ex => ak7 a b c (bxs next) (bxs ex)
def bux {ρ : Type} := shut (lp (br4 (ρ := ρ)))
theorem b0b {ρ : Type} : bux (ρ := ρ) = lp br4 := bn _
def btq {ρ : Type} (f : aei bqo bv6 ρ) (a : List (List Int)) (b : Int) (c : List Int) (d : bx4 ρ) : Option ρ := f (a, b, c) (fun (a, b, c) => d a b c)
def ato {ρ : Type} := btq (lp (br4 (ρ := ρ)))
def aua {ρ : Type} := btq (bux (ρ := ρ))
theorem aui {ρ : Type} : aua (ρ := ρ) = ato := congrArg btq b0b
def ajy {ρ : Type} (a : List (List Int)) (k : (List Int) → Option ρ) : Option ρ := aua a 0 [] fun c d b => k b
def qg {ρ : Type} := shut (ajy (ρ := ρ))
theorem ark {ρ : Type} (a : List (List Int)) (k : (List Int) → Option ρ) : qg a k = ajy a k := by unfold qg; rw [bn]

abbrev bwm (ρ : Type) := Int → (List Int) → Int → Int → Int → Int → (List Int) → Option ρ
def ah7 {ρ : Type} (c : Int) (e : List Int) (f g d a : Int) (b : List Int) (nx h : bwm ρ) : Option ρ := br (decide (a < (↑b.length : Int))) (br (decide (c < 0)) none (br (decide (0 ≤ a)) (br (decide (a < (↑b.length : Int))) (nx c e f g (IntKind.u64.wrap (IntKind.u64.wrap (d + IntKind.u64.wrap (IntKind.u64.wrap (1 * 2 ^ min c.toNat 64) - 1)) - IntKind.u64.wrap (b.getD a.toNat 0))) (IntKind.i64.wrap (a + 1)) b) none) none)) (h c e f g d a b)
abbrev bq0 := Int × (List Int) × Int × Int × Int × Int × (List Int)
abbrev bx6 := bq0
def byb {ρ : Type} (f : bq0 → Option ρ) : bwm ρ := fun c d e g a b h => f (c, d, e, g, a, b, h)
def bpt {ρ : Type} : aeh bq0 bx6 ρ := fun (c, d, e, f, a, b, g) next ex => ah7 c d e f a b g (byb next) (byb ex)
def btz {ρ : Type} := shut (lp (bpt (ρ := ρ)))
theorem by7 {ρ : Type} : btz (ρ := ρ) = lp bpt := bn _
def bs4 {ρ : Type} (f : aei bq0 bx6 ρ) (c : Int) (d : List Int) (e g a b : Int) (h : List Int) (i : bwm ρ) : Option ρ := f (c, d, e, g, a, b, h) (fun (c, d, e, g, a, b, h) => i c d e g a b h)
def am6 {ρ : Type} := bs4 (lp (bpt (ρ := ρ)))
def ana {ρ : Type} := bs4 (btz (ρ := ρ))
theorem aq3 {ρ : Type} : ana (ρ := ρ) = am6 := congrArg bs4 by7
def agt {ρ : Type} (a : Int) (b : List Int) (k : (List Int) → Int → Option ρ) : Option ρ := ny a fun c h p => br (c == 0) (k [] 9) (br ((↑b.length : Int) != 32) (k [] 14) (br (decide (a = 0)) none (vv b a (IntKind.i64.wrap (Int.tdiv 256 a)) fun i => ana a b c h 0 0 i fun j l m d n q o => br (decide (d < 0)) none (j5 (IntKind.u64.wrap (n * 2 ^ min d.toNat 64)) 2 fun e => qg [l, e] fun f => vv f j m fun g => k g 0))))
def abk {ρ : Type} := shut (agt (ρ := ρ))
theorem ant {ρ : Type} (a : Int) (b : List Int) (k : (List Int) → Int → Option ρ) : abk a b k = agt a b k := by unfold abk; rw [bn]

def alq {ρ : Type} (a : Int) (k : Int → (List Int) → (List Int) → Int → Int → Option ρ) : Option ρ := br (a == 1) (k a [1779033703, 3144134277, 1013904242, 2773480762, 1359893119, 2600822924, 528734635, 1541459225] [] 0 0) (br (a == 2) (k a [14680500436340154072, 7105036623409894663, 10473403895298186519, 1526699215303891257, 7436329637833083697, 10282925794625328401, 15784041429090275239, 5167115440072839076] [] 0 0) (br (a == 3) (k a [7640891576956012808, 13503953896175478587, 4354685564936845355, 11912009170470909681, 5840696475078001361, 11170449401992604703, 2270897969802886507, 6620516959819538809] [] 0 0) (k 0 [0, 0, 0, 0, 0, 0, 0, 0] [] 0 9)))
def afv {ρ : Type} := shut (alq (ρ := ρ))
theorem awf {ρ : Type} (a : Int) (k : Int → (List Int) → (List Int) → Int → Int → Option ρ) : afv a k = alq a k := by unfold afv; rw [bn]

def aic {ρ : Type} (a : Int) (k : Int → Option ρ) : Option ρ := br (a == 1) (k 64) (k 128)
def wo {ρ : Type} := shut (aic (ρ := ρ))
theorem ap7 {ρ : Type} (a : Int) (k : Int → Option ρ) : wo a k = aic a k := by unfold wo; rw [bn]

def aip {ρ : Type} (k : (List Int) → Option ρ) : Option ρ := k [1116352408, 1899447441, 3049323471, 3921009573, 961987163, 1508970993, 2453635748, 2870763221, 3624381080, 310598401, 607225278, 1426881987, 1925078388, 2162078206, 2614888103, 3248222580, 3835390401, 4022224774, 264347078, 604807628, 770255983, 1249150122, 1555081692, 1996064986, 2554220882, 2821834349, 2952996808, 3210313671, 3336571891, 3584528711, 113926993, 338241895, 666307205, 773529912, 1294757372, 1396182291, 1695183700, 1986661051, 2177026350, 2456956037, 2730485921, 2820302411, 3259730800, 3345764771, 3516065817, 3600352804, 4094571909, 275423344, 430227734, 506948616, 659060556, 883997877, 958139571, 1322822218, 1537002063, 1747873779, 1955562222, 2024104815, 2227730452, 2361852424, 2428436474, 2756734187, 3204031479, 3329325298]
def u7 {ρ : Type} := shut (aip (ρ := ρ))
theorem afx {ρ : Type}  (k : (List Int) → Option ρ) : u7  k = aip  k := by unfold u7; rw [bn]

def ais {ρ : Type} (k : (List Int) → Option ρ) : Option ρ := k [4794697086780616226, 8158064640168781261, 13096744586834688815, 16840607885511220156, 4131703408338449720, 6480981068601479193, 10538285296894168987, 12329834152419229976, 15566598209576043074, 1334009975649890238, 2608012711638119052, 6128411473006802146, 8268148722764581231, 9286055187155687089, 11230858885718282805, 13951009754708518548, 16472876342353939154, 17275323862435702243, 1135362057144423861, 2597628984639134821, 3308224258029322869, 5365058923640841347, 6679025012923562964, 8573033837759648693, 10970295158949994411, 12119686244451234320, 12683024718118986047, 13788192230050041572, 14330467153632333762, 15395433587784984357, 489312712824947311, 1452737877330783856, 2861767655752347644, 3322285676063803686, 5560940570517711597, 5996557281743188959, 7280758554555802590, 8532644243296465576, 9350256976987008742, 10552545826968843579, 11727347734174303076, 12113106623233404929, 14000437183269869457, 14369950271660146224, 15101387698204529176, 15463397548674623760, 17586052441742319658, 1182934255886127544, 1847814050463011016, 2177327727835720531, 2830643537854262169, 3796741975233480872, 4115178125766777443, 5681478168544905931, 6601373596472566643, 7507060721942968483, 8399075790359081724, 8693463985226723168, 9568029438360202098, 10144078919501101548, 10430055236837252648, 11840083180663258601, 13761210420658862357, 14299343276471374635, 14566680578165727644, 15097957966210449927, 16922976911328602910, 17689382322260857208, 500013540394364858, 748580250866718886, 1242879168328830382, 1977374033974150939, 2944078676154940804, 3659926193048069267, 4368137639120453308, 4836135668995329356, 5532061633213252278, 6448918945643986474, 6902733635092675308, 7801388544844847127]
def vg {ρ : Type} := shut (ais (ρ := ρ))
theorem afp {ρ : Type}  (k : (List Int) → Option ρ) : vg  k = ais  k := by unfold vg; rw [bn]

def acz {ρ : Type} (b a : Int) (c : Bool) (k : Int → Option ρ) : Option ρ := br c (br (decide (a < 0)) none (br (decide (IntKind.i64.wrap (64 - a) < 0)) none (k (bits BinOp.or IntKind.u64 (b.fdiv (2 ^ min a.toNat 64)) (IntKind.u64.wrap (b * 2 ^ min (IntKind.i64.wrap (64 - a)).toNat 64)))))) (br (decide (a < 0)) none (br (decide (IntKind.i64.wrap (32 - a) < 0)) none (k (bits BinOp.or IntKind.u64 (b.fdiv (2 ^ min a.toNat 64)) (bits BinOp.and IntKind.u64 (IntKind.u64.wrap (b * 2 ^ min (IntKind.i64.wrap (32 - a)).toNat 64)) 4294967295)))))
def wm {ρ : Type} := shut (acz (ρ := ρ))
theorem agm {ρ : Type} (a : Int) (b : Int) (c : Bool) (k : Int → Option ρ) : wm a b c k = acz a b c k := by unfold wm; rw [bn]

def aaz {ρ : Type} (a d e c : Int) (f b : Bool) (k : Int → Option ρ) : Option ρ := br (decide (c < 0)) none (br (!f) (wm a c b fun g => wm a d b fun h => wm a e b fun i => k (bits BinOp.xor IntKind.u64 (bits BinOp.xor IntKind.u64 h i) g)) (wm a d b fun j => wm a e b fun l => k (bits BinOp.xor IntKind.u64 (bits BinOp.xor IntKind.u64 j l) (a.fdiv (2 ^ min c.toNat 64)))))
def w9 {ρ : Type} := shut (aaz (ρ := ρ))
theorem adi {ρ : Type} (a : Int) (b : Int) (c : Int) (d : Int) (e : Bool) (f : Bool) (k : Int → Option ρ) : w9 a b c d e f k = aaz a b c d e f k := by unfold w9; rw [bn]

abbrev bxm (ρ : Type) := (List Int) → Bool → Int → Int → Int → Int → (List Int) → Option ρ
def ad1 {ρ : Type} (d : List Int) (f : Bool) (g e c a : Int) (b : List Int) (nx h : bxm ρ) : Option ρ := br (decide (a < g)) (br (decide (a < 16)) (br (decide (0 ≤ IntKind.i64.wrap (a * c))) (br (decide (IntKind.i64.wrap (a * c) ≤ IntKind.i64.wrap (IntKind.i64.wrap (a * c) + c))) (br (decide (IntKind.i64.wrap (IntKind.i64.wrap (a * c) + c) ≤ (↑d.length : Int))) (oh (List.drop (IntKind.i64.wrap (a * c)).toNat (List.take (IntKind.i64.wrap (IntKind.i64.wrap (a * c) + c)).toNat d)) fun i => br (decide ((b.length + 1) * 8 ≤ 140737488355328)) (nx d f g e c (IntKind.i64.wrap (a + 1)) (b ++ [i])) none) none) none) none) (br (decide (0 ≤ IntKind.i64.wrap (a - 15))) (br (decide (IntKind.i64.wrap (a - 15) < (↑b.length : Int))) (w9 (b.getD (IntKind.i64.wrap (a - 15)).toNat 0) 7 18 3 true false fun j => br (decide (0 ≤ IntKind.i64.wrap (a - 2))) (br (decide (IntKind.i64.wrap (a - 2) < (↑b.length : Int))) (w9 (b.getD (IntKind.i64.wrap (a - 2)).toNat 0) 17 19 10 true false fun k => br f (br (decide (0 ≤ IntKind.i64.wrap (a - 15))) (br (decide (IntKind.i64.wrap (a - 15) < (↑b.length : Int))) (w9 (b.getD (IntKind.i64.wrap (a - 15)).toNat 0) 1 8 7 true true fun l => br (decide (0 ≤ IntKind.i64.wrap (a - 2))) (br (decide (IntKind.i64.wrap (a - 2) < (↑b.length : Int))) (w9 (b.getD (IntKind.i64.wrap (a - 2)).toNat 0) 19 61 6 true true fun m => br (decide (0 ≤ IntKind.i64.wrap (a - 7))) (br (decide (IntKind.i64.wrap (a - 7) < (↑b.length : Int))) (br (decide (0 ≤ IntKind.i64.wrap (a - 16))) (br (decide (IntKind.i64.wrap (a - 16) < (↑b.length : Int))) (br (decide ((b.length + 1) * 8 ≤ 140737488355328)) (nx d f g e c (IntKind.i64.wrap (a + 1)) (b ++ [bits BinOp.and IntKind.u64 (IntKind.u64.wrap (IntKind.u64.wrap (IntKind.u64.wrap (m + b.getD (IntKind.i64.wrap (a - 7)).toNat 0) + l) + b.getD (IntKind.i64.wrap (a - 16)).toNat 0)) e])) none) none) none) none) none) none) none) none) none) (br (decide (0 ≤ IntKind.i64.wrap (a - 7))) (br (decide (IntKind.i64.wrap (a - 7) < (↑b.length : Int))) (br (decide (0 ≤ IntKind.i64.wrap (a - 16))) (br (decide (IntKind.i64.wrap (a - 16) < (↑b.length : Int))) (br (decide ((b.length + 1) * 8 ≤ 140737488355328)) (nx d f g e c (IntKind.i64.wrap (a + 1)) (b ++ [bits BinOp.and IntKind.u64 (IntKind.u64.wrap (IntKind.u64.wrap (IntKind.u64.wrap (k + b.getD (IntKind.i64.wrap (a - 7)).toNat 0) + j) + b.getD (IntKind.i64.wrap (a - 16)).toNat 0)) e])) none) none) none) none) none)) none) none) none) none)) (h d f g e c a b)
abbrev bqc := (List Int) × Bool × Int × Int × Int × Int × (List Int)
abbrev bww := bqc
def bsy {ρ : Type} (f : bqc → Option ρ) : bxm ρ := fun b c d e g a h => f (b, c, d, e, g, a, h)
def bov {ρ : Type} : aeh bqc bww ρ := fun (b, c, d, e, f, a, g) next ex => ad1 b c d e f a g (bsy next) (bsy ex)
def bu2 {ρ : Type} := shut (lp (bov (ρ := ρ)))
theorem bz3 {ρ : Type} : bu2 (ρ := ρ) = lp bov := bn _
def bo3 {ρ : Type} (f : aei bqc bww ρ) (b : List Int) (c : Bool) (d e g a : Int) (h : List Int) (i : bxm ρ) : Option ρ := f (b, c, d, e, g, a, h) (fun (b, c, d, e, g, a, h) => i b c d e g a h)
def ai9 {ρ : Type} := bo3 (lp (bov (ρ := ρ)))
def ajl {ρ : Type} := bo3 (bu2 (ρ := ρ))
theorem ajb {ρ : Type} : ajl (ρ := ρ) = ai9 := congrArg bo3 bz3
def ae2 {ρ : Type} (b : List Int) (a : Bool) (c d : Int) (k : (List Int) → Option ρ) : Option ρ := br a (ajl b a c d 8 0 [] fun j l m n o p f => k f) (ajl b a c d 4 0 [] fun q r s g h i e => k e)
def aa9 {ρ : Type} := shut (ae2 (ρ := ρ))
theorem ai2 {ρ : Type} (a : List Int) (b : Bool) (c : Int) (d : Int) (k : (List Int) → Option ρ) : aa9 a b c d k = ae2 a b c d k := by unfold aa9; rw [bn]

abbrev bxq (ρ : Type) := Bool → Int → Int → Int → (List Int) → (List Int) → (List Int) → (List Int) → (List Int) → (List Int) → Option ρ
def ac2 {ρ : Type} (i : Bool) (j c b : Int) (g h d e f a : List Int) (nx m : bxq ρ) : Option ρ := br (decide (b < j)) (w9 (a.getD 0 0) 2 13 22 false false fun n => w9 (a.getD 4 0) 6 11 25 false false fun k => br i (w9 (a.getD 0 0) 28 34 39 false true fun o => w9 (a.getD 4 0) 14 18 41 false true fun l => br (decide (0 ≤ b)) (br (decide (b < (↑80 : Int))) (br (decide (0 ≤ b)) (br (decide (b < (↑f.length : Int))) (nx i j c (IntKind.i64.wrap (b + 1)) g h d e f [bits BinOp.and IntKind.u64 (IntKind.u64.wrap (IntKind.u64.wrap (IntKind.u64.wrap (IntKind.u64.wrap (IntKind.u64.wrap (a.getD 7 0 + l) + bits BinOp.xor IntKind.u64 (bits BinOp.and IntKind.u64 (a.getD 4 0) (a.getD 5 0)) (bits BinOp.and IntKind.u64 (bits BinOp.xor IntKind.u64 c (a.getD 4 0)) (a.getD 6 0))) + e.getD b.toNat 0) + f.getD b.toNat 0) + IntKind.u64.wrap (o + bits BinOp.xor IntKind.u64 (bits BinOp.xor IntKind.u64 (bits BinOp.and IntKind.u64 (a.getD 0 0) (a.getD 1 0)) (bits BinOp.and IntKind.u64 (a.getD 0 0) (a.getD 2 0))) (bits BinOp.and IntKind.u64 (a.getD 1 0) (a.getD 2 0))))) c, a.getD 0 0, a.getD 1 0, a.getD 2 0, bits BinOp.and IntKind.u64 (IntKind.u64.wrap (a.getD 3 0 + IntKind.u64.wrap (IntKind.u64.wrap (IntKind.u64.wrap (IntKind.u64.wrap (a.getD 7 0 + l) + bits BinOp.xor IntKind.u64 (bits BinOp.and IntKind.u64 (a.getD 4 0) (a.getD 5 0)) (bits BinOp.and IntKind.u64 (bits BinOp.xor IntKind.u64 c (a.getD 4 0)) (a.getD 6 0))) + e.getD b.toNat 0) + f.getD b.toNat 0))) c, a.getD 4 0, a.getD 5 0, a.getD 6 0]) none) none) none) none) (br (decide (0 ≤ b)) (br (decide (b < (↑64 : Int))) (br (decide (0 ≤ b)) (br (decide (b < (↑f.length : Int))) (nx i j c (IntKind.i64.wrap (b + 1)) g h d e f [bits BinOp.and IntKind.u64 (IntKind.u64.wrap (IntKind.u64.wrap (IntKind.u64.wrap (IntKind.u64.wrap (IntKind.u64.wrap (a.getD 7 0 + k) + bits BinOp.xor IntKind.u64 (bits BinOp.and IntKind.u64 (a.getD 4 0) (a.getD 5 0)) (bits BinOp.and IntKind.u64 (bits BinOp.xor IntKind.u64 c (a.getD 4 0)) (a.getD 6 0))) + d.getD b.toNat 0) + f.getD b.toNat 0) + IntKind.u64.wrap (n + bits BinOp.xor IntKind.u64 (bits BinOp.xor IntKind.u64 (bits BinOp.and IntKind.u64 (a.getD 0 0) (a.getD 1 0)) (bits BinOp.and IntKind.u64 (a.getD 0 0) (a.getD 2 0))) (bits BinOp.and IntKind.u64 (a.getD 1 0) (a.getD 2 0))))) c, a.getD 0 0, a.getD 1 0, a.getD 2 0, bits BinOp.and IntKind.u64 (IntKind.u64.wrap (a.getD 3 0 + IntKind.u64.wrap (IntKind.u64.wrap (IntKind.u64.wrap (IntKind.u64.wrap (a.getD 7 0 + k) + bits BinOp.xor IntKind.u64 (bits BinOp.and IntKind.u64 (a.getD 4 0) (a.getD 5 0)) (bits BinOp.and IntKind.u64 (bits BinOp.xor IntKind.u64 c (a.getD 4 0)) (a.getD 6 0))) + d.getD b.toNat 0) + f.getD b.toNat 0))) c, a.getD 4 0, a.getD 5 0, a.getD 6 0]) none) none) none) none)) (m i j c b g h d e f a)
abbrev bo5 := Bool × Int × Int × Int × (List Int) × (List Int) × (List Int) × (List Int) × (List Int) × (List Int)
abbrev bvs := bo5
def btb {ρ : Type} (f : bo5 → Option ρ) : bxq ρ := fun h i j g a b c d k e => f (h, i, j, g, a, b, c, d, k, e)
def bos {ρ : Type} : aeh bo5 bvs ρ := fun (g, h, i, f, a, b, c, d, j, e) next ex => ac2 g h i f a b c d j e (btb next) (btb ex)
def bw6 {ρ : Type} := shut (lp (bos (ρ := ρ)))
theorem bzk {ρ : Type} : bw6 (ρ := ρ) = lp bos := bn _
def brz {ρ : Type} (f : aei bo5 bvs ρ) (h : Bool) (i j g : Int) (a b c d k e : List Int) (l : bxq ρ) : Option ρ := f (h, i, j, g, a, b, c, d, k, e) (fun (h, i, j, g, a, b, c, d, k, e) => l h i j g a b c d k e)
def aii {ρ : Type} := brz (lp (bos (ρ := ρ)))
def acw {ρ : Type} := brz (bw6 (ρ := ρ))
theorem aiw {ρ : Type} : acw (ρ := ρ) = aii := congrArg brz bzk
abbrev bxa (ρ : Type) := Int → Int → (List Int) → (List Int) → (List Int) → Option ρ
def acs {ρ : Type} (e a : Int) (b d c : List Int) (nx f : bxa ρ) : Option ρ := br (decide (a < 8)) (br (decide (0 ≤ a)) (br (decide (a < (↑8 : Int))) (br (decide (0 ≤ a)) (br (decide (a < (↑8 : Int))) (br (decide (0 ≤ a)) (br (decide (a < (↑8 : Int))) (nx e (IntKind.i64.wrap (a + 1)) b d (c.set a.toNat (bits BinOp.and IntKind.u64 (IntKind.u64.wrap (c.getD a.toNat 0 + b.getD a.toNat 0)) e))) none) none) none) none) none) none) (f e a b d c)
abbrev bo6 := Int × Int × (List Int) × (List Int) × (List Int)
abbrev buq := bo6
def bto {ρ : Type} (f : bo6 → Option ρ) : bxa ρ := fun e d a b c => f (e, d, a, b, c)
def bor {ρ : Type} : aeh bo6 buq ρ := fun (e, d, a, b, c) next ex => acs e d a b c (bto next) (bto ex)
def bya {ρ : Type} := shut (lp (bor (ρ := ρ)))
theorem bzc {ρ : Type} : bya (ρ := ρ) = lp bor := bn _
def bsb {ρ : Type} (f : aei bo6 buq ρ) (e d : Int) (a b c : List Int) (g : bxa ρ) : Option ρ := f (e, d, a, b, c) (fun (e, d, a, b, c) => g e d a b c)
def ah4 {ρ : Type} := bsb (lp (bor (ρ := ρ)))
def acp {ρ : Type} := bsb (bya (ρ := ρ))
theorem ait {ρ : Type} : acp (ρ := ρ) = ah4 := congrArg bsb bzc
def ae4 {ρ : Type} (b c : List Int) (a : Bool) (k : (List Int) → Option ρ) : Option ρ := u7 fun d => vg fun e => br a (aa9 c a 80 18446744073709551615 fun o => acw a 80 18446744073709551615 0 b [0, 0, 0, 0, 0, 0, 0, 0] d e o b fun N O p Q q r U s t f => acp p 0 q r f fun u v w y g => k g) (aa9 c a 64 4294967295 fun h => acw a 64 4294967295 0 b [0, 0, 0, 0, 0, 0, 0, 0] d e h b fun z A i B j l C F G m => acp i 0 j l m fun H I J M n => k n)
def ab2 {ρ : Type} := shut (ae4 (ρ := ρ))
theorem ajh {ρ : Type} (a : List Int) (b : List Int) (c : Bool) (k : (List Int) → Option ρ) : ab2 a b c k = ae4 a b c k := by unfold ab2; rw [bn]

abbrev bt9 (ρ : Type) := Int → (List Int) → Int → (List Int) → (List Int) → Int → Int → (List Int) → Int → Option ρ
def ahm {ρ : Type} (a : Int) (b : List Int) (c : Int) (d e : List Int) (f g : Int) (h : List Int) (i : Int) (nx j : bt9 ρ) : Option ρ := br (decide ((↑b.length : Int) ≥ a)) (br (decide (0 ≤ a)) (br (decide (a ≤ (↑b.length : Int))) (ab2 d (List.drop 0 (List.take a.toNat b)) (a == 128) fun k => br (decide (0 ≤ a)) (br (decide (a ≤ (↑b.length : Int))) (br (decide ((↑b.length : Int) ≤ (↑b.length : Int))) (nx a (List.drop a.toNat (List.take (↑b.length : Int).toNat b)) c k e f g h i) none) none) none) none) none) (j a b c d e f g h i)
abbrev bq7 := Int × (List Int) × Int × (List Int) × (List Int) × Int × Int × (List Int) × Int
abbrev bvv := bq7
def bsg {ρ : Type} (f : bq7 → Option ρ) : bt9 ρ := fun i j a b c d e g h => f (i, j, a, b, c, d, e, g, h)
def bon {ρ : Type} : aeh bq7 bvv ρ := fun (h, i, a, b, c, d, e, f, g) next ex => ahm h i a b c d e f g (bsg next) (bsg ex)
def bva {ρ : Type} := shut (lp (bon (ρ := ρ)))
theorem bz0 {ρ : Type} : bva (ρ := ρ) = lp bon := bn _
def bpk {ρ : Type} (f : aei bq7 bvv ρ) (i : Int) (j : List Int) (a : Int) (b c : List Int) (d e : Int) (g : List Int) (h : Int) (k : bt9 ρ) : Option ρ := f (i, j, a, b, c, d, e, g, h) (fun (i, j, a, b, c, d, e, g, h) => k i j a b c d e g h)
def aon {ρ : Type} := bpk (lp (bon (ρ := ρ)))
def ake {ρ : Type} := bpk (bva (ρ := ρ))
theorem am2 {ρ : Type} : ake (ρ := ρ) = aon := congrArg bpk bz0
def alz {ρ : Type} (a : Int) (c b : List Int) (d : Int) (e : List Int) (k : Int → (List Int) → (List Int) → Int → Option ρ) : Option ρ := wo a fun f => qg [b, e] fun g => ake f g a c b (IntKind.u64.wrap (d + IntKind.u64.wrap (↑e.length : Int))) 0 [0, 0, 0, 0, 0, 0, 0, 0] 0 fun n h i j o l p q m => k i j h l
def aa0 {ρ : Type} := shut (alz (ρ := ρ))
theorem av9 {ρ : Type} (b : Int) (a : List Int) (c : List Int) (d : Int) (e : List Int) (k : Int → (List Int) → (List Int) → Int → Option ρ) : aa0 b a c d e k = alz b a c d e k := by unfold aa0; rw [bn]

abbrev bnt (ρ : Type) := Int → Int → (List Int) → Int → (List Int) → (List Int) → Int → Option ρ
def aop {ρ : Type} (c g : Int) (b : List Int) (d : Int) (e a : List Int) (f : Int) (nx h : bnt ρ) : Option ρ := br (decide (c = 0)) none (br ((IntKind.i64.wrap ((↑a.length : Int) + (↑b.length : Int))).tmod c != IntKind.i64.wrap (c - 8)) (br (decide ((b.length + 1) * 1 ≤ 140737488355328)) (nx c g (b ++ [0]) d e a f) none) (h c g b d e a f))
abbrev bp2 := Int × Int × (List Int) × Int × (List Int) × (List Int) × Int
abbrev bx3 := bp2
def bw8 {ρ : Type} (f : bp2 → Option ρ) : bnt ρ := fun g h e a b c d => f (g, h, e, a, b, c, d)
def brm {ρ : Type} : aeh bp2 bx3 ρ := fun (f, g, e, a, b, c, d) next ex => aop f g e a b c d (bw8 next) (bw8 ex)
def byl {ρ : Type} := shut (lp (brm (ρ := ρ)))
theorem bzo {ρ : Type} : byl (ρ := ρ) = lp brm := bn _
def bs7 {ρ : Type} (f : aei bp2 bx3 ρ) (g h : Int) (e : List Int) (a : Int) (b c : List Int) (d : Int) (i : bnt ρ) : Option ρ := f (g, h, e, a, b, c, d) (fun (g, h, e, a, b, c, d) => i g h e a b c d)
def avj {ρ : Type} := bs7 (lp (brm (ρ := ρ)))
def aph {ρ : Type} := bs7 (byl (ρ := ρ))
theorem aws {ρ : Type} : aph (ρ := ρ) = avj := congrArg bs7 bzo
abbrev zc45 (ρ : Type) := Int → Int → (List Int) → Int → (List Int) → (List Int) → Int → Option ρ
def ao4 {ρ : Type} (c g : Int) (b : List Int) (d : Int) (e a : List Int) (f : Int) (nx h : bnt ρ) : Option ρ := br (decide (c = 0)) none (br ((IntKind.i64.wrap ((↑a.length : Int) + (↑b.length : Int))).tmod c != IntKind.i64.wrap (c - 16)) (br (decide ((b.length + 1) * 1 ≤ 140737488355328)) (nx c g (b ++ [0]) d e a f) none) (h c g b d e a f))
abbrev bqq := Int × Int × (List Int) × Int × (List Int) × (List Int) × Int
abbrev bvl := bqq
def bye {ρ : Type} (f : bqq → Option ρ) : zc45 ρ := fun g h e a b c d => f (g, h, e, a, b, c, d)
def bpi {ρ : Type} : aeh bqq bvl ρ := fun (f, g, e, a, b, c, d) next ex => ao4 f g e a b c d (bye next) (bye ex)
def bys {ρ : Type} := shut (lp (bpi (ρ := ρ)))
theorem b0c {ρ : Type} : bys (ρ := ρ) = lp bpi := bn _
def bsl {ρ : Type} (f : aei bqq bvl ρ) (g h : Int) (e : List Int) (a : Int) (b c : List Int) (d : Int) (i : bnt ρ) : Option ρ := f (g, h, e, a, b, c, d) (fun (g, h, e, a, b, c, d) => i g h e a b c d)
def au1 {ρ : Type} := bsl (lp (bpi (ρ := ρ)))
def ao2 {ρ : Type} := bsl (bys (ρ := ρ))
theorem ax6 {ρ : Type} : ao2 (ρ := ρ) = au1 := congrArg bsl b0c
abbrev zc46 (ρ : Type) := Int → Int → (List Int) → Int → (List Int) → (List Int) → Int → Option ρ
def ali {ρ : Type} (g c : Int) (a : List Int) (d : Int) (b e : List Int) (f : Int) (nx i : bnt ρ) : Option ρ := br (decide (c < 8)) (br (decide (0 ≤ c)) (br (decide (c < (↑8 : Int))) (j5 (b.getD c.toNat 0) (IntKind.i64.wrap (g.tdiv 16)) fun h => br (decide ((a.length + h.length) * 1 ≤ 140737488355328)) (nx g (IntKind.i64.wrap (c + 1)) (a ++ h) d b e f) none) none) none) (i g c a d b e f)
abbrev bqs := Int × Int × (List Int) × Int × (List Int) × (List Int) × Int
abbrev bvj := bqs
def bxo {ρ : Type} (f : bqs → Option ρ) : zc46 ρ := fun g h a b c d e => f (g, h, a, b, c, d, e)
def boz {ρ : Type} : aeh bqs bvj ρ := fun (f, g, a, b, c, d, e) next ex => ali f g a b c d e (bxo next) (bxo ex)
def buc {ρ : Type} := shut (lp (boz (ρ := ρ)))
theorem by8 {ρ : Type} : buc (ρ := ρ) = lp boz := bn _
def bst {ρ : Type} (f : aei bqs bvj ρ) (g h : Int) (a : List Int) (b : Int) (c d : List Int) (e : Int) (i : bnt ρ) : Option ρ := f (g, h, a, b, c, d, e) (fun (g, h, a, b, c, d, e) => i g h a b c d e)
def aud {ρ : Type} := bst (lp (boz (ρ := ρ)))
def ah1 {ρ : Type} := bst (buc (ρ := ρ))
theorem auo {ρ : Type} : ah1 (ρ := ρ) = aud := congrArg bst by8
def al1 {ρ : Type} (a : Int) (c d : List Int) (b : Int) (k : (List Int) → Option ρ) : Option ρ := wo a fun J => aph J (IntKind.u64.wrap (b * 8)) [128] a c d b fun m n o p q r s => br (m == 128) (ao2 m n [128] p q r s fun M N e t u v i => j5 (i.fdiv (2 ^ 61)) 8 fun f => br (decide ((e.length + f.length) * 1 ≤ 140737488355328)) (j5 N 8 fun j => br (decide (((e ++ f).length + j.length) * 1 ≤ 140737488355328)) (aa0 t u v i (e ++ f ++ j) fun w y z A => ah1 M 0 [] w y z A fun O Q g B U W Z => br (B == 2) (br (decide (48 ≤ (↑g.length : Int))) (k (List.take ((48 : Int) - (0 : Int)).toNat g)) none) (k g)) none) none) (j5 n 8 fun l => br (decide ((o.length + l.length) * 1 ≤ 140737488355328)) (aa0 p q r s (o ++ l) fun C F G H => ah1 m 0 [] C F G H fun aa ab h I ac ad ae => br (I == 2) (br (decide (48 ≤ (↑h.length : Int))) (k (List.take ((48 : Int) - (0 : Int)).toNat h)) none) (k h)) none)
def afj {ρ : Type} := shut (al1 (ρ := ρ))
theorem avn {ρ : Type} (b : Int) (a : List Int) (c : List Int) (d : Int) (k : (List Int) → Option ρ) : afj b a c d k = al1 b a c d k := by unfold afj; rw [bn]

def ale {ρ : Type} (b : Int) (c : List Int) (k : (List Int) → Int → Option ρ) : Option ρ := afv b fun d e f g a => br (a != 0) (k [] a) (aa0 d e f g c fun h i j l => afj h i j l fun m => k m 0)
def afc {ρ : Type} := shut (ale (ρ := ρ))
theorem awm {ρ : Type} (a : Int) (b : List Int) (k : (List Int) → Int → Option ρ) : afc a b k = ale a b k := by unfold afc; rw [bn]

def arp {ρ : Type} (a : List (List Int)) (k : (List Int) → Option ρ) : Option ρ := qg a fun b => afc 1 b fun c d => k c
def af0 {ρ : Type} := shut (arp (ρ := ρ))
theorem ben {ρ : Type} (a : List (List Int)) (k : (List Int) → Option ρ) : af0 a k = arp a k := by unfold af0; rw [bn]

def ag6 {ρ : Type} (a : List Int) (b : Int) (c d : List Int) (k : (List Int) → Option ρ) : Option ρ := j5 (IntKind.u64.wrap b) 4 fun e => j5 33153 2 fun f => af0 [a, e, f, c, d] fun g => k g
def abv {ρ : Type} := shut (ag6 (ρ := ρ))
theorem anj {ρ : Type} (a : List Int) (b : Int) (c : List Int) (d : List Int) (k : (List Int) → Option ρ) : abv a b c d k = ag6 a b c d k := by unfold abv; rw [bn]

abbrev bxp (ρ : Type) := (List Int) → Int → Int → Int → (List Int) → Int → Option ρ
def ajj {ρ : Type} (b : List Int) (c d e : Int) (f : List Int) (a : Int) (nx g : bxp ρ) : Option ρ := br (decide (a < e)) (j5 (IntKind.u64.wrap c) 4 fun h => j5 (IntKind.u64.wrap d) 2 fun i => af0 [b, h, i, [IntKind.u8.wrap a], f] fun j => nx b c d e j (IntKind.i64.wrap (a + 1))) (g b c d e f a)
abbrev bq9 := (List Int) × Int × Int × Int × (List Int) × Int
abbrev bx5 := bq9
def byc {ρ : Type} (f : bq9 → Option ρ) : bxp ρ := fun b c d e g a => f (b, c, d, e, g, a)
def bq8 {ρ : Type} : aeh bq9 bx5 ρ := fun (b, c, d, e, f, a) next ex => ajj b c d e f a (byc next) (byc ex)
def bt8 {ρ : Type} := shut (lp (bq8 (ρ := ρ)))
theorem bz1 {ρ : Type} : bt8 (ρ := ρ) = lp bq8 := bn _
def bs2 {ρ : Type} (f : aei bq9 bx5 ρ) (b : List Int) (c d e : Int) (g : List Int) (a : Int) (h : bxp ρ) : Option ρ := f (b, c, d, e, g, a) (fun (b, c, d, e, g, a) => h b c d e g a)
def apy {ρ : Type} := bs2 (lp (bq8 (ρ := ρ)))
def aqc {ρ : Type} := bs2 (bt8 (ρ := ρ))
theorem arl {ρ : Type} : aqc (ρ := ρ) = apy := congrArg bs2 bz1
def ahx {ρ : Type} (a : List Int) (b c d e : Int) (f : List Int) (k : (List Int) → Option ρ) : Option ρ := aqc a b c e f d fun h i j l g m => k g
def ac3 {ρ : Type} := shut (ahx (ρ := ρ))
theorem aqm {ρ : Type} (a : List Int) (b : Int) (c : Int) (d : Int) (e : Int) (f : List Int) (k : (List Int) → Option ρ) : ac3 a b c d e f k = ahx a b c d e f k := by unfold ac3; rw [bn]

def alh {ρ : Type} (a : List Int) (b : Int) (c : List (List Int)) (k : (List Int) → Option ρ) : Option ρ := j5 (IntKind.u64.wrap b) 4 fun d => j5 32896 2 fun e => qg c fun f => af0 [a, d, e, f] fun g => k g
def ahw {ρ : Type} := shut (alh (ρ := ρ))
theorem auz {ρ : Type} (a : List Int) (b : Int) (c : List (List Int)) (k : (List Int) → Option ρ) : ahw a b c k = alh a b c k := by unfold ahw; rw [bn]

end P
end
