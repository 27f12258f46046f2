/-
  HssSigns, part 12: an interpreter of my own over abstract values, the pure functions, the walks and the plain law.
-/

import Derived.Test.YtmipokjdajiimaaGreatDoorHssSignsH
import Derived.Test.YtmipokjdajiimaaGreatDoorHssSignsI
import Derived.Test.YtmipokjdajiimaaGreatDoorHssSignsK

noncomputable section
open Go Go.Abs
set_option linter.unusedVariables false
namespace P

abbrev by8 (ρ : Type) := (List Int) → Int → Int → (List Int) → Int → (List Int) → Int → Int → Int → Int → (List Int) → Option ρ
def ajq {ρ : Type} (k : List Int) (h a : Int) (i : List Int) (b : Int) (c : List Int) (d e f g : Int) (j : List Int) (nx m : by8 ρ) : Option ρ := br (decide (a < h)) (br (decide (0 ≤ a)) (br (decide (a < (↑j.length : Int))) (mo b c d e f g (IntKind.u64.wrap a) k fun n => jy b c d e f g a 0 (j.getD a.toNat 0) n fun l => br (decide ((i.length + l.length) * 1 ≤ 140737488355328)) (nx k h (IntKind.i64.wrap (a + 1)) (i ++ l) b c d e f g j) none) none) none) (m k h a i b c d e f g j)
abbrev bt4 := (List Int) × Int × Int × (List Int) × Int × (List Int) × Int × Int × Int × Int × (List Int)
abbrev b46 := bt4
def by6 {ρ : Type} (f : bt4 → Option ρ) : by8 ρ := fun k h i j a b c d e g l => f (k, h, i, j, a, b, c, d, e, g, l)
def btw {ρ : Type} : aeb bt4 b46 ρ := fun (j, g, h, i, a, b, c, d, e, f, k) next ex => ajq j g h i a b c d e f k (by6 next) (by6 ex)
def b3m {ρ : Type} := shut (lp (btw (ρ := ρ)))
theorem b5x {ρ : Type} : b3m (ρ := ρ) = lp btw := au _
def bxt {ρ : Type} (f : aec bt4 b46 ρ) (k : List Int) (h i : Int) (j : List Int) (a : Int) (b : List Int) (c d e g : Int) (l : List Int) (m : by8 ρ) : Option ρ := f (k, h, i, j, a, b, c, d, e, g, l) (fun (k, h, i, j, a, b, c, d, e, g, l) => m k h i j a b c d e g l)
def ap0 {ρ : Type} := bxt (lp (btw (ρ := ρ)))
def aps {ρ : Type} := bxt (b3m (ρ := ρ))
theorem aum {ρ : Type} : aps (ρ := ρ) = ap0 := congrArg bxt b5x
def aio {ρ : Type} (m : Int) (n : List Int) (o : Int) (c p : List Int) (k : (List Int) → Int → Option ρ) : Option ρ := qz m n o c fun d e f g h a i => br (i != 0) (k [] i) (mo d e f g h a 65533 c fun j => gu (IntKind.u64.wrap a) 4 fun q => fq [q, j] fun r => jv d e f g h a j p fun b => aps c (↑b.length : Int) 0 r d e f g h a b fun s t u l v w y z A B C => k l 0)
def tq {ρ : Type} := shut (aio (ρ := ρ))
theorem apa {ρ : Type} (a : Int) (b : List Int) (c : Int) (d : List Int) (e : List Int) (k : (List Int) → Int → Option ρ) : tq a b c d e k = aio a b c d e k := by unfold tq; rw [au]

abbrev b1g (ρ : Type) := Int → (List Int) → Int → Int → (List Int) → (List Int) → Option ρ
def aj7 {ρ : Type} (f : Int) (e : List Int) (a b : Int) (c d : List Int) (nx h : b1g ρ) : Option ρ := br (decide (f > 1)) (ig (a.toNat + 2) a b c d (bits BinOp.xor IntKind.u64 f 1) fun g => br (decide ((e.length + g.length) * 1 ≤ 140737488355328)) (nx (IntKind.u64.wrap (f.tdiv 2)) (e ++ g) a b c d) none) (h f e a b c d)
abbrev bui := Int × (List Int) × Int × Int × (List Int) × (List Int)
abbrev b4e := bui
def b4o {ρ : Type} (f : bui → Option ρ) : b1g ρ := fun g e a b c d => f (g, e, a, b, c, d)
def bw9 {ρ : Type} : aeb bui b4e ρ := fun (f, e, a, b, c, d) next ex => aj7 f e a b c d (b4o next) (b4o ex)
def b0o {ρ : Type} := shut (lp (bw9 (ρ := ρ)))
theorem b69 {ρ : Type} : b0o (ρ := ρ) = lp bw9 := au _
def bxy {ρ : Type} (f : aec bui b4e ρ) (g : Int) (e : List Int) (a b : Int) (c d : List Int) (h : b1g ρ) : Option ρ := f (g, e, a, b, c, d) (fun (g, e, a, b, c, d) => h g e a b c d)
def apb {ρ : Type} := bxy (lp (bw9 (ρ := ρ)))
def aqg {ρ : Type} := bxy (b0o (ρ := ρ))
theorem aue {ρ : Type} : aqg (ρ := ρ) = apb := congrArg bxy b69
def al3 {ρ : Type} (a b : Int) (d e : List Int) (c : Int) (g : List Int) (k : (List Int) → Int → Option ρ) : Option ρ := qd a b d e fun f => br (f != 0) (k [] f) (br (decide (a < 0)) none (br ((IntKind.u64.wrap c).fdiv (2 ^ min a.toNat 64) != 0) (k [] 13) (tq b d c e g fun h r => gu (IntKind.u64.wrap c) 4 fun i => o8 a fun j => gu j 4 fun l => fq [i, h, l] fun m => br (decide (a < 0)) none (aqg (IntKind.u64.wrap (IntKind.u64.wrap (1 * 2 ^ min a.toNat 64) + IntKind.u64.wrap c)) m a b d e fun s n t o p q => k n 0))))
def ae1 {ρ : Type} := shut (al3 (ρ := ρ))
theorem avo {ρ : Type} (a : Int) (b : Int) (c : List Int) (d : List Int) (e : Int) (f : List Int) (k : (List Int) → Int → Option ρ) : ae1 a b c d e f k = al3 a b c d e f k := by unfold ae1; rw [au]

def aa5 {ρ : Type} (a b : Int) (d c : List Int) (e : Int) (f : List Int) (k : (List Int) → Option ρ) : Option ρ := ae1 a b d c e f fun g h => k g
def l7 {ρ : Type} := shut (aa5 (ρ := ρ))
theorem aex {ρ : Type} (a : Int) (b : Int) (d : List Int) (c : List Int) (e : Int) (f : List Int) (k : (List Int) → Option ρ) : l7 a b d c e f k = aa5 a b d c e f k := by unfold l7; rw [au]

def an5 {ρ : Type} (b : Int) (c : List Int) (k : (List Int) → Int → Option ρ) : Option ρ := aah b fun d e f g a => br (a != 0) (k [] a) (sw d e f g c fun h i j l => aak h i j l fun m => k m 0)
def ag6 {ρ : Type} := shut (an5 (ρ := ρ))
theorem azv {ρ : Type} (a : Int) (b : List Int) (k : (List Int) → Int → Option ρ) : ag6 a b k = an5 a b k := by unfold ag6; rw [au]

def ac5 {ρ : Type} (c d : Int) (b a : List Int) (e f : Int) (k : (List Int) → Option ρ) : Option ρ := gu (IntKind.u64.wrap e) 4 fun g => gu f 2 fun h => fq [b, g, h, [255], a] fun i => ag6 1 i fun j l => k j
def je {ρ : Type} := shut (ac5 (ρ := ρ))
theorem ah0 {ρ : Type} (a : Int) (b : Int) (d : List Int) (c : List Int) (e : Int) (f : Int) (k : (List Int) → Option ρ) : je a b d c e f k = ac5 a b d c e f k := by unfold je; rw [au]

abbrev bzi (ρ : Type) := (List Int) → (List Int) → (List Int) → Nat → (List Int) → (List Int) → Int → Int → (List Int) → (List Int) → Nat → Int → Int → (List Int) → (List Int) → Int → (List Int) → Option ρ
def aj1 {ρ : Type} (g i j : List Int) (h : Nat) (c d : List Int) (p a : Int) (f q : List Int) (e : Nat) (k l : Int) (m n : List Int) (o : Int) (b : List Int) (nx v : bzi ρ) : Option ρ := br (decide (a < p)) (br (decide (0 ≤ a)) (br (decide (a < (↑h : Int))) (br (decide (0 ≤ a)) (br (decide (a < (↑b.length : Int))) (br (!decide (e = 0)) (jc (c.getD a.toNat 0) (d.getD a.toNat 0) i j (b.getD a.toNat 0) fun r => br (decide (e = 1)) (br (decide (e = 1)) (l7 k l m n o r fun s => br (decide ((f.length + s.length) * 1 ≤ 140737488355328)) (br (decide (((f ++ s).length + r.length) * 1 ≤ 140737488355328)) (je (c.getD a.toNat 0) (d.getD a.toNat 0) i j (b.getD a.toNat 0) 65535 fun t => br (decide (16 ≤ (↑t.length : Int))) (je (c.getD a.toNat 0) (d.getD a.toNat 0) i j (b.getD a.toNat 0) 65534 fun w => nx g (List.take ((16 : Int) - (0 : Int)).toNat (List.drop 0 t)) w h c d p (IntKind.i64.wrap (a + 1)) (f ++ s ++ r) q 1 (c.getD a.toNat 0) (d.getD a.toNat 0) i j (b.getD a.toNat 0) b) none) none) none) none) none) (je (c.getD a.toNat 0) (d.getD a.toNat 0) i j (b.getD a.toNat 0) 65535 fun u => br (decide (16 ≤ (↑u.length : Int))) (je (c.getD a.toNat 0) (d.getD a.toNat 0) i j (b.getD a.toNat 0) 65534 fun y => nx g (List.take ((16 : Int) - (0 : Int)).toNat (List.drop 0 u)) y h c d p (IntKind.i64.wrap (a + 1)) f q 1 (c.getD a.toNat 0) (d.getD a.toNat 0) i j (b.getD a.toNat 0) b) none)) none) none) none) none) (v g i j h c d p a f q e k l m n o b)
abbrev bvf := (List Int) × (List Int) × (List Int) × Nat × (List Int) × (List Int) × Int × Int × (List Int) × (List Int) × Nat × Int × Int × (List Int) × (List Int) × Int × (List Int)
abbrev b0v := bvf
def b1h {ρ : Type} (f : bvf → Option ρ) : bzi ρ := fun g p q i j k n o l r h a b c d e m => f (g, p, q, i, j, k, n, o, l, r, h, a, b, c, d, e, m)
def bwz {ρ : Type} : aeb bvf b0v ρ := fun (f, o, p, h, i, j, m, n, k, q, g, a, b, c, d, e, l) next ex => aj1 f o p h i j m n k q g a b c d e l (b1h next) (b1h ex)
def b4v {ρ : Type} := shut (lp (bwz (ρ := ρ)))
theorem b57 {ρ : Type} : b4v (ρ := ρ) = lp bwz := au _
def bx9 {ρ : Type} (f : aec bvf b0v ρ) (g p q : List Int) (i : Nat) (j k : List Int) (n o : Int) (l r : List Int) (h : Nat) (a b : Int) (c d : List Int) (e : Int) (m : List Int) (s : bzi ρ) : Option ρ := f (g, p, q, i, j, k, n, o, l, r, h, a, b, c, d, e, m) (fun (g, p, q, i, j, k, n, o, l, r, h, a, b, c, d, e, m) => s g p q i j k n o l r h a b c d e m)
def aqa {ρ : Type} := bx9 (lp (bwz (ρ := ρ)))
def apx {ρ : Type} := bx9 (b4v (ρ := ρ))
theorem aui {ρ : Type} : apx (ρ := ρ) = aqa := congrArg bx9 b57
def afa {ρ : Type} (a : Nat) (b c e d : List Int) (r : Int) (j : List Int) (k : (List Int) → Int → Option ρ) : Option ρ := ow a b c e d r fun i l => br (l != 0) (k [] l) (gu (IntKind.u64.wrap (IntKind.i64.wrap ((↑i.length : Int) - 1))) 4 fun s => apx j e d a b c (↑a : Int) 0 s i 0 0 0 [] [] 0 i fun w y z A B C F t f u g m n o p q v => br (decide (g = 1)) (br (decide (g = 1)) (l7 m n o p q j fun h => br (decide ((f.length + h.length) * 1 ≤ 140737488355328)) (k (f ++ h) 0) none) none) none)
def adx {ρ : Type} := shut (afa (ρ := ρ))
theorem aje {ρ : Type} (a : Nat) (b : List Int) (c : List Int) (e : List Int) (d : List Int) (f : Int) (g : List Int) (k : (List Int) → Int → Option ρ) : adx a b c e d f g k = afa a b c e d f g k := by unfold adx; rw [au]

def asz {ρ : Type} (c : List Int) (a b : Int) (k : Bool → Option ρ) : Option ρ := br (decide (a ≥ 1)) (br (decide (a ≤ 24)) (br (decide (b ≥ 0)) (br (decide (a = 0)) none (k (decide (b ≤ IntKind.i64.wrap ((IntKind.i64.wrap ((↑c.length : Int) * 8)).tdiv a))))) (k false)) (k false)) (k false)
def adl {ρ : Type} := shut (asz (ρ := ρ))
theorem av7 {ρ : Type} (a : List Int) (b : Int) (c : Int) (k : Bool → Option ρ) : adl a b c k = asz a b c k := by unfold adl; rw [au]

abbrev b4l (ρ : Type) := (List Int) → Int → Int → Int → Int → Int → (List Int) → Option ρ
def aj0 {ρ : Type} (d : List Int) (b e c f a : Int) (g : List Int) (nx h : b4l ρ) : Option ρ := br (decide (a < b)) (br (decide (0 ≤ IntKind.i64.wrap ((IntKind.i64.wrap (IntKind.i64.wrap (c * b) + a)).tdiv 8))) (br (decide (IntKind.i64.wrap ((IntKind.i64.wrap (IntKind.i64.wrap (c * b) + a)).tdiv 8) < (↑d.length : Int))) (br (decide (IntKind.i64.wrap (7 - (IntKind.i64.wrap (IntKind.i64.wrap (c * b) + a)).tmod 8) < 0)) none (nx d b e c (IntKind.u32.wrap (IntKind.u32.wrap (f * 2) + IntKind.u32.wrap (bits BinOp.and IntKind.u8 ((d.getD (IntKind.i64.wrap ((IntKind.i64.wrap (IntKind.i64.wrap (c * b) + a)).tdiv 8)).toNat 0).fdiv (2 ^ min (IntKind.i64.wrap (7 - (IntKind.i64.wrap (IntKind.i64.wrap (c * b) + a)).tmod 8)).toNat 8)) 1))) (IntKind.i64.wrap (a + 1)) g)) none) none) (h d b e c f a g)
abbrev bvb := (List Int) × Int × Int × Int × Int × Int × (List Int)
abbrev bzx := bvb
def b3g {ρ : Type} (f : bvb → Option ρ) : b4l ρ := fun b c d e g a h => f (b, c, d, e, g, a, h)
def bvj {ρ : Type} : aeb bvb bzx ρ := fun (b, c, d, e, f, a, g) next ex => aj0 b c d e f a g (b3g next) (b3g ex)
def b29 {ρ : Type} := shut (lp (bvj (ρ := ρ)))
theorem b60 {ρ : Type} : b29 (ρ := ρ) = lp bvj := au _
def byf {ρ : Type} (f : aec bvb bzx ρ) (b : List Int) (c d e g a : Int) (h : List Int) (i : b4l ρ) : Option ρ := f (b, c, d, e, g, a, h) (fun (b, c, d, e, g, a, h) => i b c d e g a h)
def apn {ρ : Type} := byf (lp (bvj (ρ := ρ)))
def aq5 {ρ : Type} := byf (b29 (ρ := ρ))
theorem auc {ρ : Type} : aq5 (ρ := ρ) = apn := congrArg byf b60
abbrev b2o (ρ : Type) := (List Int) → Int → Int → Int → (List Int) → Option ρ
def ajo {ρ : Type} (c : List Int) (d a b : Int) (e : List Int) (nx g : b2o ρ) : Option ρ := br (decide (b < a)) (aq5 c d a b 0 0 e fun h i j k l m f => br (decide ((f.length + 1) * 4 ≤ 140737488355328)) (nx h i j (IntKind.i64.wrap (k + 1)) (f ++ [l])) none) (g c d a b e)
abbrev bvw := (List Int) × Int × Int × Int × (List Int)
abbrev b4h := bvw
def b1u {ρ : Type} (f : bvw → Option ρ) : b2o ρ := fun a b c d e => f (a, b, c, d, e)
def bt8 {ρ : Type} : aeb bvw b4h ρ := fun (a, b, c, d, e) next ex => ajo a b c d e (b1u next) (b1u ex)
def b5d {ρ : Type} := shut (lp (bt8 (ρ := ρ)))
theorem b6o {ρ : Type} : b5d (ρ := ρ) = lp bt8 := au _
def byh {ρ : Type} (f : aec bvw b4h ρ) (a : List Int) (b c d : Int) (e : List Int) (g : b2o ρ) : Option ρ := f (a, b, c, d, e) (fun (a, b, c, d, e) => g a b c d e)
def aq0 {ρ : Type} := byh (lp (bt8 (ρ := ρ)))
def aos {ρ : Type} := byh (b5d (ρ := ρ))
theorem auo {ρ : Type} : aos (ρ := ρ) = aq0 := congrArg byh b6o
def ail {ρ : Type} (a : List Int) (b c : Int) (k : (List Int) → Option ρ) : Option ρ := adl a b c fun d => br (!d) (k []) (aos a b c 0 [] fun f g h i e => k e)
def vw {ρ : Type} := shut (ail (ρ := ρ))
theorem aq1 {ρ : Type} (a : List Int) (b : Int) (c : Int) (k : (List Int) → Option ρ) : vw a b c k = ail a b c k := by unfold vw; rw [au]

abbrev b2n (ρ : Type) := Int → (List Int) → Int → Int → Int → Int → (List Int) → Option ρ
def aj5 {ρ : Type} (c : Int) (e : List Int) (f g d a : Int) (b : List Int) (nx h : b2n ρ) : Option ρ := br (decide (a < (↑b.length : Int))) (br (decide (c < 0)) none (br (decide (0 ≤ a)) (br (decide (a < (↑b.length : Int))) (nx c e f g (IntKind.u64.wrap (IntKind.u64.wrap (d + IntKind.u64.wrap (IntKind.u64.wrap (1 * 2 ^ min c.toNat 64) - 1)) - IntKind.u64.wrap (b.getD a.toNat 0))) (IntKind.i64.wrap (a + 1)) b) none) none)) (h c e f g d a b)
abbrev bu1 := Int × (List Int) × Int × Int × Int × Int × (List Int)
abbrev bzp := bu1
def b38 {ρ : Type} (f : bu1 → Option ρ) : b2n ρ := fun c d e g a b h => f (c, d, e, g, a, b, h)
def bvo {ρ : Type} : aeb bu1 bzp ρ := fun (c, d, e, f, a, b, g) next ex => aj5 c d e f a b g (b38 next) (b38 ex)
def b0t {ρ : Type} := shut (lp (bvo (ρ := ρ)))
theorem b6j {ρ : Type} : b0t (ρ := ρ) = lp bvo := au _
def bx2 {ρ : Type} (f : aec bu1 bzp ρ) (c : Int) (d : List Int) (e g a b : Int) (h : List Int) (i : b2n ρ) : Option ρ := f (c, d, e, g, a, b, h) (fun (c, d, e, g, a, b, h) => i c d e g a b h)
def aqs {ρ : Type} := bx2 (lp (bvo (ρ := ρ)))
def aqm {ρ : Type} := bx2 (b0t (ρ := ρ))
theorem aug {ρ : Type} : aqm (ρ := ρ) = aqs := congrArg bx2 b6j
def aiw {ρ : Type} (a : Int) (b : List Int) (k : (List Int) → Int → Option ρ) : Option ρ := om a fun c h p => br (c == 0) (k [] 9) (br ((↑b.length : Int) != 32) (k [] 14) (br (decide (a = 0)) none (vw b a (IntKind.i64.wrap (Int.tdiv 256 a)) fun i => aqm a b c h 0 0 i fun j l m d n q o => br (decide (d < 0)) none (gy (IntKind.u64.wrap (n * 2 ^ min d.toNat 64)) 2 fun e => kr [l, e] fun f => vw f j m fun g => k g 0))))
def ab8 {ρ : Type} := shut (aiw (ρ := ρ))
theorem aow {ρ : Type} (a : Int) (b : List Int) (k : (List Int) → Int → Option ρ) : ab8 a b k = aiw a b k := by unfold ab8; rw [au]

def aic {ρ : Type} (a : List Int) (b : Int) (c d : List Int) (k : (List Int) → Option ρ) : Option ρ := gy (IntKind.u64.wrap b) 4 fun e => gy 33153 2 fun f => ad1 [a, e, f, c, d] fun g => k g
def ace {ρ : Type} := shut (aic (ρ := ρ))
theorem apr {ρ : Type} (a : List Int) (b : Int) (c : List Int) (d : List Int) (k : (List Int) → Option ρ) : ace a b c d k = aic a b c d k := by unfold ace; rw [au]

abbrev b3d (ρ : Type) := (List Int) → Int → (List Int) → Int → (List (List Int)) → (List Int) → Option ρ
def ank {ρ : Type} (d : List Int) (e : Int) (f : List Int) (a : Int) (b : List (List Int)) (c : List Int) (nx g : b3d ρ) : Option ρ := br (decide (a < (↑c.length : Int))) (br (decide (0 ≤ a)) (br (decide (a < (↑c.length : Int))) (acf d e a f fun h => aaq d e a 0 (IntKind.i64.wrap (c.getD a.toNat 0)) h fun i => br (decide ((b.length + 1) * 24 ≤ 140737488355328)) (nx d e f (IntKind.i64.wrap (a + 1)) (b ++ [i]) c) none) none) none) (g d e f a b c)
abbrev bxh := (List Int) × Int × (List Int) × Int × (List (List Int)) × (List Int)
abbrev b48 := bxh
def b3r {ρ : Type} (f : bxh → Option ρ) : b3d ρ := fun c d e a b g => f (c, d, e, a, b, g)
def bw5 {ρ : Type} : aeb bxh b48 ρ := fun (c, d, e, a, b, f) next ex => ank c d e a b f (b3r next) (b3r ex)
def b4r {ρ : Type} := shut (lp (bw5 (ρ := ρ)))
theorem b6m {ρ : Type} : b4r (ρ := ρ) = lp bw5 := au _
def bx6 {ρ : Type} (f : aec bxh b48 ρ) (c : List Int) (d : Int) (e : List Int) (a : Int) (b : List (List Int)) (g : List Int) (h : b3d ρ) : Option ρ := f (c, d, e, a, b, g) (fun (c, d, e, a, b, g) => h c d e a b g)
def aw8 {ρ : Type} := bx6 (lp (bw5 (ρ := ρ)))
def axe {ρ : Type} := bx6 (b4r (ρ := ρ))
theorem aya {ρ : Type} : axe (ρ := ρ) = aw8 := congrArg bx6 b6m
def alk {ρ : Type} (b : Int) (a : List Int) (c : Int) (d i : List Int) (k : (List Int) → Int → Option ρ) : Option ρ := aap b a d fun e => br (e != 0) (k [] e) (om b fun s t j => acf a c 65533 d fun f => ace a c f i fun l => ab8 b l fun m u => gy j 4 fun n => axe a c d 0 [n, f] m fun v o p q g r => kr g fun h => k h 0)
def agf {ρ : Type} := shut (alk (ρ := ρ))
theorem avb {ρ : Type} (a : Int) (b : List Int) (c : Int) (d : List Int) (e : List Int) (k : (List Int) → Int → Option ρ) : agf a b c d e k = alk a b c d e k := by unfold agf; rw [au]

abbrev b0k (ρ : Type) := Int → (List (List Int)) → (List (List Int)) → Option ρ
def al0 {ρ : Type} (a : Int) (b c : List (List Int)) (nx d : b0k ρ) : Option ρ := br (decide (a > 1)) (br (decide (0 ≤ bits BinOp.xor IntKind.i64 a 1)) (br (decide (bits BinOp.xor IntKind.i64 a 1 < (↑c.length : Int))) (br (decide ((b.length + 1) * 24 ≤ 140737488355328)) (nx (IntKind.i64.wrap (a.tdiv 2)) (b ++ [c.getD (bits BinOp.xor IntKind.i64 a 1).toNat []]) c) none) none) none) (d a b c)
abbrev bwx := Int × (List (List Int)) × (List (List Int))
abbrev by9 := bwx
def bzy {ρ : Type} (f : bwx → Option ρ) : b0k ρ := fun a b c => f (a, b, c)
def bve {ρ : Type} : aeb bwx by9 ρ := fun (a, b, c) next ex => al0 a b c (bzy next) (bzy ex)
def bzm {ρ : Type} := shut (lp (bve (ρ := ρ)))
theorem b66 {ρ : Type} : bzm (ρ := ρ) = lp bve := au _
def bxq {ρ : Type} (f : aec bwx by9 ρ) (a : Int) (b c : List (List Int)) (d : b0k ρ) : Option ρ := f (a, b, c) (fun (a, b, c) => d a b c)
def as6 {ρ : Type} := bxq (lp (bve (ρ := ρ)))
def atl {ρ : Type} := bxq (bzm (ρ := ρ))
theorem awc {ρ : Type} : atl (ρ := ρ) = as6 := congrArg bxq b66
def ald {ρ : Type} (a b : Int) (d e : List Int) (c : Int) (h : List Int) (k : (List Int) → Int → Option ρ) : Option ρ := wm a b d e fun f => br (f != 0) (k [] f) (br (decide (a < 0)) none (br (decide (IntKind.u64.wrap c ≥ IntKind.u64.wrap (1 * 2 ^ min a.toNat 64))) (k [] 13) (agf b d c e h fun i p => gy (IntKind.u64.wrap c) 4 fun j => uw a fun l => gy l 4 fun m => aam a b d e fun n => br (decide (a < 0)) none (atl (IntKind.i64.wrap (IntKind.i64.wrap (1 * 2 ^ min a.toNat 64) + IntKind.i64.wrap c)) [j, i, m] n fun q o r => kr o fun g => k g 0))))
def adr {ρ : Type} := shut (ald (ρ := ρ))
theorem avn {ρ : Type} (a : Int) (b : Int) (c : List Int) (d : List Int) (e : Int) (f : List Int) (k : (List Int) → Int → Option ρ) : adr a b c d e f k = ald a b c d e f k := by unfold adr; rw [au]

abbrev b5a (ρ : Type) := Int → Int → Nat → (List Int) → (List Int) → (List Int) → (List Int) → Option ρ
def aj3 {ρ : Type} (g c : Int) (a : Nat) (b d e f : List Int) (nx h : b5a ρ) : Option ρ := br (decide (c < (↑a : Int))) (br (decide ((0 : Int) ≤ c)) (br (decide (c < (↑a : Int))) (br (decide (b.getD c.toNat (0 : Int) < (0 : Int))) none (nx (IntKind.u64.wrap (g * (2 : Int) ^ min (b.getD c.toNat (0 : Int)).toNat 64)) (IntKind.i64.wrap (c + (1 : Int))) a b d e f)) none) none) (h g c a b d e f)
abbrev buz := Int × Int × Nat × (List Int) × (List Int) × (List Int) × (List Int)
abbrev bzc := buz
def by5 {ρ : Type} (f : buz → Option ρ) : b5a ρ := fun g h a b c d e => f (g, h, a, b, c, d, e)
def bvm {ρ : Type} : aeb buz bzc ρ := fun (f, g, a, b, c, d, e) next ex => aj3 f g a b c d e (by5 next) (by5 ex)
def b2k {ρ : Type} := shut (lp (bvm (ρ := ρ)))
theorem b67 {ρ : Type} : b2k (ρ := ρ) = lp bvm := au _
def byx {ρ : Type} (f : aec buz bzc ρ) (g h : Int) (a : Nat) (b c d e : List Int) (i : b5a ρ) : Option ρ := f (g, h, a, b, c, d, e) (fun (g, h, a, b, c, d, e) => i g h a b c d e)
def ap1 {ρ : Type} := byx (lp (bvm (ρ := ρ)))
def aqo {ρ : Type} := byx (b2k (ρ := ρ))
theorem at7 {ρ : Type} : aqo (ρ := ρ) = ap1 := congrArg byx b67
def ait {ρ : Type} (a : Nat) (b c e d : List Int) (k : Int → Option ρ) : Option ρ := zm a b c e d fun f => br (!f) (k 0) (aqo 1 0 a b c e d fun g h i j l m n => k g)
def ab2 {ρ : Type} := shut (ait (ρ := ρ))
theorem aot {ρ : Type} (a : Nat) (b : List Int) (c : List Int) (e : List Int) (d : List Int) (k : Int → Option ρ) : ab2 a b c e d k = ait a b c e d k := by unfold ab2; rw [au]

abbrev b0y (ρ : Type) := Int → Int → Nat → (List Int) → (List Int) → (List Int) → (List Int) → (List Int) → Option ρ
def ajw {ρ : Type} (g b : Int) (c : Nat) (a d e f h : List Int) (nx i : b0y ρ) : Option ρ := br (decide (b ≥ (0 : Int))) (br (decide ((0 : Int) ≤ b)) (br (decide (b < (↑c : Int))) (br (decide (a.getD b.toNat (0 : Int) < (0 : Int))) none (br (decide (IntKind.u64.wrap ((1 : Int) * (2 : Int) ^ min (a.getD b.toNat (0 : Int)).toNat 64) = (0 : Int))) none (br (decide ((0 : Int) ≤ b)) (br (decide (b < (↑h.length : Int))) (br (decide ((0 : Int) ≤ b)) (br (decide (b < (↑c : Int))) (br (decide (a.getD b.toNat (0 : Int) < (0 : Int))) none (nx (g.fdiv ((2 : Int) ^ min (a.getD b.toNat (0 : Int)).toNat 64)) (IntKind.i64.wrap (b - (1 : Int))) c a d e f (h.set b.toNat (IntKind.u32.wrap (g.tmod (IntKind.u64.wrap ((1 : Int) * (2 : Int) ^ min (a.getD b.toNat (0 : Int)).toNat 64))))))) none) none) none) none))) none) none) (i g b c a d e f h)
abbrev bwj := Int × Int × Nat × (List Int) × (List Int) × (List Int) × (List Int) × (List Int)
abbrev b0l := bwj
def b0i {ρ : Type} (f : bwj → Option ρ) : b0y ρ := fun g h a b c d e i => f (g, h, a, b, c, d, e, i)
def bu2 {ρ : Type} : aeb bwj b0l ρ := fun (f, g, a, b, c, d, e, h) next ex => ajw f g a b c d e h (b0i next) (b0i ex)
def b3c {ρ : Type} := shut (lp (bu2 (ρ := ρ)))
theorem b6l {ρ : Type} : b3c (ρ := ρ) = lp bu2 := au _
def bxz {ρ : Type} (f : aec bwj b0l ρ) (g h : Int) (a : Nat) (b c d e i : List Int) (j : b0y ρ) : Option ρ := f (g, h, a, b, c, d, e, i) (fun (g, h, a, b, c, d, e, i) => j g h a b c d e i)
def aqc {ρ : Type} := bxz (lp (bu2 (ρ := ρ)))
def apd {ρ : Type} := bxz (b3c (ρ := ρ))
theorem auh {ρ : Type} : apd (ρ := ρ) = aqc := congrArg bxz b6l
def acv {ρ : Type} (a : Nat) (b c e d : List Int) (f : Int) (k : (List Int) → Int → Option ρ) : Option ρ := zm a b c e d fun g => br (!g) (k [] 10) (ab2 a b c e d fun h => br (decide (f ≥ h)) (k [] 13) (br (decide ((↑a : Int) ≤ (↑a : Int))) (br (decide ((↑a : Int) * (↑4 : Int) ≤ (↑140737488355328 : Int))) (apd f (IntKind.i64.wrap ((↑a : Int) - 1)) a b c e d (List.replicate (↑a : Int).toNat (0 : Int)) fun j l m n o p q i => k i 0) none) none))
def z8 {ρ : Type} := shut (acv (ρ := ρ))
theorem af4 {ρ : Type} (a : Nat) (b : List Int) (c : List Int) (e : List Int) (d : List Int) (f : Int) (k : (List Int) → Int → Option ρ) : z8 a b c e d f k = acv a b c e d f k := by unfold z8; rw [au]

def ajg {ρ : Type} (a b : List Int) (c : Int) (k : (List Int) → (List Int) → Option ρ) : Option ρ := gy (IntKind.u64.wrap c) 4 fun e => gy 65535 2 fun f => ad1 [a, e, f, [255], b] fun d => gy (IntKind.u64.wrap c) 4 fun g => gy 65534 2 fun h => ad1 [a, g, h, [255], b] fun i => br (decide (16 ≤ (↑d.length : Int))) (k (List.take ((16 : Int) - (0 : Int)).toNat (List.drop 0 d)) i) none
def ad6 {ρ : Type} := shut (ajg (ρ := ρ))
theorem as7 {ρ : Type} (a : List Int) (b : List Int) (c : Int) (k : (List Int) → (List Int) → Option ρ) : ad6 a b c k = ajg a b c k := by unfold ad6; rw [au]

abbrev b2v (ρ : Type) := (List Int) → Int → (List Int) → (List Int) → Int → (List (List Int)) → Nat → (List Int) → (List Int) → (List Int) → (List Int) → (List Int) → Option ρ
def an1 {ρ : Type} (m : List Int) (f : Int) (g h : List Int) (a : Int) (i : List (List Int)) (b : Nat) (c d j k e : List Int) (nx p : b2v ρ) : Option ρ := br (decide (a < f)) (br (decide (0 ≤ a)) (br (decide (a < (↑e.length : Int))) (ad6 g h (e.getD a.toNat 0) fun n o => br (decide (0 ≤ IntKind.i64.wrap (a + 1))) (br (decide (IntKind.i64.wrap (a + 1) < (↑b : Int))) (wh (c.getD (IntKind.i64.wrap (a + 1)).toNat 0) (d.getD (IntKind.i64.wrap (a + 1)).toNat 0) n o fun l r => br (decide (0 ≤ a)) (br (decide (a < (↑b : Int))) (br (decide (0 ≤ a)) (br (decide (a < (↑e.length : Int))) (adr (c.getD a.toNat 0) (d.getD a.toNat 0) g h (e.getD a.toNat 0) l fun q s => br (decide ((i.length + ([l].length.add 0).succ) * 24 ≤ 140737488355328)) (nx m f n o (IntKind.i64.wrap (a + 1)) (i ++ [q, l]) b c d j k e) none) none) none) none) none) none) none) none) none) (p m f g h a i b c d j k e)
abbrev buc := (List Int) × Int × (List Int) × (List Int) × Int × (List (List Int)) × Nat × (List Int) × (List Int) × (List Int) × (List Int) × (List Int)
abbrev b41 := buc
def by7 {ρ : Type} (f : buc → Option ρ) : b2v ρ := fun l g h i j k a b c d e m => f (l, g, h, i, j, k, a, b, c, d, e, m)
def btx {ρ : Type} : aeb buc b41 ρ := fun (k, f, g, h, i, j, a, b, c, d, e, l) next ex => an1 k f g h i j a b c d e l (by7 next) (by7 ex)
def b3k {ρ : Type} := shut (lp (btx (ρ := ρ)))
theorem b58 {ρ : Type} : b3k (ρ := ρ) = lp btx := au _
def bx4 {ρ : Type} (f : aec buc b41 ρ) (l : List Int) (g : Int) (h i : List Int) (j : Int) (k : List (List Int)) (a : Nat) (b c d e m : List Int) (n : b2v ρ) : Option ρ := f (l, g, h, i, j, k, a, b, c, d, e, m) (fun (l, g, h, i, j, k, a, b, c, d, e, m) => n l g h i j k a b c d e m)
def axl {ρ : Type} := bx4 (lp (btx (ρ := ρ)))
def aw3 {ρ : Type} := bx4 (b3k (ρ := ρ))
theorem ax6 {ρ : Type} : aw3 (ρ := ρ) = axl := congrArg bx4 b58
def afm {ρ : Type} (a : Nat) (c d e b : List Int) (o : Int) (p : List Int) (k : (List Int) → Int → Option ρ) : Option ρ := z8 a c d e b o fun q h => br (h != 0) (k [] h) (gy (IntKind.u64.wrap (IntKind.i64.wrap ((↑a : Int) - 1))) 4 fun r => aw3 p (IntKind.i64.wrap ((↑a : Int) - 1)) e b 0 [r] a c d e b q fun s f t u A i v j l w y g => br (decide (0 ≤ f)) (br (decide (f < (↑v : Int))) (br (decide (0 ≤ f)) (br (decide (f < (↑g.length : Int))) (adr (j.getD f.toNat 0) (l.getD f.toNat 0) t u (g.getD f.toNat 0) s fun m z => br (decide ((i.length + 1) * 24 ≤ 140737488355328)) (kr (i ++ [m]) fun n => k n 0) none) none) none) none) none)
def adw {ρ : Type} := shut (afm (ρ := ρ))
theorem ajb {ρ : Type} (a : Nat) (b : List Int) (c : List Int) (e : List Int) (d : List Int) (f : Int) (g : List Int) (k : (List Int) → Int → Option ρ) : adw a b c e d f g k = afm a b c e d f g k := by unfold adw; rw [au]

abbrev b3l (ρ : Type) := (List Int) → (List Int) → Int → Option ρ
def anp {ρ : Type} (b c : List Int) (a : Int) (nx d : b3l ρ) (e : Bool → Option ρ) : Option ρ := br (decide (a < (↑b.length : Int))) (br (decide (0 ≤ a)) (br (decide (a < (↑b.length : Int))) (br (decide (0 ≤ a)) (br (decide (a < (↑c.length : Int))) (br (b.getD a.toNat 0 != c.getD a.toNat 0) (e false) (nx b c (IntKind.i64.wrap (a + 1)))) none) none) none) none) (d b c a)
abbrev by2 := (List Int) × (List Int) × Int
abbrev b5g := ((List Int) × (List Int) × Int) ⊕ (Bool)
def b7d {ρ : Type} (f : by2 → Option ρ) : b3l ρ := fun a b c => f (a, b, c)
def bwi {ρ : Type} : aeb by2 b5g ρ := fun (a, b, c) next ex => anp a b c (b7d next) (fun a b c => ex (.inl (a, b, c))) (fun d => ex (.inr d))
def b3b {ρ : Type} := shut (lp (bwi (ρ := ρ)))
theorem b5p {ρ : Type} : b3b (ρ := ρ) = lp bwi := au _
def bxo {ρ : Type} (f : aec by2 b5g ρ) (a b : List Int) (c : Int) (d : b3l ρ) (e : Bool → Option ρ) : Option ρ := f (a, b, c) (Sum.elim (fun (a, b, c) => d a b c) (fun x => e x))
def axk {ρ : Type} := bxo (lp (bwi (ρ := ρ)))
def awm {ρ : Type} := bxo (b3b (ρ := ρ))
theorem ayc {ρ : Type} : awm (ρ := ρ) = axk := congrArg bxo b5p
def alr {ρ : Type} (a b : List Int) (k : Bool → Option ρ) : Option ρ := br ((↑a.length : Int) != (↑b.length : Int)) (k false) (awm a b 0 (fun d e f => k true) fun c => k c)
def y8 {ρ : Type} := shut (alr (ρ := ρ))
theorem axo {ρ : Type} (a : List Int) (b : List Int) (k : Bool → Option ρ) : y8 a b k = alr a b k := by unfold y8; rw [au]

def afw {ρ : Type} (a : Nat) (b c e d : List Int) (g : Int) (f : List Int) (k : Bool → Option ρ) : Option ρ := ad7 a b c e d fun n => br (!n) (ug fun o => k o) (af2 [e, d, f] fun p => br (!p) (ug fun q => k q) (aau a b c e d fun r s => aas a b c e d fun t u => adx a b c e d g f fun v w => adw a b c e d g f fun h i => y8 r t fun j => br j (br (s == u) (y8 v h fun l => br l (br (w == i) (ug fun m => k m) (k false)) (k false)) (k false)) (k false)))
def yw {ρ : Type} := shut (afw (ρ := ρ))
theorem ak2 {ρ : Type} (a : Nat) (b : List Int) (c : List Int) (e : List Int) (d : List Int) (f : Int) (g : List Int) (k : Bool → Option ρ) : yw a b c e d f g k = afw a b c e d f g k := by unfold yw; rw [au]



























































end P
end
