/-
  XmssGrows, part 9: an interpreter of my own over abstract values, the pure functions, the walks and the plain law.
-/

import Derived.Test.YtjhnljhjpnjieaaGreatDoorXmssGrowsG
import Derived.Test.YtjhnljhjpnjieaaGreatDoorXmssGrowsH

noncomputable section
open Go Go.Abs
set_option linter.unusedVariables false
namespace P

def y5 {ρ : Type} (b c d e f : Int) (a : Bool) (h i m : List Int) (g j : Int) (k : (List Int) → Option ρ) : Option ρ := tu b c d e f a [h, i] fun n => br (!n) (k []) (br (decide (g < 0)) (k []) (jl b c d e f a fun o => br (decide (g > o)) (k []) (jl b c d e f a fun l => br (decide (IntKind.i64.wrap (l - g) < 0)) none (br (j.fdiv (2 ^ min (IntKind.i64.wrap (l - g)).toNat 64) != 0) (k []) (oo (g.toNat + 1) b c d e f a h i m g j fun p => k p)))))
def z8 {ρ : Type} := shut (y5 (ρ := ρ))
theorem abf {ρ : Type} (b : Int) (c : Int) (d : Int) (e : Int) (f : Int) (a : Bool) (g : List Int) (h : List Int) (i : List Int) (j : Int) (l : Int) (k : (List Int) → Option ρ) : z8 b c d e f a g h i j l k = y5 b c d e f a g h i j l k := by unfold z8; rw [bq]

def aks {ρ : Type} (k : Bool → Option ρ) : Option ρ := qd 16 2 1 1 1 false fun a => br (a == 592) (z8 16 2 1 1 1 false (List.replicate 16 (0 : Int)) (List.replicate 16 (0 : Int)) [0, 0, 0, 0, 0, 0, 0, 0, 0, 0, 0, 0, 0, 0, 0, 0, 0, 0, 0, 0, 0, 0, 0, 0, 0, 0, 0, 0, 0, 0, 0, 0] 3 0 fun b => k ((↑b.length : Int) == 0)) (k false)
def u6 {ρ : Type} := shut (aks (ρ := ρ))
theorem auj {ρ : Type}  (k : Bool → Option ρ) : u6  k = aks  k := by unfold u6; rw [bq]

def aml {ρ : Type} (a d b e f : Int) (c : Bool) (k : Int → Option ρ) : Option ρ := mh a d b e f c fun g => br (!g) (k 0) (br (decide (b = 0)) none (k (IntKind.i64.wrap (a * IntKind.i64.wrap (IntKind.i64.wrap (IntKind.i64.wrap (2 * a) + 3) + IntKind.i64.wrap (d.tdiv b))))))
def aau {ρ : Type} := shut (aml (ρ := ρ))
theorem av4 {ρ : Type} (b : Int) (c : Int) (d : Int) (e : Int) (f : Int) (a : Bool) (k : Int → Option ρ) : aau b c d e f a k = aml b c d e f a k := by unfold aau; rw [bq]

abbrev b1c (ρ : Type) := Int → (List Int) → Int → (List Int) → (List Int) → Option ρ
def as5 {ρ : Type} (b : Int) (c : List Int) (a : Int) (d e : List Int) (nx f : b1c ρ) : Option ρ := br (decide (a < (↑c.length : Int))) (br (decide (0 ≤ a)) (br (decide (a < (↑c.length : Int))) (br (decide (0 ≤ IntKind.i64.wrap (b + a))) (br (decide (IntKind.i64.wrap (b + a) < (↑32 : Int))) (nx b c (IntKind.i64.wrap (a + 1)) (d.set (IntKind.i64.wrap (b + a)).toNat (c.getD a.toNat 0)) e) none) none) none) none) (f b c a d e)
abbrev bun := Int × (List Int) × Int × (List Int) × (List Int)
abbrev b62 := bun
def b48 {ρ : Type} (f : bun → Option ρ) : b1c ρ := fun c d e a b => f (c, d, e, a, b)
def bte {ρ : Type} : adk bun b62 ρ := fun (c, d, e, a, b) next ex => as5 c d e a b (b48 next) (b48 ex)
def b2d {ρ : Type} := shut (lp (bte (ρ := ρ)))
theorem b8l {ρ : Type} : b2d (ρ := ρ) = lp bte := bq _
def bzo {ρ : Type} (f : adj bun b62 ρ) (c : Int) (d : List Int) (e : Int) (a b : List Int) (g : b1c ρ) : Option ρ := f (c, d, e, a, b) (fun (c, d, e, a, b) => g c d e a b)
def bah {ρ : Type} := bzo (lp (bte (ρ := ρ)))
def azw {ρ : Type} := bzo (b2d (ρ := ρ))
theorem bbp {ρ : Type} : azw (ρ := ρ) = bah := congrArg bzo b8l
def ao7 {ρ : Type} (a : List Int) (b : Int) (c : List Int) (k : (List Int) → Option ρ) : Option ρ := azw b c 0 a [0, 0, 0, 0, 0, 0, 0, 0, 0, 0, 0, 0, 0, 0, 0, 0, 0, 0, 0, 0, 0, 0, 0, 0, 0, 0, 0, 0, 0, 0, 0, 0] fun e f g d h => k d
def aap {ρ : Type} := shut (ao7 (ρ := ρ))
theorem bak {ρ : Type} (a : List Int) (b : Int) (c : List Int) (k : (List Int) → Option ρ) : aap a b c k = ao7 a b c k := by unfold aap; rw [bq]

abbrev b6i (ρ : Type) := Int → Int → (List Int) → Option ρ
def awi {ρ : Type} (b a : Int) (c : List Int) (nx d : b6i ρ) : Option ρ := br (decide (a ≥ 0)) (br (decide (0 ≤ a)) (br (decide (a < (↑c.length : Int))) (nx (b.fdiv (2 ^ 8)) (IntKind.i64.wrap (a - 1)) (c.set a.toNat (IntKind.u8.wrap (bits BinOp.and IntKind.u64 b 255)))) none) none) (d b a c)
abbrev buy := Int × Int × (List Int)
abbrev b1p := buy
def b5m {ρ : Type} (f : buy → Option ρ) : b6i ρ := fun a b c => f (a, b, c)
def bwa {ρ : Type} : adk buy b1p ρ := fun (a, b, c) next ex => awi a b c (b5m next) (b5m ex)
def b27 {ρ : Type} := shut (lp (bwa (ρ := ρ)))
theorem b84 {ρ : Type} : b27 (ρ := ρ) = lp bwa := bq _
def bz3 {ρ : Type} (f : adj buy b1p ρ) (a b : Int) (c : List Int) (d : b6i ρ) : Option ρ := f (a, b, c) (fun (a, b, c) => d a b c)
def bfh {ρ : Type} := bz3 (lp (bwa (ρ := ρ)))
def bes {ρ : Type} := bz3 (b27 (ρ := ρ))
theorem bff {ρ : Type} : bes (ρ := ρ) = bfh := congrArg bz3 b84
def atu {ρ : Type} (b a : Int) (k : (List Int) → Option ρ) : Option ρ := br (decide (a < 0)) (k []) (br (decide (a > 65536)) (k []) (br (decide (0 ≤ a)) (br (decide (a ≤ a)) (br (decide (a * (↑1 : Int) ≤ (↑140737488355328 : Int))) (bes b (IntKind.i64.wrap (a - 1)) (List.replicate a.toNat (0 : Int)) fun d e c => k c) none) none) none))
def wo {ρ : Type} := shut (atu (ρ := ρ))
theorem beo {ρ : Type} (a : Int) (b : Int) (k : (List Int) → Option ρ) : wo a b k = atu a b k := by unfold wo; rw [bq]

def apw {ρ : Type} (b : List Int) (a c : Int) (k : (List Int) → Option ρ) : Option ρ := br (a == 0) (wo c 4 fun g => aap b 0 g fun h => k h) (br (a == 1) (wo c 12 fun i => aap b 4 i fun j => k j) (br (a == 2) (wo c 4 fun l => aap b 16 l fun m => aap m 20 (List.replicate 12 (0 : Int)) fun n => k n) (br (a == 3) (br (a == 3) (wo c 4 fun o => aap b (IntKind.i64.wrap (8 + IntKind.i64.wrap (4 * a))) o fun p => k p) (k b)) (br (a == 4) (br (a == 4) (wo c 4 fun q => aap b (IntKind.i64.wrap (8 + IntKind.i64.wrap (4 * a))) q fun d => k d) (k b)) (br (a == 5) (wo c 4 fun e => aap b (IntKind.i64.wrap (8 + IntKind.i64.wrap (4 * a))) e fun f => k f) (k b))))))
def jm {ρ : Type} := shut (apw (ρ := ρ))
theorem az9 {ρ : Type} (a : List Int) (b : Int) (c : Int) (k : (List Int) → Option ρ) : jm a b c k = apw a b c k := by unfold jm; rw [bq]

def alj {ρ : Type} (a c d e f : Int) (b : Bool) (g h : List Int) (k : Bool → Option ρ) : Option ρ := mh a c d e f b fun i => br (!i) (k true) (br ((↑g.length : Int) != a) (k true) (k ((↑h.length : Int) != a)))
def uz {ρ : Type} := shut (alj (ρ := ρ))
theorem aua {ρ : Type} (b : Int) (c : Int) (d : Int) (e : Int) (f : Int) (a : Bool) (g : List Int) (h : List Int) (k : Bool → Option ρ) : uz b c d e f a g h k = alj b c d e f a g h k := by unfold uz; rw [bq]

abbrev b7d (ρ : Type) := (List (List Int)) → Int → (List Int) → Option ρ
def aqh {ρ : Type} (b : List (List Int)) (a : Int) (c : List Int) (nx d : b7d ρ) : Option ρ := br (decide (a < (↑b.length : Int))) (br (decide (0 ≤ a)) (br (decide (a < (↑b.length : Int))) (br (decide ((c.length + (b.getD a.toNat []).length) * 1 ≤ 140737488355328)) (nx b (IntKind.i64.wrap (a + 1)) (c ++ b.getD a.toNat [])) none) none) none) (d b a c)
abbrev bxl := (List (List Int)) × Int × (List Int)
abbrev b78 := bxl
def b4r {ρ : Type} (f : bxl → Option ρ) : b7d ρ := fun a b c => f (a, b, c)
def bul {ρ : Type} : adk bxl b78 ρ := fun (a, b, c) next ex => aqh a b c (b4r next) (b4r ex)
def b31 {ρ : Type} := shut (lp (bul (ρ := ρ)))
theorem b94 {ρ : Type} : b31 (ρ := ρ) = lp bul := bq _
def byv {ρ : Type} (f : adj bxl b78 ρ) (a : List (List Int)) (b : Int) (c : List Int) (d : b7d ρ) : Option ρ := f (a, b, c) (fun (a, b, c) => d a b c)
def axz {ρ : Type} := byv (lp (bul (ρ := ρ)))
def ax8 {ρ : Type} := byv (b31 (ρ := ρ))
theorem ayw {ρ : Type} : ax8 (ρ := ρ) = axz := congrArg byv b94
def amm {ρ : Type} (a : List (List Int)) (k : (List Int) → Option ρ) : Option ρ := ax8 a 0 [] fun c d b => k b
def l5 {ρ : Type} := shut (amm (ρ := ρ))
theorem av6 {ρ : Type} (a : List (List Int)) (k : (List Int) → Option ρ) : l5 a k = amm a k := by unfold l5; rw [bq]

def ank {ρ : Type} (a : Int) (k : Int → Option ρ) : Option ρ := br (a == 4) (br (a == 4) (k 136) (br (a == 5) (k 72) (br (a == 6) (k 168) (k 0)))) (br (a == 7) (k 136) (br (a == 5) (k 72) (br (a == 6) (k 168) (k 0))))
def abj {ρ : Type} := shut (ank (ρ := ρ))
theorem av7 {ρ : Type} (a : Int) (k : Int → Option ρ) : abj a k = ank a k := by unfold abj; rw [bq]

def apl {ρ : Type} (a : Int) (k : Int → (List Int) → Int → Bool → Int → Option ρ) : Option ρ := abj a fun b => br (b == 0) (k 0 [0, 0, 0, 0, 0, 0, 0, 0, 0, 0, 0, 0, 0, 0, 0, 0, 0, 0, 0, 0, 0, 0, 0, 0, 0] 0 false 9) (k a [0, 0, 0, 0, 0, 0, 0, 0, 0, 0, 0, 0, 0, 0, 0, 0, 0, 0, 0, 0, 0, 0, 0, 0, 0] 0 false 0)
def anf {ρ : Type} := shut (apl (ρ := ρ))
theorem ay8 {ρ : Type} (a : Int) (k : Int → (List Int) → Int → Bool → Int → Option ρ) : anf a k = apl a k := by unfold anf; rw [bq]

abbrev b43 (ρ : Type) := Int → Int → (List Int) → (List Int) → Option ρ
def ad6 {ρ : Type} (d a : Int) (c b : List Int) (nx e : b43 ρ) : Option ρ := br (decide (a < (168 : Int))) (br (bits BinOp.and IntKind.u64 d (1 : Int) == (1 : Int)) (br (decide ((0 : Int) ≤ IntKind.i64.wrap (a.tdiv (7 : Int)))) (br (decide (IntKind.i64.wrap (a.tdiv (7 : Int)) < (↑24 : Int))) (br (decide (a.tmod (7 : Int) < (0 : Int))) none (br (decide (IntKind.u64.wrap (IntKind.u64.wrap ((1 : Int) * (2 : Int) ^ min (a.tmod (7 : Int)).toNat 64) - (1 : Int)) < (0 : Int))) none (br (decide ((0 : Int) ≤ IntKind.i64.wrap (a.tdiv (7 : Int)))) (br (decide (IntKind.i64.wrap (a.tdiv (7 : Int)) < (↑24 : Int))) (br (decide (IntKind.u64.wrap (d * (2 : Int)) ≥ (256 : Int))) (nx (bits BinOp.xor IntKind.u64 (bits BinOp.and IntKind.u64 (IntKind.u64.wrap (d * (2 : Int))) (255 : Int)) (113 : Int)) (IntKind.i64.wrap (a + (1 : Int))) c (b.set (IntKind.i64.wrap (a.tdiv (7 : Int))).toNat (bits BinOp.or IntKind.u64 (b.getD (IntKind.i64.wrap (a.tdiv (7 : Int))).toNat (0 : Int)) (IntKind.u64.wrap ((1 : Int) * (2 : Int) ^ min (IntKind.u64.wrap (IntKind.u64.wrap ((1 : Int) * (2 : Int) ^ min (a.tmod (7 : Int)).toNat 64) - (1 : Int))).toNat 64))))) (nx (IntKind.u64.wrap (d * (2 : Int))) (IntKind.i64.wrap (a + (1 : Int))) c (b.set (IntKind.i64.wrap (a.tdiv (7 : Int))).toNat (bits BinOp.or IntKind.u64 (b.getD (IntKind.i64.wrap (a.tdiv (7 : Int))).toNat (0 : Int)) (IntKind.u64.wrap ((1 : Int) * (2 : Int) ^ min (IntKind.u64.wrap (IntKind.u64.wrap ((1 : Int) * (2 : Int) ^ min (a.tmod (7 : Int)).toNat 64) - (1 : Int))).toNat 64)))))) none) none))) none) none) (br (decide (IntKind.u64.wrap (d * (2 : Int)) ≥ (256 : Int))) (nx (bits BinOp.xor IntKind.u64 (bits BinOp.and IntKind.u64 (IntKind.u64.wrap (d * (2 : Int))) (255 : Int)) (113 : Int)) (IntKind.i64.wrap (a + (1 : Int))) c b) (nx (IntKind.u64.wrap (d * (2 : Int))) (IntKind.i64.wrap (a + (1 : Int))) c b))) (e d a c b)
abbrev bs1 := Int × Int × (List Int) × (List Int)
abbrev b3n := bs1
def bvc {ρ : Type} (f : bs1 → Option ρ) : b43 ρ := fun c d a b => f (c, d, a, b)
def bsm {ρ : Type} : adk bs1 b3n ρ := fun (c, d, a, b) next ex => ad6 c d a b (bvc next) (bvc ex)
def b0w {ρ : Type} := shut (lp (bsm (ρ := ρ)))
theorem b9n {ρ : Type} : b0w (ρ := ρ) = lp bsm := bq _
def bsh {ρ : Type} (f : adj bs1 b3n ρ) (c d : Int) (a b : List Int) (e : b43 ρ) : Option ρ := f (c, d, a, b) (fun (c, d, a, b) => e c d a b)
def ad7 {ρ : Type} := bsh (lp (bsm (ρ := ρ)))
def alr {ρ : Type} := bsh (b0w (ρ := ρ))
theorem aei {ρ : Type} : alr (ρ := ρ) = ad7 := congrArg bsh b9n
def afq {ρ : Type} (k : (List Int) → Option ρ) : Option ρ := alr 1 0 [0, 0, 0, 0, 0, 0, 0, 0, 0, 0, 0, 0, 0, 0, 0, 0, 0, 0, 0, 0, 0, 0, 0, 0] [0, 0, 0, 0, 0, 0, 0, 0, 0, 0, 0, 0, 0, 0, 0, 0, 0, 0, 0, 0, 0, 0, 0, 0] fun b c d a => k a
def yu {ρ : Type} := shut (afq (ρ := ρ))
theorem alo {ρ : Type}  (k : (List Int) → Option ρ) : yu  k = afq  k := by unfold yu; rw [bq]

def abh {ρ : Type} (b a : Int) (k : Int → Option ρ) : Option ρ := br (decide (a.tmod (64 : Int) < (0 : Int))) none (br (decide (IntKind.i64.wrap ((64 : Int) - a.tmod (64 : Int)) < (0 : Int))) none (k (bits BinOp.or IntKind.u64 (IntKind.u64.wrap (b * (2 : Int) ^ min (a.tmod (64 : Int)).toNat 64)) (b.fdiv ((2 : Int) ^ min (IntKind.i64.wrap ((64 : Int) - a.tmod (64 : Int))).toNat 64)))))
def ae5 {ρ : Type} := shut (abh (ρ := ρ))
theorem aej {ρ : Type} (a : Int) (b : Int) (k : Int → Option ρ) : ae5 a b k = abh a b k := by unfold ae5; rw [bq]

abbrev b4o (ρ : Type) := Int → Int → Int → (List Int) → (List Int) → (List Int) → Option ρ
def akt {ρ : Type} (b a d : Int) (c e f : List Int) (nx g : b4o ρ) : Option ρ := br (decide (d < 24)) (br (decide (0 ≤ IntKind.i64.wrap (b + IntKind.i64.wrap (5 * a)))) (br (decide (IntKind.i64.wrap (b + IntKind.i64.wrap (5 * a)) < (↑25 : Int))) (ae5 (c.getD (IntKind.i64.wrap (b + IntKind.i64.wrap (5 * a))).toNat 0) (IntKind.i64.wrap ((IntKind.i64.wrap (IntKind.i64.wrap (d + 1) * IntKind.i64.wrap (d + 2))).tdiv 2)) fun h => br (decide (0 ≤ IntKind.i64.wrap (a + IntKind.i64.wrap (5 * (IntKind.i64.wrap (IntKind.i64.wrap (2 * b) + IntKind.i64.wrap (3 * a))).tmod 5)))) (br (decide (IntKind.i64.wrap (a + IntKind.i64.wrap (5 * (IntKind.i64.wrap (IntKind.i64.wrap (2 * b) + IntKind.i64.wrap (3 * a))).tmod 5)) < (↑25 : Int))) (nx a ((IntKind.i64.wrap (IntKind.i64.wrap (2 * b) + IntKind.i64.wrap (3 * a))).tmod 5) (IntKind.i64.wrap (d + 1)) c e (f.set (IntKind.i64.wrap (a + IntKind.i64.wrap (5 * (IntKind.i64.wrap (IntKind.i64.wrap (2 * b) + IntKind.i64.wrap (3 * a))).tmod 5))).toNat h)) none) none) none) none) (g b a d c e f)
abbrev bx8 := Int × Int × Int × (List Int) × (List Int) × (List Int)
abbrev b23 := bx8
def bvy {ρ : Type} (f : bx8 → Option ρ) : b4o ρ := fun d e g a b c => f (d, e, g, a, b, c)
def bsu {ρ : Type} : adk bx8 b23 ρ := fun (d, e, f, a, b, c) next ex => akt d e f a b c (bvy next) (bvy ex)
def b0f {ρ : Type} := shut (lp (bsu (ρ := ρ)))
theorem cac {ρ : Type} : b0f (ρ := ρ) = lp bsu := bq _
def bsq {ρ : Type} (f : adj bx8 b23 ρ) (d e g : Int) (a b c : List Int) (h : b4o ρ) : Option ρ := f (d, e, g, a, b, c) (fun (d, e, g, a, b, c) => h d e g a b c)
def akv {ρ : Type} := bsq (lp (bsu (ρ := ρ)))
def awm {ρ : Type} := bsq (b0f (ρ := ρ))
theorem ajp {ρ : Type} : awm (ρ := ρ) = akv := congrArg bsq cac
def anm {ρ : Type} (a : List Int) (k : (List Int) → Option ρ) : Option ρ := awm 1 0 0 a [0, 0, 0, 0, 0, 0, 0, 0, 0, 0, 0, 0, 0, 0, 0, 0, 0, 0, 0, 0, 0, 0, 0, 0, 0] ([(0 : Int), (0 : Int), (0 : Int), (0 : Int), (0 : Int), (0 : Int), (0 : Int), (0 : Int), (0 : Int), (0 : Int), (0 : Int), (0 : Int), (0 : Int), (0 : Int), (0 : Int), (0 : Int), (0 : Int), (0 : Int), (0 : Int), (0 : Int), (0 : Int), (0 : Int), (0 : Int), (0 : Int), (0 : Int)].set 0 (a.getD 0 0)) fun c d e f g b => k b
def ahq {ρ : Type} := shut (anm (ρ := ρ))
theorem axk {ρ : Type} (a : List Int) (k : (List Int) → Option ρ) : ahq a k = anm a k := by unfold ahq; rw [bq]

abbrev byb (ρ : Type) := Int → (List Int) → (List Int) → (List Int) → Option ρ
def ahl {ρ : Type} (a : Int) (b d c : List Int) (nx e : byb ρ) : Option ρ := br (decide (a < 25)) (br (decide (0 ≤ a.tmod 5)) (br (decide (a.tmod 5 < (↑5 : Int))) (br (decide (0 ≤ a)) (br (decide (a < (↑25 : Int))) (br (decide (0 ≤ a.tmod 5)) (br (decide (a.tmod 5 < (↑5 : Int))) (nx (IntKind.i64.wrap (a + 1)) b d (c.set (a.tmod 5).toNat (bits BinOp.xor IntKind.u64 (c.getD (a.tmod 5).toNat 0) (b.getD a.toNat 0)))) none) none) none) none) none) none) (e a b d c)
abbrev bwe := Int × (List Int) × (List Int) × (List Int)
abbrev b3a := bwe
def byd {ρ : Type} (f : bwe → Option ρ) : byb ρ := fun d a b c => f (d, a, b, c)
def bsr {ρ : Type} : adk bwe b3a ρ := fun (d, a, b, c) next ex => ahl d a b c (byd next) (byd ex)
def b3p {ρ : Type} := shut (lp (bsr (ρ := ρ)))
theorem b9v {ρ : Type} : b3p (ρ := ρ) = lp bsr := bq _
def bsk {ρ : Type} (f : adj bwe b3a ρ) (d : Int) (a b c : List Int) (e : byb ρ) : Option ρ := f (d, a, b, c) (fun (d, a, b, c) => e d a b c)
def aht {ρ : Type} := bsk (lp (bsr (ρ := ρ)))
def aqp {ρ : Type} := bsk (b3p (ρ := ρ))
theorem ag7 {ρ : Type} : aqp (ρ := ρ) = aht := congrArg bsk b9v
abbrev zc39 (ρ : Type) := Int → (List Int) → (List Int) → (List Int) → Option ρ
def ahr {ρ : Type} (a : Int) (b d c : List Int) (nx e : byb ρ) : Option ρ := br (decide (a < 25)) (br (decide (0 ≤ a)) (br (decide (a < (↑25 : Int))) (br (decide (0 ≤ (IntKind.i64.wrap (a + 4)).tmod 5)) (br (decide ((IntKind.i64.wrap (a + 4)).tmod 5 < (↑5 : Int))) (br (decide (0 ≤ (IntKind.i64.wrap (a + 1)).tmod 5)) (br (decide ((IntKind.i64.wrap (a + 1)).tmod 5 < (↑5 : Int))) (ae5 (b.getD ((IntKind.i64.wrap (a + 1)).tmod 5).toNat 0) 1 fun f => br (decide (0 ≤ a)) (br (decide (a < (↑25 : Int))) (nx (IntKind.i64.wrap (a + 1)) b d (c.set a.toNat (bits BinOp.xor IntKind.u64 (bits BinOp.xor IntKind.u64 (c.getD a.toNat 0) (b.getD ((IntKind.i64.wrap (a + 4)).tmod 5).toNat 0)) f))) none) none) none) none) none) none) none) none) (e a b d c)
abbrev bx4 := Int × (List Int) × (List Int) × (List Int)
abbrev b7g := bx4
def bs2 {ρ : Type} (f : bx4 → Option ρ) : zc39 ρ := fun d a b c => f (d, a, b, c)
def bsi {ρ : Type} : adk bx4 b7g ρ := fun (d, a, b, c) next ex => ahr d a b c (bs2 next) (bs2 ex)
def b5p {ρ : Type} := shut (lp (bsi (ρ := ρ)))
theorem b9k {ρ : Type} : b5p (ρ := ρ) = lp bsi := bq _
def bsx {ρ : Type} (f : adj bx4 b7g ρ) (d : Int) (a b c : List Int) (e : byb ρ) : Option ρ := f (d, a, b, c) (fun (d, a, b, c) => e d a b c)
def ahs {ρ : Type} := bsx (lp (bsi (ρ := ρ)))
def ar3 {ρ : Type} := bsx (b5p (ρ := ρ))
theorem ag6 {ρ : Type} : ar3 (ρ := ρ) = ahs := congrArg bsx b9k
def ajh {ρ : Type} (a : List Int) (k : (List Int) → Option ρ) : Option ρ := aqp 0 a [0, 0, 0, 0, 0, 0, 0, 0, 0, 0, 0, 0, 0, 0, 0, 0, 0, 0, 0, 0, 0, 0, 0, 0, 0] [0, 0, 0, 0, 0] fun f b c d => ar3 0 d c b fun g h i e => k e
def ads {ρ : Type} := shut (ajh (ρ := ρ))
theorem ar4 {ρ : Type} (a : List Int) (k : (List Int) → Option ρ) : ads a k = ajh a k := by unfold ads; rw [bq]

abbrev b0e (ρ : Type) := Int → Int → (List Int) → (List Int) → (List Int) → (List Int) → Option ρ
def aou {ρ : Type} (f a : Int) (c d e b : List Int) (nx g : b0e ρ) : Option ρ := br (decide (a < 25)) (br (decide (0 ≤ a)) (br (decide (a < (↑25 : Int))) (br (decide (0 ≤ IntKind.i64.wrap (IntKind.i64.wrap (IntKind.i64.wrap (a.tdiv 5) * 5) + (IntKind.i64.wrap (a + 1)).tmod 5))) (br (decide (IntKind.i64.wrap (IntKind.i64.wrap (IntKind.i64.wrap (a.tdiv 5) * 5) + (IntKind.i64.wrap (a + 1)).tmod 5) < (↑25 : Int))) (br (decide (0 ≤ IntKind.i64.wrap (IntKind.i64.wrap (IntKind.i64.wrap (a.tdiv 5) * 5) + (IntKind.i64.wrap (a + 2)).tmod 5))) (br (decide (IntKind.i64.wrap (IntKind.i64.wrap (IntKind.i64.wrap (a.tdiv 5) * 5) + (IntKind.i64.wrap (a + 2)).tmod 5) < (↑25 : Int))) (br (decide (0 ≤ a)) (br (decide (a < (↑25 : Int))) (nx f (IntKind.i64.wrap (a + 1)) c d (e.set a.toNat (bits BinOp.xor IntKind.u64 (b.getD a.toNat 0) (bits BinOp.and IntKind.u64 (bits BinOp.xor IntKind.u64 (b.getD (IntKind.i64.wrap (IntKind.i64.wrap (IntKind.i64.wrap (a.tdiv 5) * 5) + (IntKind.i64.wrap (a + 1)).tmod 5)).toNat 0) 18446744073709551615) (b.getD (IntKind.i64.wrap (IntKind.i64.wrap (IntKind.i64.wrap (a.tdiv 5) * 5) + (IntKind.i64.wrap (a + 2)).tmod 5)).toNat 0)))) b) none) none) none) none) none) none) none) none) (g f a c d e b)
abbrev bvv := Int × Int × (List Int) × (List Int) × (List Int) × (List Int)
abbrev b76 := bvv
def b2o {ρ : Type} (f : bvv → Option ρ) : b0e ρ := fun e g a b c d => f (e, g, a, b, c, d)
def bxc {ρ : Type} : adk bvv b76 ρ := fun (e, f, a, b, c, d) next ex => aou e f a b c d (b2o next) (b2o ex)
def b5c {ρ : Type} := shut (lp (bxc (ρ := ρ)))
theorem b82 {ρ : Type} : b5c (ρ := ρ) = lp bxc := bq _
def by8 {ρ : Type} (f : adj bvv b76 ρ) (e g : Int) (a b c d : List Int) (h : b0e ρ) : Option ρ := f (e, g, a, b, c, d) (fun (e, g, a, b, c, d) => h e g a b c d)
def ao3 {ρ : Type} := by8 (lp (bxc (ρ := ρ)))
def ajo {ρ : Type} := by8 (b5c (ρ := ρ))
theorem asu {ρ : Type} : ajo (ρ := ρ) = ao3 := congrArg by8 b82
abbrev b4k (ρ : Type) := Int → (List Int) → (List Int) → (List Int) → Option ρ
def ajv {ρ : Type} (e : Int) (a b c : List Int) (nx h : b4k ρ) : Option ρ := br (decide (e < 24)) (ads a fun i => ahq i fun j => ajo e 0 c b a j fun d l f k g m => br (decide (0 ≤ d)) (br (decide (d < (↑24 : Int))) (nx (IntKind.i64.wrap (d + 1)) (g.set 0 (bits BinOp.xor IntKind.u64 (g.getD 0 0) (f.getD d.toNat 0))) k f) none) none) (h e a b c)
abbrev bum := Int × (List Int) × (List Int) × (List Int)
abbrev b0l := bum
def b5f {ρ : Type} (f : bum → Option ρ) : b4k ρ := fun d a b c => f (d, a, b, c)
def bs3 {ρ : Type} : adk bum b0l ρ := fun (d, a, b, c) next ex => ajv d a b c (b5f next) (b5f ex)
def b7j {ρ : Type} := shut (lp (bs3 (ρ := ρ)))
theorem b98 {ρ : Type} : b7j (ρ := ρ) = lp bs3 := bq _
def by1 {ρ : Type} (f : adj bum b0l ρ) (d : Int) (a b c : List Int) (e : b4k ρ) : Option ρ := f (d, a, b, c) (fun (d, a, b, c) => e d a b c)
def ao2 {ρ : Type} := by1 (lp (bs3 (ρ := ρ)))
def aov {ρ : Type} := by1 (b7j (ρ := ρ))
theorem atz {ρ : Type} : aov (ρ := ρ) = ao2 := congrArg by1 b98
def aic {ρ : Type} (a : List Int) (k : (List Int) → Option ρ) : Option ρ := yu fun b => aov 0 a [0, 0, 0, 0, 0, 0, 0, 0, 0, 0, 0, 0, 0, 0, 0, 0, 0, 0, 0, 0, 0, 0, 0, 0, 0] b fun d c e f => k c
def oz {ρ : Type} := shut (aic (ρ := ρ))
theorem aop {ρ : Type} (a : List Int) (k : (List Int) → Option ρ) : oz a k = aic a k := by unfold oz; rw [bq]

def apc {ρ : Type} (b : List Int) (a c : Int) (k : (List Int) → Option ρ) : Option ρ := br (decide (0 ≤ IntKind.i64.wrap (a.tdiv 8))) (br (decide (IntKind.i64.wrap (a.tdiv 8) < (↑25 : Int))) (br (decide (IntKind.i64.wrap (8 * a.tmod 8) < 0)) none (br (decide (0 ≤ IntKind.i64.wrap (a.tdiv 8))) (br (decide (IntKind.i64.wrap (a.tdiv 8) < (↑25 : Int))) (k (b.set (IntKind.i64.wrap (a.tdiv 8)).toNat (bits BinOp.xor IntKind.u64 (b.getD (IntKind.i64.wrap (a.tdiv 8)).toNat 0) (IntKind.u64.wrap (IntKind.u64.wrap c * 2 ^ min (IntKind.i64.wrap (8 * a.tmod 8)).toNat 64))))) none) none)) none) none
def aaj {ρ : Type} := shut (apc (ρ := ρ))
theorem azb {ρ : Type} (a : List Int) (b : Int) (c : Int) (k : (List Int) → Option ρ) : aaj a b c k = apc a b c k := by unfold aaj; rw [bq]

abbrev b7h (ρ : Type) := Int → Int → (List Int) → Int → (List Int) → Int → Bool → Int → (List Int) → Int → Bool → Option ρ
def ah5 {ρ : Type} (j k : Int) (b : List Int) (d : Int) (c : List Int) (a : Int) (e : Bool) (f : Int) (g : List Int) (h : Int) (i : Bool) (nx m : b7h ρ) : Option ρ := br (decide ((↑b.length : Int) < j)) (br (a == k) (oz c fun l => br (decide ((b.length + 1) * 1 ≤ 140737488355328)) (nx j k (b ++ [IntKind.u8.wrap ((l.getD 0 0).fdiv (2 ^ 0))]) d l (IntKind.i64.wrap (0 + 1)) e f g h i) none) (br (decide (0 ≤ IntKind.i64.wrap (a.tdiv 8))) (br (decide (IntKind.i64.wrap (a.tdiv 8) < (↑25 : Int))) (br (decide (IntKind.i64.wrap (8 * a.tmod 8) < 0)) none (br (decide ((b.length + 1) * 1 ≤ 140737488355328)) (nx j k (b ++ [IntKind.u8.wrap ((c.getD (IntKind.i64.wrap (a.tdiv 8)).toNat 0).fdiv (2 ^ min (IntKind.i64.wrap (8 * a.tmod 8)).toNat 64))]) d c (IntKind.i64.wrap (a + 1)) e f g h i) none)) none) none)) (m j k b d c a e f g h i)
abbrev bs8 := Int × Int × (List Int) × Int × (List Int) × Int × Bool × Int × (List Int) × Int × Bool
abbrev b6p := bs8
def b6w {ρ : Type} (f : bs8 → Option ρ) : b7h ρ := fun k l j a b c d e g h i => f (k, l, j, a, b, c, d, e, g, h, i)
def bxs {ρ : Type} : adk bs8 b6p ρ := fun (j, k, i, a, b, c, d, e, f, g, h) next ex => ah5 j k i a b c d e f g h (b6w next) (b6w ex)
def b7p {ρ : Type} := shut (lp (bxs (ρ := ρ)))
theorem cad {ρ : Type} : b7p (ρ := ρ) = lp bxs := bq _
def by7 {ρ : Type} (f : adj bs8 b6p ρ) (k l : Int) (j : List Int) (a : Int) (b : List Int) (c : Int) (d : Bool) (e : Int) (g : List Int) (h : Int) (i : Bool) (m : b7h ρ) : Option ρ := f (k, l, j, a, b, c, d, e, g, h, i) (fun (k, l, j, a, b, c, d, e, g, h, i) => m k l j a b c d e g h i)
def am7 {ρ : Type} := by7 (lp (bxs (ρ := ρ)))
def aaf {ρ : Type} := by7 (b7p (ρ := ρ))
theorem aqr {ρ : Type} : aaf (ρ := ρ) = am7 := congrArg by7 cad
def aik {ρ : Type} (a : Int) (b : List Int) (c : Int) (d : Bool) (f : Int) (k : Int → (List Int) → Int → Bool → (List Int) → Option ρ) : Option ρ := br (decide (f < 0)) (k a b c d []) (abj a fun e => br (!d) (br (a == 4) (aaj b c 6 fun G => aaj G (IntKind.i64.wrap (e - 1)) 128 fun H => oz H fun I => aaf f e [] a I 0 true 0 [0, 0, 0, 0, 0, 0, 0, 0, 0, 0, 0, 0, 0, 0, 0, 0, 0, 0, 0, 0, 0, 0, 0, 0, 0] 0 false fun q4 q5 J M N O g Q U W Z => k M N O g J) (br (a == 5) (aaj b c 6 fun h => aaj h (IntKind.i64.wrap (e - 1)) 128 fun i => oz i fun j => aaf f e [] a j 0 true 0 [0, 0, 0, 0, 0, 0, 0, 0, 0, 0, 0, 0, 0, 0, 0, 0, 0, 0, 0, 0, 0, 0, 0, 0, 0] 0 false fun aa ab l m n o p ac ad ae af => k m n o p l) (aaj b c 31 fun q => aaj q (IntKind.i64.wrap (e - 1)) 128 fun r => oz r fun s => aaf f e [] a s 0 true 0 [0, 0, 0, 0, 0, 0, 0, 0, 0, 0, 0, 0, 0, 0, 0, 0, 0, 0, 0, 0, 0, 0, 0, 0, 0] 0 false fun ag ah t u v w y ai aj ak al => k u v w y t))) (aaf f e [] a b c d 0 [0, 0, 0, 0, 0, 0, 0, 0, 0, 0, 0, 0, 0, 0, 0, 0, 0, 0, 0, 0, 0, 0, 0, 0, 0] 0 false fun am an z A B C F ao ap aq ar => k A B C F z))
def aai {ρ : Type} := shut (aik (ρ := ρ))
theorem aoi {ρ : Type} (b : Int) (a : List Int) (d : Int) (c : Bool) (e : Int) (k : Int → (List Int) → Int → Bool → (List Int) → Option ρ) : aai b a d c e k = aik b a d c e k := by unfold aai; rw [bq]

abbrev b6t (ρ : Type) := (List Int) → Int → Int → (List Int) → Int → Bool → Int → (List Int) → Int → Bool → Option ρ
def ali {ρ : Type} (i : List Int) (c a : Int) (j : List Int) (b : Int) (d : Bool) (e : Int) (f : List Int) (g : Int) (h : Bool) (nx l : b6t ρ) : Option ρ := br (decide (c < (↑i.length : Int))) (br (decide (0 ≤ c)) (br (decide (c < (↑i.length : Int))) (aaj j b (i.getD c.toNat 0) fun k => abj a fun m => br (IntKind.i64.wrap (b + 1) == m) (oz k fun n => nx i (IntKind.i64.wrap (c + 1)) a n 0 d e f g h) (nx i (IntKind.i64.wrap (c + 1)) a k (IntKind.i64.wrap (b + 1)) d e f g h)) none) none) (l i c a j b d e f g h)
abbrev buh := (List Int) × Int × Int × (List Int) × Int × Bool × Int × (List Int) × Int × Bool
abbrev b05 := buh
def b5n {ρ : Type} (f : buh → Option ρ) : b6t ρ := fun j k a b c d e g h i => f (j, k, a, b, c, d, e, g, h, i)
def bue {ρ : Type} : adk buh b05 ρ := fun (i, j, a, b, c, d, e, f, g, h) next ex => ali i j a b c d e f g h (b5n next) (b5n ex)
def b0q {ρ : Type} := shut (lp (bue (ρ := ρ)))
theorem b8d {ρ : Type} : b0q (ρ := ρ) = lp bue := bq _
def bzg {ρ : Type} (f : adj buh b05 ρ) (j : List Int) (k a : Int) (b : List Int) (c : Int) (d : Bool) (e : Int) (g : List Int) (h : Int) (i : Bool) (l : b6t ρ) : Option ρ := f (j, k, a, b, c, d, e, g, h, i) (fun (j, k, a, b, c, d, e, g, h, i) => l j k a b c d e g h i)
def aqz {ρ : Type} := bzg (lp (bue (ρ := ρ)))
def arv {ρ : Type} := bzg (b0q (ρ := ρ))
theorem avh {ρ : Type} : arv (ρ := ρ) = aqz := congrArg bzg b8d
def ajq {ρ : Type} (c : Int) (a : List Int) (d : Int) (b : Bool) (e : List Int) (k : Int → (List Int) → Int → Bool → Option ρ) : Option ρ := br b (k c a d b) (arv e 0 c a d b 0 [0, 0, 0, 0, 0, 0, 0, 0, 0, 0, 0, 0, 0, 0, 0, 0, 0, 0, 0, 0, 0, 0, 0, 0, 0] 0 false fun j l f g h i m n o p => k f g h i)
def abb {ρ : Type} := shut (ajq (ρ := ρ))
theorem arj {ρ : Type} (b : Int) (a : List Int) (d : Int) (c : Bool) (e : List Int) (k : Int → (List Int) → Int → Bool → Option ρ) : abb b a d c e k = ajq b a d c e k := by unfold abb; rw [bq]

def apq {ρ : Type} (d : Int) (e : List Int) (a : Int) (k : (List Int) → Int → Option ρ) : Option ρ := anf d fun f g h i b => br (b != 0) (k [] b) (br (decide (a < 0)) (k [] 8) (br (decide (a > 16777216)) (k [] 8) (abb f g h i e fun j l m n => aai j l m n a fun r o p q c => k c 0)))
def aip {ρ : Type} := shut (apq (ρ := ρ))
theorem bap {ρ : Type} (a : Int) (b : List Int) (c : Int) (k : (List Int) → Int → Option ρ) : aip a b c k = apq a b c k := by unfold aip; rw [bq]

def apx {ρ : Type} (a : Int) (k : Int → (List Int) → (List Int) → Int → Int → Option ρ) : Option ρ := br (a == 1) (k a [1779033703, 3144134277, 1013904242, 2773480762, 1359893119, 2600822924, 528734635, 1541459225] [] 0 0) (br (a == 2) (k a [14680500436340154072, 7105036623409894663, 10473403895298186519, 1526699215303891257, 7436329637833083697, 10282925794625328401, 15784041429090275239, 5167115440072839076] [] 0 0) (br (a == 3) (k a [7640891576956012808, 13503953896175478587, 4354685564936845355, 11912009170470909681, 5840696475078001361, 11170449401992604703, 2270897969802886507, 6620516959819538809] [] 0 0) (k 0 [0, 0, 0, 0, 0, 0, 0, 0] [] 0 9)))
def ait {ρ : Type} := shut (apx (ρ := ρ))
theorem bal {ρ : Type} (a : Int) (k : Int → (List Int) → (List Int) → Int → Int → Option ρ) : ait a k = apx a k := by unfold ait; rw [bq]

def alc {ρ : Type} (a : Int) (k : Int → Option ρ) : Option ρ := br (a == 1) (k 64) (k 128)
def zw {ρ : Type} := shut (alc (ρ := ρ))
theorem auz {ρ : Type} (a : Int) (k : Int → Option ρ) : zw a k = alc a k := by unfold zw; rw [bq]

def als {ρ : Type} (k : (List Int) → Option ρ) : Option ρ := k [1116352408, 1899447441, 3049323471, 3921009573, 961987163, 1508970993, 2453635748, 2870763221, 3624381080, 310598401, 607225278, 1426881987, 1925078388, 2162078206, 2614888103, 3248222580, 3835390401, 4022224774, 264347078, 604807628, 770255983, 1249150122, 1555081692, 1996064986, 2554220882, 2821834349, 2952996808, 3210313671, 3336571891, 3584528711, 113926993, 338241895, 666307205, 773529912, 1294757372, 1396182291, 1695183700, 1986661051, 2177026350, 2456956037, 2730485921, 2820302411, 3259730800, 3345764771, 3516065817, 3600352804, 4094571909, 275423344, 430227734, 506948616, 659060556, 883997877, 958139571, 1322822218, 1537002063, 1747873779, 1955562222, 2024104815, 2227730452, 2361852424, 2428436474, 2756734187, 3204031479, 3329325298]
def zf {ρ : Type} := shut (als (ρ := ρ))
theorem aia {ρ : Type}  (k : (List Int) → Option ρ) : zf  k = als  k := by unfold zf; rw [bq]

def alz {ρ : Type} (k : (List Int) → Option ρ) : Option ρ := k [4794697086780616226, 8158064640168781261, 13096744586834688815, 16840607885511220156, 4131703408338449720, 6480981068601479193, 10538285296894168987, 12329834152419229976, 15566598209576043074, 1334009975649890238, 2608012711638119052, 6128411473006802146, 8268148722764581231, 9286055187155687089, 11230858885718282805, 13951009754708518548, 16472876342353939154, 17275323862435702243, 1135362057144423861, 2597628984639134821, 3308224258029322869, 5365058923640841347, 6679025012923562964, 8573033837759648693, 10970295158949994411, 12119686244451234320, 12683024718118986047, 13788192230050041572, 14330467153632333762, 15395433587784984357, 489312712824947311, 1452737877330783856, 2861767655752347644, 3322285676063803686, 5560940570517711597, 5996557281743188959, 7280758554555802590, 8532644243296465576, 9350256976987008742, 10552545826968843579, 11727347734174303076, 12113106623233404929, 14000437183269869457, 14369950271660146224, 15101387698204529176, 15463397548674623760, 17586052441742319658, 1182934255886127544, 1847814050463011016, 2177327727835720531, 2830643537854262169, 3796741975233480872, 4115178125766777443, 5681478168544905931, 6601373596472566643, 7507060721942968483, 8399075790359081724, 8693463985226723168, 9568029438360202098, 10144078919501101548, 10430055236837252648, 11840083180663258601, 13761210420658862357, 14299343276471374635, 14566680578165727644, 15097957966210449927, 16922976911328602910, 17689382322260857208, 500013540394364858, 748580250866718886, 1242879168328830382, 1977374033974150939, 2944078676154940804, 3659926193048069267, 4368137639120453308, 4836135668995329356, 5532061633213252278, 6448918945643986474, 6902733635092675308, 7801388544844847127]
def zi {ρ : Type} := shut (alz (ρ := ρ))
theorem aiv {ρ : Type}  (k : (List Int) → Option ρ) : zi  k = alz  k := by unfold zi; rw [bq]

abbrev b2u (ρ : Type) := (List Int) → Int → Int → Option ρ
def as8 {ρ : Type} (b : List Int) (c a : Int) (nx d : b2u ρ) : Option ρ := br (decide (a < (↑b.length : Int))) (br (decide (0 ≤ a)) (br (decide (a < (↑b.length : Int))) (nx b (IntKind.u64.wrap (IntKind.u64.wrap (c * 256) + IntKind.u64.wrap (b.getD a.toNat 0))) (IntKind.i64.wrap (a + 1))) none) none) (d b c a)
abbrev bv6 := (List Int) × Int × Int
abbrev b1y := bv6
def b7r {ρ : Type} (f : bv6 → Option ρ) : b2u ρ := fun a b c => f (a, b, c)
def bw0 {ρ : Type} : adk bv6 b1y ρ := fun (a, b, c) next ex => as8 a b c (b7r next) (b7r ex)
def b5w {ρ : Type} := shut (lp (bw0 (ρ := ρ)))
theorem b8r {ρ : Type} : b5w (ρ := ρ) = lp bw0 := bq _
def bz2 {ρ : Type} (f : adj bv6 b1y ρ) (a : List Int) (b c : Int) (d : b2u ρ) : Option ρ := f (a, b, c) (fun (a, b, c) => d a b c)
def az5 {ρ : Type} := bz2 (lp (bw0 (ρ := ρ)))
def azl {ρ : Type} := bz2 (b5w (ρ := ρ))
theorem bbr {ρ : Type} : azl (ρ := ρ) = az5 := congrArg bz2 b8r
def aqk {ρ : Type} (a : List Int) (k : Int → Option ρ) : Option ρ := azl a 0 0 fun c b d => k b
def ad2 {ρ : Type} := shut (aqk (ρ := ρ))
theorem ay6 {ρ : Type} (a : List Int) (k : Int → Option ρ) : ad2 a k = aqk a k := by unfold ad2; rw [bq]

def afg {ρ : Type} (b a : Int) (c : Bool) (k : Int → Option ρ) : Option ρ := br c (br (decide (a < 0)) none (br (decide (IntKind.i64.wrap (64 - a) < 0)) none (k (bits BinOp.or IntKind.u64 (b.fdiv (2 ^ min a.toNat 64)) (IntKind.u64.wrap (b * 2 ^ min (IntKind.i64.wrap (64 - a)).toNat 64)))))) (br (decide (a < 0)) none (br (decide (IntKind.i64.wrap (32 - a) < 0)) none (k (bits BinOp.or IntKind.u64 (b.fdiv (2 ^ min a.toNat 64)) (bits BinOp.and IntKind.u64 (IntKind.u64.wrap (b * 2 ^ min (IntKind.i64.wrap (32 - a)).toNat 64)) 4294967295)))))
def zu {ρ : Type} := shut (afg (ρ := ρ))
theorem ai2 {ρ : Type} (a : Int) (b : Int) (c : Bool) (k : Int → Option ρ) : zu a b c k = afg a b c k := by unfold zu; rw [bq]

def adg {ρ : Type} (a d e c : Int) (f b : Bool) (k : Int → Option ρ) : Option ρ := br (decide (c < 0)) none (br (!f) (zu a c b fun g => zu a d b fun h => zu a e b fun i => k (bits BinOp.xor IntKind.u64 (bits BinOp.xor IntKind.u64 h i) g)) (zu a d b fun j => zu a e b fun l => k (bits BinOp.xor IntKind.u64 (bits BinOp.xor IntKind.u64 j l) (a.fdiv (2 ^ min c.toNat 64)))))
def zo {ρ : Type} := shut (adg (ρ := ρ))
theorem afr {ρ : Type} (a : Int) (b : Int) (c : Int) (d : Int) (e : Bool) (f : Bool) (k : Int → Option ρ) : zo a b c d e f k = adg a b c d e f k := by unfold zo; rw [bq]

abbrev b1q (ρ : Type) := (List Int) → Bool → Int → Int → Int → Int → (List Int) → Option ρ
def agh {ρ : Type} (d : List Int) (f : Bool) (g e c a : Int) (b : List Int) (nx h : b1q ρ) : Option ρ := br (decide (a < g)) (br (decide (a < 16)) (br (decide (0 ≤ IntKind.i64.wrap (a * c))) (br (decide (IntKind.i64.wrap (a * c) ≤ IntKind.i64.wrap (IntKind.i64.wrap (a * c) + c))) (br (decide (IntKind.i64.wrap (IntKind.i64.wrap (a * c) + c) ≤ (↑d.length : Int))) (ad2 (List.drop (IntKind.i64.wrap (a * c)).toNat (List.take (IntKind.i64.wrap (IntKind.i64.wrap (a * c) + c)).toNat d)) fun i => br (decide ((b.length + 1) * 8 ≤ 140737488355328)) (nx d f g e c (IntKind.i64.wrap (a + 1)) (b ++ [i])) none) none) none) none) (br (decide (0 ≤ IntKind.i64.wrap (a - 15))) (br (decide (IntKind.i64.wrap (a - 15) < (↑b.length : Int))) (zo (b.getD (IntKind.i64.wrap (a - 15)).toNat 0) 7 18 3 true false fun j => br (decide (0 ≤ IntKind.i64.wrap (a - 2))) (br (decide (IntKind.i64.wrap (a - 2) < (↑b.length : Int))) (zo (b.getD (IntKind.i64.wrap (a - 2)).toNat 0) 17 19 10 true false fun k => br f (br (decide (0 ≤ IntKind.i64.wrap (a - 15))) (br (decide (IntKind.i64.wrap (a - 15) < (↑b.length : Int))) (zo (b.getD (IntKind.i64.wrap (a - 15)).toNat 0) 1 8 7 true true fun l => br (decide (0 ≤ IntKind.i64.wrap (a - 2))) (br (decide (IntKind.i64.wrap (a - 2) < (↑b.length : Int))) (zo (b.getD (IntKind.i64.wrap (a - 2)).toNat 0) 19 61 6 true true fun m => br (decide (0 ≤ IntKind.i64.wrap (a - 7))) (br (decide (IntKind.i64.wrap (a - 7) < (↑b.length : Int))) (br (decide (0 ≤ IntKind.i64.wrap (a - 16))) (br (decide (IntKind.i64.wrap (a - 16) < (↑b.length : Int))) (br (decide ((b.length + 1) * 8 ≤ 140737488355328)) (nx d f g e c (IntKind.i64.wrap (a + 1)) (b ++ [bits BinOp.and IntKind.u64 (IntKind.u64.wrap (IntKind.u64.wrap (IntKind.u64.wrap (m + b.getD (IntKind.i64.wrap (a - 7)).toNat 0) + l) + b.getD (IntKind.i64.wrap (a - 16)).toNat 0)) e])) none) none) none) none) none) none) none) none) none) (br (decide (0 ≤ IntKind.i64.wrap (a - 7))) (br (decide (IntKind.i64.wrap (a - 7) < (↑b.length : Int))) (br (decide (0 ≤ IntKind.i64.wrap (a - 16))) (br (decide (IntKind.i64.wrap (a - 16) < (↑b.length : Int))) (br (decide ((b.length + 1) * 8 ≤ 140737488355328)) (nx d f g e c (IntKind.i64.wrap (a + 1)) (b ++ [bits BinOp.and IntKind.u64 (IntKind.u64.wrap (IntKind.u64.wrap (IntKind.u64.wrap (k + b.getD (IntKind.i64.wrap (a - 7)).toNat 0) + j) + b.getD (IntKind.i64.wrap (a - 16)).toNat 0)) e])) none) none) none) none) none)) none) none) none) none)) (h d f g e c a b)
abbrev bs6 := (List Int) × Bool × Int × Int × Int × Int × (List Int)
abbrev b1o := bs6
def bzw {ρ : Type} (f : bs6 → Option ρ) : b1q ρ := fun b c d e g a h => f (b, c, d, e, g, a, h)
def bsf {ρ : Type} : adk bs6 b1o ρ := fun (b, c, d, e, f, a, g) next ex => agh b c d e f a g (bzw next) (bzw ex)
def b3v {ρ : Type} := shut (lp (bsf (ρ := ρ)))
theorem b83 {ρ : Type} : b3v (ρ := ρ) = lp bsf := bq _
def byj {ρ : Type} (f : adj bs6 b1o ρ) (b : List Int) (c : Bool) (d e g a : Int) (h : List Int) (i : b1q ρ) : Option ρ := f (b, c, d, e, g, a, h) (fun (b, c, d, e, g, a, h) => i b c d e g a h)
def anv {ρ : Type} := byj (lp (bsf (ρ := ρ)))
def amo {ρ : Type} := byj (b3v (ρ := ρ))
theorem am1 {ρ : Type} : amo (ρ := ρ) = anv := congrArg byj b83
def ahm {ρ : Type} (b : List Int) (a : Bool) (c d : Int) (k : (List Int) → Option ρ) : Option ρ := br a (amo b a c d 8 0 [] fun j l m n o p f => k f) (amo b a c d 4 0 [] fun q r s g h i e => k e)
def acv {ρ : Type} := shut (ahm (ρ := ρ))
theorem ana {ρ : Type} (a : List Int) (b : Bool) (c : Int) (d : Int) (k : (List Int) → Option ρ) : acv a b c d k = ahm a b c d k := by unfold acv; rw [bq]

abbrev b56 (ρ : Type) := Bool → Int → Int → Int → (List Int) → (List Int) → (List Int) → (List Int) → (List Int) → (List Int) → Option ρ
def aff {ρ : Type} (i : Bool) (j c b : Int) (g h d e f a : List Int) (nx m : b56 ρ) : Option ρ := br (decide (b < j)) (zo (a.getD 0 0) 2 13 22 false false fun n => zo (a.getD 4 0) 6 11 25 false false fun k => br i (zo (a.getD 0 0) 28 34 39 false true fun o => zo (a.getD 4 0) 14 18 41 false true fun l => br (decide (0 ≤ b)) (br (decide (b < (↑80 : Int))) (br (decide (0 ≤ b)) (br (decide (b < (↑f.length : Int))) (nx i j c (IntKind.i64.wrap (b + 1)) g h d e f [bits BinOp.and IntKind.u64 (IntKind.u64.wrap (IntKind.u64.wrap (IntKind.u64.wrap (IntKind.u64.wrap (IntKind.u64.wrap (a.getD 7 0 + l) + bits BinOp.xor IntKind.u64 (bits BinOp.and IntKind.u64 (a.getD 4 0) (a.getD 5 0)) (bits BinOp.and IntKind.u64 (bits BinOp.xor IntKind.u64 c (a.getD 4 0)) (a.getD 6 0))) + e.getD b.toNat 0) + f.getD b.toNat 0) + IntKind.u64.wrap (o + bits BinOp.xor IntKind.u64 (bits BinOp.xor IntKind.u64 (bits BinOp.and IntKind.u64 (a.getD 0 0) (a.getD 1 0)) (bits BinOp.and IntKind.u64 (a.getD 0 0) (a.getD 2 0))) (bits BinOp.and IntKind.u64 (a.getD 1 0) (a.getD 2 0))))) c, a.getD 0 0, a.getD 1 0, a.getD 2 0, bits BinOp.and IntKind.u64 (IntKind.u64.wrap (a.getD 3 0 + IntKind.u64.wrap (IntKind.u64.wrap (IntKind.u64.wrap (IntKind.u64.wrap (a.getD 7 0 + l) + bits BinOp.xor IntKind.u64 (bits BinOp.and IntKind.u64 (a.getD 4 0) (a.getD 5 0)) (bits BinOp.and IntKind.u64 (bits BinOp.xor IntKind.u64 c (a.getD 4 0)) (a.getD 6 0))) + e.getD b.toNat 0) + f.getD b.toNat 0))) c, a.getD 4 0, a.getD 5 0, a.getD 6 0]) none) none) none) none) (br (decide (0 ≤ b)) (br (decide (b < (↑64 : Int))) (br (decide (0 ≤ b)) (br (decide (b < (↑f.length : Int))) (nx i j c (IntKind.i64.wrap (b + 1)) g h d e f [bits BinOp.and IntKind.u64 (IntKind.u64.wrap (IntKind.u64.wrap (IntKind.u64.wrap (IntKind.u64.wrap (IntKind.u64.wrap (a.getD 7 0 + k) + bits BinOp.xor IntKind.u64 (bits BinOp.and IntKind.u64 (a.getD 4 0) (a.getD 5 0)) (bits BinOp.and IntKind.u64 (bits BinOp.xor IntKind.u64 c (a.getD 4 0)) (a.getD 6 0))) + d.getD b.toNat 0) + f.getD b.toNat 0) + IntKind.u64.wrap (n + bits BinOp.xor IntKind.u64 (bits BinOp.xor IntKind.u64 (bits BinOp.and IntKind.u64 (a.getD 0 0) (a.getD 1 0)) (bits BinOp.and IntKind.u64 (a.getD 0 0) (a.getD 2 0))) (bits BinOp.and IntKind.u64 (a.getD 1 0) (a.getD 2 0))))) c, a.getD 0 0, a.getD 1 0, a.getD 2 0, bits BinOp.and IntKind.u64 (IntKind.u64.wrap (a.getD 3 0 + IntKind.u64.wrap (IntKind.u64.wrap (IntKind.u64.wrap (IntKind.u64.wrap (a.getD 7 0 + k) + bits BinOp.xor IntKind.u64 (bits BinOp.and IntKind.u64 (a.getD 4 0) (a.getD 5 0)) (bits BinOp.and IntKind.u64 (bits BinOp.xor IntKind.u64 c (a.getD 4 0)) (a.getD 6 0))) + d.getD b.toNat 0) + f.getD b.toNat 0))) c, a.getD 4 0, a.getD 5 0, a.getD 6 0]) none) none) none) none)) (m i j c b g h d e f a)
abbrev bu3 := Bool × Int × Int × Int × (List Int) × (List Int) × (List Int) × (List Int) × (List Int) × (List Int)
abbrev b1a := bu3
def by6 {ρ : Type} (f : bu3 → Option ρ) : b56 ρ := fun h i j g a b c d k e => f (h, i, j, g, a, b, c, d, k, e)
def bsg {ρ : Type} : adk bu3 b1a ρ := fun (g, h, i, f, a, b, c, d, j, e) next ex => aff g h i f a b c d j e (by6 next) (by6 ex)
def b61 {ρ : Type} := shut (lp (bsg (ρ := ρ)))
theorem b85 {ρ : Type} : b61 (ρ := ρ) = lp bsg := bq _
def buv {ρ : Type} (f : adj bu3 b1a ρ) (h : Bool) (i j g : Int) (a b c d k e : List Int) (l : b56 ρ) : Option ρ := f (h, i, j, g, a, b, c, d, k, e) (fun (h, i, j, g, a, b, c, d, k, e) => l h i j g a b c d k e)
def ak9 {ρ : Type} := buv (lp (bsg (ρ := ρ)))
def afb {ρ : Type} := buv (b61 (ρ := ρ))
theorem alp {ρ : Type} : afb (ρ := ρ) = ak9 := congrArg buv b85
abbrev b3h (ρ : Type) := Int → Int → (List Int) → (List Int) → (List Int) → Option ρ
def ae3 {ρ : Type} (e a : Int) (b d c : List Int) (nx f : b3h ρ) : Option ρ := br (decide (a < 8)) (br (decide (0 ≤ a)) (br (decide (a < (↑8 : Int))) (br (decide (0 ≤ a)) (br (decide (a < (↑8 : Int))) (br (decide (0 ≤ a)) (br (decide (a < (↑8 : Int))) (nx e (IntKind.i64.wrap (a + 1)) b d (c.set a.toNat (bits BinOp.and IntKind.u64 (IntKind.u64.wrap (c.getD a.toNat 0 + b.getD a.toNat 0)) e))) none) none) none) none) none) none) (f e a b d c)
abbrev bw8 := Int × Int × (List Int) × (List Int) × (List Int)
abbrev b5x := bw8
def bzy {ρ : Type} (f : bw8 → Option ρ) : b3h ρ := fun e d a b c => f (e, d, a, b, c)
def bsv {ρ : Type} : adk bw8 b5x ρ := fun (e, d, a, b, c) next ex => ae3 e d a b c (bzy next) (bzy ex)
def b8b {ρ : Type} := shut (lp (bsv (ρ := ρ)))
theorem b8t {ρ : Type} : b8b (ρ := ρ) = lp bsv := bq _
def bxh {ρ : Type} (f : adj bw8 b5x ρ) (e d : Int) (a b c : List Int) (g : b3h ρ) : Option ρ := f (e, d, a, b, c) (fun (e, d, a, b, c) => g e d a b c)
def aku {ρ : Type} := bxh (lp (bsv (ρ := ρ)))
def ae9 {ρ : Type} := bxh (b8b (ρ := ρ))
theorem alq {ρ : Type} : ae9 (ρ := ρ) = aku := congrArg bxh b8t
def ahp {ρ : Type} (b c : List Int) (a : Bool) (k : (List Int) → Option ρ) : Option ρ := zf fun d => zi fun e => br a (acv c a 80 18446744073709551615 fun o => afb a 80 18446744073709551615 0 b [0, 0, 0, 0, 0, 0, 0, 0] d e o b fun N O p Q q r U s t f => ae9 p 0 q r f fun u v w y g => k g) (acv c a 64 4294967295 fun h => afb a 64 4294967295 0 b [0, 0, 0, 0, 0, 0, 0, 0] d e h b fun z A i B j l C F G m => ae9 i 0 j l m fun H I J M n => k n)
def ad4 {ρ : Type} := shut (ahp (ρ := ρ))
theorem ant {ρ : Type} (a : List Int) (b : List Int) (c : Bool) (k : (List Int) → Option ρ) : ad4 a b c k = ahp a b c k := by unfold ad4; rw [bq]

abbrev b2l (ρ : Type) := Int → (List Int) → Int → (List Int) → (List Int) → Int → Int → (List Int) → Int → Option ρ
def akm {ρ : Type} (a : Int) (b : List Int) (c : Int) (d e : List Int) (f g : Int) (h : List Int) (i : Int) (nx j : b2l ρ) : Option ρ := br (decide ((↑b.length : Int) ≥ a)) (br (decide (0 ≤ a)) (br (decide (a ≤ (↑b.length : Int))) (ad4 d (List.drop 0 (List.take a.toNat b)) (a == 128) fun k => br (decide (0 ≤ a)) (br (decide (a ≤ (↑b.length : Int))) (br (decide ((↑b.length : Int) ≤ (↑b.length : Int))) (nx a (List.drop a.toNat (List.take (↑b.length : Int).toNat b)) c k e f g h i) none) none) none) none) none) (j a b c d e f g h i)
abbrev bw7 := Int × (List Int) × Int × (List Int) × (List Int) × Int × Int × (List Int) × Int
abbrev b1u := bw7
def by5 {ρ : Type} (f : bw7 → Option ρ) : b2l ρ := fun i j a b c d e g h => f (i, j, a, b, c, d, e, g, h)
def bst {ρ : Type} : adk bw7 b1u ρ := fun (h, i, a, b, c, d, e, f, g) next ex => akm h i a b c d e f g (by5 next) (by5 ex)
def b7w {ρ : Type} := shut (lp (bst (ρ := ρ)))
theorem cag {ρ : Type} : b7w (ρ := ρ) = lp bst := bq _
def btn {ρ : Type} (f : adj bw7 b1u ρ) (i : Int) (j : List Int) (a : Int) (b c : List Int) (d e : Int) (g : List Int) (h : Int) (k : b2l ρ) : Option ρ := f (i, j, a, b, c, d, e, g, h) (fun (i, j, a, b, c, d, e, g, h) => k i j a b c d e g h)
def att {ρ : Type} := btn (lp (bst (ρ := ρ)))
def aoa {ρ : Type} := btn (b7w (ρ := ρ))
theorem aqv {ρ : Type} : aoa (ρ := ρ) = att := congrArg btn cag
def aqi {ρ : Type} (a : Int) (c b : List Int) (d : Int) (e : List Int) (k : Int → (List Int) → (List Int) → Int → Option ρ) : Option ρ := zw a fun f => l5 [b, e] fun g => aoa f g a c b (IntKind.u64.wrap (d + IntKind.u64.wrap (↑e.length : Int))) 0 [0, 0, 0, 0, 0, 0, 0, 0] 0 fun n h i j o l p q m => k i j h l
def acp {ρ : Type} := shut (aqi (ρ := ρ))
theorem azs {ρ : Type} (b : Int) (a : List Int) (c : List Int) (d : Int) (e : List Int) (k : Int → (List Int) → (List Int) → Int → Option ρ) : acp b a c d e k = aqi b a c d e k := by unfold acp; rw [bq]

abbrev bqv (ρ : Type) := Int → Int → (List Int) → Int → (List Int) → (List Int) → Int → Option ρ
def as2 {ρ : Type} (c g : Int) (b : List Int) (d : Int) (e a : List Int) (f : Int) (nx h : bqv ρ) : Option ρ := br (decide (c = 0)) none (br ((IntKind.i64.wrap ((↑a.length : Int) + (↑b.length : Int))).tmod c != IntKind.i64.wrap (c - 8)) (br (decide ((b.length + 1) * 1 ≤ 140737488355328)) (nx c g (b ++ [0]) d e a f) none) (h c g b d e a f))
abbrev bt3 := Int × Int × (List Int) × Int × (List Int) × (List Int) × Int
abbrev b72 := bt3
def b6k {ρ : Type} (f : bt3 → Option ρ) : bqv ρ := fun g h e a b c d => f (g, h, e, a, b, c, d)
def bvw {ρ : Type} : adk bt3 b72 ρ := fun (f, g, e, a, b, c, d) next ex => as2 f g e a b c d (b6k next) (b6k ex)
def b2f {ρ : Type} := shut (lp (bvw (ρ := ρ)))
theorem b9p {ρ : Type} : b2f (ρ := ρ) = lp bvw := bq _
def bzf {ρ : Type} (f : adj bt3 b72 ρ) (g h : Int) (e : List Int) (a : Int) (b c : List Int) (d : Int) (i : bqv ρ) : Option ρ := f (g, h, e, a, b, c, d) (fun (g, h, e, a, b, c, d) => i g h e a b c d)
def az0 {ρ : Type} := bzf (lp (bvw (ρ := ρ)))
def atj {ρ : Type} := bzf (b2f (ρ := ρ))
theorem bbg {ρ : Type} : atj (ρ := ρ) = az0 := congrArg bzf b9p
abbrev zc50 (ρ : Type) := Int → Int → (List Int) → Int → (List Int) → (List Int) → Int → Option ρ
def ate {ρ : Type} (c g : Int) (b : List Int) (d : Int) (e a : List Int) (f : Int) (nx h : bqv ρ) : Option ρ := br (decide (c = 0)) none (br ((IntKind.i64.wrap ((↑a.length : Int) + (↑b.length : Int))).tmod c != IntKind.i64.wrap (c - 16)) (br (decide ((b.length + 1) * 1 ≤ 140737488355328)) (nx c g (b ++ [0]) d e a f) none) (h c g b d e a f))
abbrev byc := Int × Int × (List Int) × Int × (List Int) × (List Int) × Int
abbrev b2r := byc
def b6v {ρ : Type} (f : byc → Option ρ) : zc50 ρ := fun g h e a b c d => f (g, h, e, a, b, c, d)
def bw9 {ρ : Type} : adk byc b2r ρ := fun (f, g, e, a, b, c, d) next ex => ate f g e a b c d (b6v next) (b6v ex)
def b7t {ρ : Type} := shut (lp (bw9 (ρ := ρ)))
theorem b91 {ρ : Type} : b7t (ρ := ρ) = lp bw9 := bq _
def bys {ρ : Type} (f : adj byc b2r ρ) (g h : Int) (e : List Int) (a : Int) (b c : List Int) (d : Int) (i : bqv ρ) : Option ρ := f (g, h, e, a, b, c, d) (fun (g, h, e, a, b, c, d) => i g h e a b c d)
def azo {ρ : Type} := bys (lp (bw9 (ρ := ρ)))
def atf {ρ : Type} := bys (b7t (ρ := ρ))
theorem bck {ρ : Type} : atf (ρ := ρ) = azo := congrArg bys b91
abbrev zc51 (ρ : Type) := Int → Int → (List Int) → Int → (List Int) → (List Int) → Int → Option ρ
def apo {ρ : Type} (g c : Int) (a : List Int) (d : Int) (b e : List Int) (f : Int) (nx i : bqv ρ) : Option ρ := br (decide (c < 8)) (br (decide (0 ≤ c)) (br (decide (c < (↑8 : Int))) (wo (b.getD c.toNat 0) (IntKind.i64.wrap (g.tdiv 16)) fun h => br (decide ((a.length + h.length) * 1 ≤ 140737488355328)) (nx g (IntKind.i64.wrap (c + 1)) (a ++ h) d b e f) none) none) none) (i g c a d b e f)
abbrev bwh := Int × Int × (List Int) × Int × (List Int) × (List Int) × Int
abbrev b6l := bwh
def b63 {ρ : Type} (f : bwh → Option ρ) : zc51 ρ := fun g h a b c d e => f (g, h, a, b, c, d, e)
def btc {ρ : Type} : adk bwh b6l ρ := fun (f, g, a, b, c, d, e) next ex => apo f g a b c d e (b63 next) (b63 ex)
def b0z {ρ : Type} := shut (lp (btc (ρ := ρ)))
theorem b8o {ρ : Type} : b0z (ρ := ρ) = lp btc := bq _
def bzi {ρ : Type} (f : adj bwh b6l ρ) (g h : Int) (a : List Int) (b : Int) (c d : List Int) (e : Int) (i : bqv ρ) : Option ρ := f (g, h, a, b, c, d, e) (fun (g, h, a, b, c, d, e) => i g h a b c d e)
def axt {ρ : Type} := bzi (lp (btc (ρ := ρ)))
def akx {ρ : Type} := bzi (b0z (ρ := ρ))
theorem ay2 {ρ : Type} : akx (ρ := ρ) = axt := congrArg bzi b8o
def ap1 {ρ : Type} (a : Int) (c d : List Int) (b : Int) (k : (List Int) → Option ρ) : Option ρ := zw a fun J => atj J (IntKind.u64.wrap (b * 8)) [128] a c d b fun m n o p q r s => br (m == 128) (atf m n [128] p q r s fun M N e t u v i => wo (i.fdiv (2 ^ 61)) 8 fun f => br (decide ((e.length + f.length) * 1 ≤ 140737488355328)) (wo N 8 fun j => br (decide (((e ++ f).length + j.length) * 1 ≤ 140737488355328)) (acp t u v i (e ++ f ++ j) fun w y z A => akx M 0 [] w y z A fun O Q g B U W Z => br (B == 2) (br (decide (48 ≤ (↑g.length : Int))) (k (List.take ((48 : Int) - (0 : Int)).toNat g)) none) (k g)) none) none) (wo n 8 fun l => br (decide ((o.length + l.length) * 1 ≤ 140737488355328)) (acp p q r s (o ++ l) fun C F G H => akx m 0 [] C F G H fun aa ab h I ac ad ae => br (I == 2) (br (decide (48 ≤ (↑h.length : Int))) (k (List.take ((48 : Int) - (0 : Int)).toNat h)) none) (k h)) none)
def ah1 {ρ : Type} := shut (ap1 (ρ := ρ))
theorem bab {ρ : Type} (b : Int) (a : List Int) (c : List Int) (d : Int) (k : (List Int) → Option ρ) : ah1 b a c d k = ap1 b a c d k := by unfold ah1; rw [bq]

def ap2 {ρ : Type} (b : Int) (c : List Int) (k : (List Int) → Int → Option ρ) : Option ρ := ait b fun d e f g a => br (a != 0) (k [] a) (acp d e f g c fun h i j l => ah1 h i j l fun m => k m 0)
def aew {ρ : Type} := shut (ap2 (ρ := ρ))
theorem azd {ρ : Type} (a : Int) (b : List Int) (k : (List Int) → Int → Option ρ) : aew a b k = ap2 a b k := by unfold aew; rw [bq]

def ald {ρ : Type} (a : List Int) (k : (List Int) → Option ρ) : Option ρ := l5 [List.take 1 (List.drop 3 a), List.take 8 (List.drop 8 a), List.take 1 (List.drop 19 a), List.take 12 (List.drop 20 a)] fun b => k b
def aar {ρ : Type} := shut (ald (ρ := ρ))
theorem auu {ρ : Type} (a : List Int) (k : (List Int) → Option ρ) : aar a k = ald a k := by unfold aar; rw [bq]

def apd {ρ : Type} (a h i j l : Int) (b : Bool) (c e d : List Int) (k : (List Int) → Option ρ) : Option ρ := br ((↑c.length : Int) != a) (k []) (mh a h i j l b fun p => br (!p) (k []) (br b (l5 [c, List.take 32 (List.drop 0 e), d] fun q => aip 7 q a fun r z => k r) (br (decide (a > 16)) (br (decide ((↑d.length : Int) > a)) (br (decide (0 ≤ IntKind.i64.wrap (128 - a))) (br (decide (IntKind.i64.wrap (128 - a) ≤ IntKind.i64.wrap (128 - a))) (br (decide (IntKind.i64.wrap (128 - a) * (↑1 : Int) ≤ (↑140737488355328 : Int))) (aar e fun s => l5 [c, List.replicate (IntKind.i64.wrap (128 - a)).toNat (0 : Int), s, d] fun t => aew 3 t fun m A => br (decide (0 ≤ a)) (br (decide (a ≤ (↑m.length : Int))) (k (List.take (a - 0).toNat (List.drop 0 m))) none) none) none) none) none) (br (decide (0 ≤ IntKind.i64.wrap (64 - a))) (br (decide (IntKind.i64.wrap (64 - a) ≤ IntKind.i64.wrap (64 - a))) (br (decide (IntKind.i64.wrap (64 - a) * (↑1 : Int) ≤ (↑140737488355328 : Int))) (aar e fun u => l5 [c, List.replicate (IntKind.i64.wrap (64 - a)).toNat (0 : Int), u, d] fun v => aew 1 v fun f w => br (decide (0 ≤ a)) (br (decide (a ≤ (↑f.length : Int))) (k (List.take (a - 0).toNat (List.drop 0 f))) none) none) none) none) none)) (br (decide (0 ≤ IntKind.i64.wrap (64 - a))) (br (decide (IntKind.i64.wrap (64 - a) ≤ IntKind.i64.wrap (64 - a))) (br (decide (IntKind.i64.wrap (64 - a) * (↑1 : Int) ≤ (↑140737488355328 : Int))) (aar e fun n => l5 [c, List.replicate (IntKind.i64.wrap (64 - a)).toNat (0 : Int), n, d] fun o => aew 1 o fun g y => br (decide (0 ≤ a)) (br (decide (a ≤ (↑g.length : Int))) (k (List.take (a - 0).toNat (List.drop 0 g))) none) none) none) none) none))))
def zl {ρ : Type} := shut (apd (ρ := ρ))
theorem bag {ρ : Type} (b : Int) (c : Int) (d : Int) (e : Int) (f : Int) (a : Bool) (g : List Int) (h : List Int) (i : List Int) (k : (List Int) → Option ρ) : zl b c d e f a g h i k = apd b c d e f a g h i k := by unfold zl; rw [bq]

abbrev b3d (ρ : Type) := (List Int) → Int → (List Int) → Int → Int → Int → Int → Int → Int → Bool → (List Int) → Option ρ
def anr {ρ : Type} (k : List Int) (i : Int) (j : List Int) (h a b c d e : Int) (f : Bool) (g : List Int) (nx l : b3d ρ) : Option ρ := br (decide (h < i)) (jm g 5 (IntKind.u64.wrap h) fun m => zl a b c d e f j m k fun n => nx n i j (IntKind.u32.wrap (h + 1)) a b c d e f g) (l k i j h a b c d e f g)
abbrev bv7 := (List Int) × Int × (List Int) × Int × Int × Int × Int × Int × Int × Bool × (List Int)
abbrev b4m := bv7
def b70 {ρ : Type} (f : bv7 → Option ρ) : b3d ρ := fun j k l i a b c d e g h => f (j, k, l, i, a, b, c, d, e, g, h)
def buo {ρ : Type} : adk bv7 b4m ρ := fun (i, j, k, h, a, b, c, d, e, f, g) next ex => anr i j k h a b c d e f g (b70 next) (b70 ex)
def b3b {ρ : Type} := shut (lp (buo (ρ := ρ)))
theorem b9q {ρ : Type} : b3b (ρ := ρ) = lp buo := bq _
def bzs {ρ : Type} (f : adj bv7 b4m ρ) (j : List Int) (k : Int) (l : List Int) (i a b c d e : Int) (g : Bool) (h : List Int) (m : b3d ρ) : Option ρ := f (j, k, l, i, a, b, c, d, e, g, h) (fun (j, k, l, i, a, b, c, d, e, g, h) => m j k l i a b c d e g h)
def aup {ρ : Type} := bzs (lp (buo (ρ := ρ)))
def au0 {ρ : Type} := bzs (b3b (ρ := ρ))
theorem axf {ρ : Type} : au0 (ρ := ρ) = aup := congrArg bzs b9q
def alm {ρ : Type} (b c d e f : Int) (a : Bool) (g : List Int) (h i : Int) (j l : List Int) (k : (List Int) → Option ρ) : Option ρ := au0 g i j h b c d e f a l fun m o p q r s t u v w n => k m
def qx {ρ : Type} := shut (alm (ρ := ρ))
theorem aui {ρ : Type} (b : Int) (c : Int) (d : Int) (e : Int) (f : Int) (a : Bool) (g : List Int) (h : Int) (i : Int) (j : List Int) (l : List Int) (k : (List Int) → Option ρ) : qx b c d e f a g h i j l k = alm b c d e f a g h i j l k := by unfold qx; rw [bq]

def anb {ρ : Type} (b c d e f : Int) (a : Bool) (h g i : List Int) (k : (List Int) → Option ρ) : Option ρ := br ((↑g.length : Int) != b) (k []) (zl b c d e f a h i g fun j => k j)
def ai4 {ρ : Type} := shut (anb (ρ := ρ))
theorem ax6 {ρ : Type} (b : Int) (c : Int) (d : Int) (e : Int) (f : Int) (a : Bool) (g : List Int) (h : List Int) (i : List Int) (k : (List Int) → Option ρ) : ai4 b c d e f a g h i k = anb b c d e f a g h i k := by unfold ai4; rw [bq]

def amq {ρ : Type} (a : List Int) (k : Int → Option ρ) : Option ρ := ad2 (List.take 4 (List.drop 20 a)) fun b => k b
def abl {ρ : Type} := shut (amq (ρ := ρ))
theorem axm {ρ : Type} (a : List Int) (k : Int → Option ρ) : abl a k = amq a k := by unfold abl; rw [bq]

def alf {ρ : Type} (b c d e f : Int) (a : Bool) (h i g : List Int) (j : Int) (k : (List Int) → Option ρ) : Option ρ := jm g 2 5 fun l => abl g fun m => jm l 3 m fun n => jm n 4 (IntKind.u64.wrap j) fun o => ai4 b c d e f a i h o fun p => k p
def zy {ρ : Type} := shut (alf (ρ := ρ))
theorem aub {ρ : Type} (b : Int) (c : Int) (d : Int) (e : Int) (f : Int) (a : Bool) (g : List Int) (h : List Int) (i : List Int) (j : Int) (k : (List Int) → Option ρ) : zy b c d e f a g h i j k = alf b c d e f a g h i j k := by unfold zy; rw [bq]

def apy {ρ : Type} (b c d e f : Int) (a : Bool) (h : List (List Int)) (i g : List Int) (k : (List Int) → Option ρ) : Option ρ := jm g 2 1 fun j => abl g fun l => jm j 3 l fun m => l5 h fun n => zl b c d e f a i m n fun o => k o
def aeb {ρ : Type} := shut (apy (ρ := ρ))
theorem aza {ρ : Type} (b : Int) (c : Int) (d : Int) (e : Int) (f : Int) (a : Bool) (g : List (List Int)) (h : List Int) (i : List Int) (k : (List Int) → Option ρ) : aeb b c d e f a g h i k = apy b c d e f a g h i k := by unfold aeb; rw [bq]

abbrev b6n (ρ : Type) := (List Int) → (List Int) → Int → (List (List Int)) → Int → Int → Int → Int → Int → Bool → (List Int) → Option ρ
def aky {ρ : Type} (j i : List Int) (h : Int) (k : List (List Int)) (a b c d e : Int) (f : Bool) (g : List Int) (nx l : b6n ρ) : Option ρ := br (decide (h < IntKind.i64.wrap (IntKind.i64.wrap (2 * a) + 3))) (zy a b c d e f j i g h fun m => jm g 4 (IntKind.u64.wrap h) fun n => qx a b c d e f m 0 15 i n fun o => br (decide ((k.length + 1) * 24 ≤ 140737488355328)) (nx j i (IntKind.i64.wrap (h + 1)) (k ++ [o]) a b c d e f g) none) (l j i h k a b c d e f g)
abbrev buw := (List Int) × (List Int) × Int × (List (List Int)) × Int × Int × Int × Int × Int × Bool × (List Int)
abbrev b4i := buw
def b8c {ρ : Type} (f : buw → Option ρ) : b6n ρ := fun j k i l a b c d e g h => f (j, k, i, l, a, b, c, d, e, g, h)
def bt8 {ρ : Type} : adk buw b4i ρ := fun (i, j, h, k, a, b, c, d, e, f, g) next ex => aky i j h k a b c d e f g (b8c next) (b8c ex)
def b1l {ρ : Type} := shut (lp (bt8 (ρ := ρ)))
theorem b8p {ρ : Type} : b1l (ρ := ρ) = lp bt8 := bq _
def bzz {ρ : Type} (f : adj buw b4i ρ) (j k : List Int) (i : Int) (l : List (List Int)) (a b c d e : Int) (g : Bool) (h : List Int) (m : b6n ρ) : Option ρ := f (j, k, i, l, a, b, c, d, e, g, h) (fun (j, k, i, l, a, b, c, d, e, g, h) => m j k i l a b c d e g h)
def arl {ρ : Type} := bzz (lp (bt8 (ρ := ρ)))
def arn {ρ : Type} := bzz (b1l (ρ := ρ))
theorem au8 {ρ : Type} : arn (ρ := ρ) = arl := congrArg bzz b8p
def ajg {ρ : Type} (b c d e f : Int) (a : Bool) (g h m : List Int) (k : (List Int) → Option ρ) : Option ρ := uz b c d e f a g h fun n => br n (k []) (arn g h 0 [] b c d e f a m fun v o w p q r s t u i j => aeb q r s t u i p o j fun l => k l)
def aa6 {ρ : Type} := shut (ajg (ρ := ρ))
theorem aq7 {ρ : Type} (b : Int) (c : Int) (d : Int) (e : Int) (f : Int) (a : Bool) (g : List Int) (h : List Int) (i : List Int) (k : (List Int) → Option ρ) : aa6 b c d e f a g h i k = ajg b c d e f a g h i k := by unfold aa6; rw [bq]

def amt {ρ : Type} (a : List Int) (b : Int) (k : (List Int) → Option ρ) : Option ρ := jm a 2 0 fun c => jm c 3 b fun d => k d
def za {ρ : Type} := shut (amt (ρ := ρ))
theorem aw6 {ρ : Type} (a : List Int) (b : Int) (k : (List Int) → Option ρ) : za a b k = amt a b k := by unfold za; rw [bq]

def ang {ρ : Type} (b c d e f : Int) (a : Bool) (g h : List Int) (i j : Int) (l m : List Int) (k : (List Int) → Option ρ) : Option ρ := jm h 2 2 fun n => jm n 4 (IntKind.u64.wrap i) fun o => jm o 5 j fun p => l5 [l, m] fun q => zl b c d e f a g p q fun r => k r
def aat {ρ : Type} := shut (ang (ρ := ρ))
theorem axg {ρ : Type} (b : Int) (c : Int) (d : Int) (e : Int) (f : Int) (a : Bool) (g : List Int) (h : List Int) (i : Int) (j : Int) (l : List Int) (m : List Int) (k : (List Int) → Option ρ) : aat b c d e f a g h i j l m k = ang b c d e f a g h i j l m k := by unfold aat; rw [bq]

abbrev b2x (ρ : Type) := (List Int) → (List Int) → Int → Int → Int → (List (List Int)) → Int → Int → Int → Int → Int → Bool → (List Int) → Option ρ
def ap5 {ρ : Type} (j k : List Int) (i l h : Int) (m : List (List Int)) (a b c d e : Int) (f : Bool) (g : List Int) (nx n : b2x ρ) : Option ρ := br (decide (i < 0)) none (br (decide (h < IntKind.u64.wrap (IntKind.u64.wrap (l + 1) * 2 ^ min i.toNat 64))) (za g h fun o => aa6 a b c d e f j k o fun p => br (decide ((m.length + 1) * 24 ≤ 140737488355328)) (nx j k i l (IntKind.u64.wrap (h + 1)) (m ++ [p]) a b c d e f g) none) (n j k i l h m a b c d e f g))
abbrev bxr := (List Int) × (List Int) × Int × Int × Int × (List (List Int)) × Int × Int × Int × Int × Int × Bool × (List Int)
abbrev b6e := bxr
def b0t {ρ : Type} (f : bxr → Option ρ) : b2x ρ := fun j k l m i n a b c d e g h => f (j, k, l, m, i, n, a, b, c, d, e, g, h)
def buz {ρ : Type} : adk bxr b6e ρ := fun (i, j, k, l, h, m, a, b, c, d, e, f, g) next ex => ap5 i j k l h m a b c d e f g (b0t next) (b0t ex)
def b4a {ρ : Type} := shut (lp (buz (ρ := ρ)))
theorem cah {ρ : Type} : b4a (ρ := ρ) = lp buz := bq _
def b0b {ρ : Type} (f : adj bxr b6e ρ) (j k : List Int) (l m i : Int) (n : List (List Int)) (a b c d e : Int) (g : Bool) (h : List Int) (o : b2x ρ) : Option ρ := f (j, k, l, m, i, n, a, b, c, d, e, g, h) (fun (j, k, l, m, i, n, a, b, c, d, e, g, h) => o j k l m i n a b c d e g h)
def axn {ρ : Type} := b0b (lp (buz (ρ := ρ)))
def axa {ρ : Type} := b0b (b4a (ρ := ρ))
theorem ayt {ρ : Type} : axa (ρ := ρ) = axn := congrArg b0b cah
abbrev b3w (ρ : Type) := (List Int) → Int → Int → (List (List Int)) → Int → Int → (List (List Int)) → (List Int) → Int → Int → Int → Int → Int → Bool → Option ρ
def am9 {ρ : Type} (m : List Int) (l n : Int) (b : List (List Int)) (c a : Int) (k : List (List Int)) (d : List Int) (e f g h i : Int) (j : Bool) (nx o : b3w ρ) : Option ρ := br (decide (IntKind.i64.wrap (a + 1) < (↑b.length : Int))) (br (decide (IntKind.i64.wrap (l - c) < 0)) none (br (decide (0 ≤ a)) (br (decide (a < (↑b.length : Int))) (br (decide (0 ≤ IntKind.i64.wrap (a + 1))) (br (decide (IntKind.i64.wrap (a + 1) < (↑b.length : Int))) (aat e f g h i j m d c (IntKind.u64.wrap (IntKind.u64.wrap (n * 2 ^ min (IntKind.i64.wrap (l - c)).toNat 64) + IntKind.u64.wrap (IntKind.i64.wrap (a.tdiv 2)))) (b.getD a.toNat []) (b.getD (IntKind.i64.wrap (a + 1)).toNat []) fun p => br (decide ((k.length + 1) * 24 ≤ 140737488355328)) (nx m l n b c (IntKind.i64.wrap (a + 2)) (k ++ [p]) d e f g h i j) none) none) none) none) none)) (o m l n b c a k d e f g h i j)
abbrev bv1 := (List Int) × Int × Int × (List (List Int)) × Int × Int × (List (List Int)) × (List Int) × Int × Int × Int × Int × Int × Bool
abbrev b24 := bv1
def b5z {ρ : Type} (f : bv1 → Option ρ) : b3w ρ := fun m n o i j k l a b c d e g h => f (m, n, o, i, j, k, l, a, b, c, d, e, g, h)
def bxw {ρ : Type} : adk bv1 b24 ρ := fun (l, m, n, h, i, j, k, a, b, c, d, e, f, g) next ex => am9 l m n h i j k a b c d e f g (b5z next) (b5z ex)
def b5o {ρ : Type} := shut (lp (bxw (ρ := ρ)))
theorem b9i {ρ : Type} : b5o (ρ := ρ) = lp bxw := bq _
def bz8 {ρ : Type} (f : adj bv1 b24 ρ) (m : List Int) (n o : Int) (i : List (List Int)) (j k : Int) (l : List (List Int)) (a : List Int) (b c d e g : Int) (h : Bool) (p : b3w ρ) : Option ρ := f (m, n, o, i, j, k, l, a, b, c, d, e, g, h) (fun (m, n, o, i, j, k, l, a, b, c, d, e, g, h) => p m n o i j k l a b c d e g h)
def auh {ρ : Type} := bz8 (lp (bxw (ρ := ρ)))
def amu {ρ : Type} := bz8 (b5o (ρ := ρ))
theorem av8 {ρ : Type} : amu (ρ := ρ) = auh := congrArg bz8 b9i
abbrev b3e (ρ : Type) := (List Int) → Int → Int → (List (List Int)) → Int → Int → Int → Int → Int → Int → Bool → (List Int) → Option ρ
def aqa {ρ : Type} (k : List Int) (j l : Int) (i : List (List Int)) (a b c d e f : Int) (g : Bool) (h : List Int) (nx q : b3e ρ) : Option ρ := br (decide (a ≤ j)) (amu k j l i a 0 [] h b c d e f g fun r s t A u B v w y z m n o p => nx r s t v (IntKind.i64.wrap (u + 1)) y z m n o p w) (q k j l i a b c d e f g h)
abbrev bxg := (List Int) × Int × Int × (List (List Int)) × Int × Int × Int × Int × Int × Int × Bool × (List Int)
abbrev b36 := bxg
def b1r {ρ : Type} (f : bxg → Option ρ) : b3e ρ := fun k l m i j a b c d e g h => f (k, l, m, i, j, a, b, c, d, e, g, h)
def bwx {ρ : Type} : adk bxg b36 ρ := fun (j, k, l, h, i, a, b, c, d, e, f, g) next ex => aqa j k l h i a b c d e f g (b1r next) (b1r ex)
def b7y {ρ : Type} := shut (lp (bwx (ρ := ρ)))
theorem b8z {ρ : Type} : b7y (ρ := ρ) = lp bwx := bq _
def bzb {ρ : Type} (f : adj bxg b36 ρ) (k : List Int) (l m : Int) (i : List (List Int)) (j a b c d e : Int) (g : Bool) (h : List Int) (n : b3e ρ) : Option ρ := f (k, l, m, i, j, a, b, c, d, e, g, h) (fun (k, l, m, i, j, a, b, c, d, e, g, h) => n k l m i j a b c d e g h)
def axo {ρ : Type} := bzb (lp (bwx (ρ := ρ)))
def awp {ρ : Type} := bzb (b7y (ρ := ρ))
theorem ay3 {ρ : Type} : awp (ρ := ρ) = axo := congrArg bzb b8z
def abg {ρ : Type} (d b a f g : Int) (c : Bool) (j l q : List Int) (e i : Int) (k : (List Int) → Option ρ) : Option ρ := mh d b a f g c fun r => br (!r) (k []) (br ((↑j.length : Int) != d) (k []) (br ((↑l.length : Int) != d) (k []) (br (decide (e < 0)) (k []) (br (decide (a = 0)) none (br (decide (e > IntKind.i64.wrap (b.tdiv a))) (k []) (br (decide (a = 0)) none (br (decide (IntKind.i64.wrap (IntKind.i64.wrap (b.tdiv a) - e) < 0)) none (br (decide (i ≥ IntKind.u64.wrap (1 * 2 ^ min (IntKind.i64.wrap (IntKind.i64.wrap (b.tdiv a) - e)).toNat 64))) (k []) (br (decide (e < 0)) none (axa j l e i (IntKind.u64.wrap (i * 2 ^ min e.toNat 64)) [] d b a f g c q fun Q s t u U v w y z m n o p => awp s t u v 1 w y z m n o p fun A B C h F G H I J M N O => br (decide (0 < (↑h.length : Int))) (k (h.getD 0 [])) none))))))))))
def aaz {ρ : Type} := shut (abg (ρ := ρ))
theorem ad9 {ρ : Type} (b : Int) (c : Int) (d : Int) (e : Int) (f : Int) (a : Bool) (g : List Int) (h : List Int) (i : List Int) (j : Int) (l : Int) (k : (List Int) → Option ρ) : aaz b c d e f a g h i j l k = abg b c d e f a g h i j l k := by unfold aaz; rw [bq]

def aqs {ρ : Type} (c : List Int) (a b : Int) (k : Bool → Option ρ) : Option ρ := br (decide (a ≥ 1)) (br (decide (a ≤ 24)) (br (decide (b ≥ 0)) (br (decide (a = 0)) none (k (decide (b ≤ IntKind.i64.wrap ((IntKind.i64.wrap ((↑c.length : Int) * 8)).tdiv a))))) (k false)) (k false)) (k false)
def adf {ρ : Type} := shut (aqs (ρ := ρ))
theorem au4 {ρ : Type} (a : List Int) (b : Int) (c : Int) (k : Bool → Option ρ) : adf a b c k = aqs a b c k := by unfold adf; rw [bq]

abbrev b6q (ρ : Type) := (List Int) → Int → Int → Int → Int → Int → Int → (List Int) → Option ρ
def ajn {ρ : Type} (a : List Int) (e g f b c d : Int) (h : List Int) (nx i : b6q ρ) : Option ρ := br (decide (f < e)) (br (decide (0 < (↑a.length : Int))) (br (decide (1 ≤ (↑a.length : Int))) (br (decide ((↑a.length : Int) ≤ (↑a.length : Int))) (nx (List.drop 1 (List.take (↑a.length : Int).toNat a)) e (bits BinOp.or IntKind.u64 (IntKind.u64.wrap (g * 2 ^ 8)) (IntKind.u64.wrap (a.getD 0 0))) (IntKind.i64.wrap (f + 8)) b c d h) none) none) none) (i a e g f b c d h)
abbrev bu0 := (List Int) × Int × Int × Int × Int × Int × Int × (List Int)
abbrev b7n := bu0
def b4n {ρ : Type} (f : bu0 → Option ρ) : b6q ρ := fun d e g h a b c i => f (d, e, g, h, a, b, c, i)
def btd {ρ : Type} : adk bu0 b7n ρ := fun (d, e, f, g, a, b, c, h) next ex => ajn d e f g a b c h (b4n next) (b4n ex)
def b7l {ρ : Type} := shut (lp (btd (ρ := ρ)))
theorem b9e {ρ : Type} : b7l (ρ := ρ) = lp btd := bq _
def bzj {ρ : Type} (f : adj bu0 b7n ρ) (d : List Int) (e g h a b c : Int) (i : List Int) (j : b6q ρ) : Option ρ := f (d, e, g, h, a, b, c, i) (fun (d, e, g, h, a, b, c, i) => j d e g h a b c i)
def aot {ρ : Type} := bzj (lp (btd (ρ := ρ)))
def aoz {ρ : Type} := bzj (b7l (ρ := ρ))
theorem atx {ρ : Type} : aoz (ρ := ρ) = aot := congrArg bzj b9e
abbrev b2q (ρ : Type) := (List Int) → Int → Int → Int → Int → Int → (List Int) → Option ρ
def aji {ρ : Type} (f : List Int) (g h i c a : Int) (j : List Int) (nx m : b2q ρ) : Option ρ := br (decide (a < c)) (aoz f g h i a c a j fun n b k d e o p l => br (decide (IntKind.i64.wrap (d - b) < 0)) none (br (decide (b < 0)) none (br (decide (0 ≤ e)) (br (decide (e < (↑l.length : Int))) (nx n b k (IntKind.i64.wrap (d - b)) o (IntKind.i64.wrap (p + 1)) (l.set e.toNat (IntKind.u32.wrap (bits BinOp.and IntKind.u64 (k.fdiv (2 ^ min (IntKind.i64.wrap (d - b)).toNat 64)) (IntKind.u64.wrap (IntKind.u64.wrap (1 * 2 ^ min b.toNat 64) - 1)))))) none) none))) (m f g h i c a j)
abbrev btt := (List Int) × Int × Int × Int × Int × Int × (List Int)
abbrev b2g := btt
def b4f {ρ : Type} (f : btt → Option ρ) : b2q ρ := fun c d e g a b h => f (c, d, e, g, a, b, h)
def bs9 {ρ : Type} : adk btt b2g ρ := fun (c, d, e, f, a, b, g) next ex => aji c d e f a b g (b4f next) (b4f ex)
def b1f {ρ : Type} := shut (lp (bs9 (ρ := ρ)))
theorem cae {ρ : Type} : b1f (ρ := ρ) = lp bs9 := bq _
def bz4 {ρ : Type} (f : adj btt b2g ρ) (c : List Int) (d e g a b : Int) (h : List Int) (i : b2q ρ) : Option ρ := f (c, d, e, g, a, b, h) (fun (c, d, e, g, a, b, h) => i c d e g a b h)
def aoo {ρ : Type} := bz4 (lp (bs9 (ρ := ρ)))
def aox {ρ : Type} := bz4 (b1f (ρ := ρ))
theorem ata {ρ : Type} : aox (ρ := ρ) = aoo := congrArg bz4 cae
def aiy {ρ : Type} (b : List Int) (c a : Int) (k : (List Int) → Option ρ) : Option ρ := adf b c a fun d => br (!d) (k []) (br (decide (0 ≤ a)) (br (decide (a ≤ a)) (br (decide (a * (↑4 : Int) ≤ (↑140737488355328 : Int))) (aox b c 0 0 (↑(List.replicate a.toNat (0 : Int)).length : Int) 0 (List.replicate a.toNat (0 : Int)) fun f g h i j l e => k e) none) none) none)
def uj {ρ : Type} := shut (aiy (ρ := ρ))
theorem aoq {ρ : Type} (a : List Int) (b : Int) (c : Int) (k : (List Int) → Option ρ) : uj a b c k = aiy a b c k := by unfold uj; rw [bq]

abbrev b30 (ρ : Type) := Int → Int → Int → (List Int) → Option ρ
def ajk {ρ : Type} (d b a : Int) (c : List Int) (nx e : b30 ρ) : Option ρ := br (decide (a < b)) (br (decide (0 ≤ a)) (br (decide (a < (↑c.length : Int))) (nx (IntKind.u32.wrap (d - c.getD a.toNat 0)) b (IntKind.i64.wrap (a + 1)) c) none) none) (e d b a c)
abbrev bx2 := Int × Int × Int × (List Int)
abbrev b1n := bx2
def b6j {ρ : Type} (f : bx2 → Option ρ) : b30 ρ := fun c a b d => f (c, a, b, d)
def bxy {ρ : Type} : adk bx2 b1n ρ := fun (c, a, b, d) next ex => ajk c a b d (b6j next) (b6j ex)
def b68 {ρ : Type} := shut (lp (bxy (ρ := ρ)))
theorem b9b {ρ : Type} : b68 (ρ := ρ) = lp bxy := bq _
def byy {ρ : Type} (f : adj bx2 b1n ρ) (c a b : Int) (d : List Int) (e : b30 ρ) : Option ρ := f (c, a, b, d) (fun (c, a, b, d) => e c a b d)
def aom {ρ : Type} := byy (lp (bxy (ρ := ρ)))
def abz {ρ : Type} := byy (b68 (ρ := ρ))
theorem aty {ρ : Type} : abz (ρ := ρ) = aom := congrArg byy b9b
def ais {ρ : Type} (a : Int) (c : List Int) (k : (List Int) → Option ρ) : Option ρ := br (a != 16) (br (a != 24) (br (a != 32) (k []) (br ((↑c.length : Int) != a) (k []) (uj c 4 (IntKind.i64.wrap (2 * a)) fun h => abz (IntKind.u32.wrap (IntKind.i64.wrap (15 * (↑h.length : Int)))) (↑h.length : Int) 0 h fun d o p j => br (decide ((j.length + ([bits BinOp.and IntKind.u32 (d.fdiv ((2 : Int) ^ 4)) (15 : Int), bits BinOp.and IntKind.u32 d (15 : Int)].length.add 0).succ) * 4 ≤ 140737488355328)) (k (j ++ [d.fdiv (2 ^ 8), bits BinOp.and IntKind.u32 (d.fdiv (2 ^ 4)) 15, bits BinOp.and IntKind.u32 d 15])) none))) (br ((↑c.length : Int) != a) (k []) (uj c 4 (IntKind.i64.wrap (2 * a)) fun i => abz (IntKind.u32.wrap (IntKind.i64.wrap (15 * (↑i.length : Int)))) (↑i.length : Int) 0 i fun e q r l => br (decide ((l.length + ([bits BinOp.and IntKind.u32 (e.fdiv ((2 : Int) ^ 4)) (15 : Int), bits BinOp.and IntKind.u32 e (15 : Int)].length.add 0).succ) * 4 ≤ 140737488355328)) (k (l ++ [e.fdiv (2 ^ 8), bits BinOp.and IntKind.u32 (e.fdiv (2 ^ 4)) 15, bits BinOp.and IntKind.u32 e 15])) none))) (br ((↑c.length : Int) != a) (k []) (uj c 4 (IntKind.i64.wrap (2 * a)) fun f => abz (IntKind.u32.wrap (IntKind.i64.wrap (15 * (↑f.length : Int)))) (↑f.length : Int) 0 f fun b m n g => br (decide ((g.length + ([bits BinOp.and IntKind.u32 (b.fdiv ((2 : Int) ^ 4)) (15 : Int), bits BinOp.and IntKind.u32 b (15 : Int)].length.add 0).succ) * 4 ≤ 140737488355328)) (k (g ++ [b.fdiv (2 ^ 8), bits BinOp.and IntKind.u32 (b.fdiv (2 ^ 4)) 15, bits BinOp.and IntKind.u32 b 15])) none))
def sw {ρ : Type} := shut (ais (ρ := ρ))
theorem aok {ρ : Type} (a : Int) (b : List Int) (k : (List Int) → Option ρ) : sw a b k = ais a b k := by unfold sw; rw [bq]

abbrev b7q (ρ : Type) := (List Int) → Int → Int → (List Int) → (List Int) → Int → Int → Int → Int → Int → Bool → Nat → Int → (List Int) → Int → Bool → Int → Int → (List Int) → (List Int) → Int → Int → Int → (List Int) → (List Int) → Int → (List Int) → Option ρ
def anc {ρ : Type} (B : List Int) (y o : Int) (z p : List Int) (q r s t u : Int) (v : Bool) (w : Nat) (a : Int) (b : List Int) (c : Int) (d : Bool) (e f : Int) (g h : List Int) (i j k : Int) (l m : List Int) (n : Int) (A : List Int) (nx F : b7q ρ) : Option ρ := br (decide (o < y)) (br (decide (0 ≤ o)) (br (decide (o < (↑A.length : Int))) (iy p 4 (IntKind.u64.wrap o) fun G => mq q r s t u v w a b c d e f g h i j k l m n B p o fun H => jy q r s t u v w a b c d e f g h i j k l m n G H 0 (A.getD o.toNat 0) fun C => br (decide ((z.length + C.length) * 1 ≤ 140737488355328)) (nx B y (IntKind.i64.wrap (o + 1)) (z ++ C) p q r s t u v w a b c d e f g h i j k l m n A) none) none) none) (F B y o z p q r s t u v w a b c d e f g h i j k l m n A)
abbrev bxe := (List Int) × Int × Int × (List Int) × (List Int) × Int × Int × Int × Int × Int × Bool × Nat × Int × (List Int) × Int × Bool × Int × Int × (List Int) × (List Int) × Int × Int × Int × (List Int) × (List Int) × Int × (List Int)
abbrev b77 := bxe
def b5r {ρ : Type} (f : bxe → Option ρ) : b7q ρ := fun B y z A p q r s t u v w a b c d e g h i j k l m n o C => f (B, y, z, A, p, q, r, s, t, u, v, w, a, b, c, d, e, g, h, i, j, k, l, m, n, o, C)
def buq {ρ : Type} : adk bxe b77 ρ := fun (A, w, y, z, o, p, q, r, s, t, u, v, a, b, c, d, e, f, g, h, i, j, k, l, m, n, B) next ex => anc A w y z o p q r s t u v a b c d e f g h i j k l m n B (b5r next) (b5r ex)
def b1z {ρ : Type} := shut (lp (buq (ρ := ρ)))
theorem b8q {ρ : Type} : b1z (ρ := ρ) = lp buq := bq _
def bzn {ρ : Type} (f : adj bxe b77 ρ) (B : List Int) (y z : Int) (A p : List Int) (q r s t u : Int) (v : Bool) (w : Nat) (a : Int) (b : List Int) (c : Int) (d : Bool) (e g : Int) (h i : List Int) (j k l : Int) (m n : List Int) (o : Int) (C : List Int) (F : b7q ρ) : Option ρ := f (B, y, z, A, p, q, r, s, t, u, v, w, a, b, c, d, e, g, h, i, j, k, l, m, n, o, C) (fun (B, y, z, A, p, q, r, s, t, u, v, w, a, b, c, d, e, g, h, i, j, k, l, m, n, o, C) => F B y z A p q r s t u v w a b c d e g h i j k l m n o C)
def aue {ρ : Type} := bzn (lp (buq (ρ := ρ)))
def au6 {ρ : Type} := bzn (b1z (ρ := ρ))
theorem av5 {ρ : Type} : au6 (ρ := ρ) = aue := congrArg bzn b8q
def ak6 {ρ : Type} (a d e f g : Int) (b : Bool) (h i y z : List Int) (k : (List Int) → Option ρ) : Option ρ := qp a d e f g b y fun A B C F G H I J M N j l m n o p q r s t u v => br (!v) (k []) (br ((↑i.length : Int) != a) (k []) (br ((↑h.length : Int) != a) (k []) (sw a h fun c => au6 i (↑c.length : Int) 0 [] z A B C F G H I J M N j l m n o p q r s t u c fun O Q U w W Z aa ab ac ad ae af ag ah ai aj ak al am an ao ap aq ar au av aw => k w)))
def adh {ρ : Type} := shut (ak6 (ρ := ρ))
theorem auf {ρ : Type} (b : Int) (c : Int) (d : Int) (e : Int) (f : Int) (a : Bool) (g : List Int) (h : List Int) (i : List Int) (j : List Int) (k : (List Int) → Option ρ) : adh b c d e f a g h i j k = ak6 b c d e f a g h i j k := by unfold adh; rw [bq]

abbrev b4j (ρ : Type) := Int → Int → Int → (List Int) → Int → Int → Int → Int → Int → Bool → (List Int) → (List Int) → (List Int) → Option ρ
def amn {ρ : Type} (m k a : Int) (l : List Int) (b c d e f : Int) (g : Bool) (h i j : List Int) (nx o : b4j ρ) : Option ρ := br (decide (a < k)) (br (decide (a < 0)) none (oo (a.toNat + 1) b c d e f g h i j a (bits BinOp.xor IntKind.u64 (m.fdiv (2 ^ min a.toNat 64)) 1) fun n => br (decide ((l.length + n.length) * 1 ≤ 140737488355328)) (nx m k (IntKind.i64.wrap (a + 1)) (l ++ n) b c d e f g h i j) none)) (o m k a l b c d e f g h i j)
abbrev bxj := Int × Int × Int × (List Int) × Int × Int × Int × Int × Int × Bool × (List Int) × (List Int) × (List Int)
abbrev b2j := bxj
def b2t {ρ : Type} (f : bxj → Option ρ) : b4j ρ := fun n k l m a b c d e g h i j => f (n, k, l, m, a, b, c, d, e, g, h, i, j)
def bu1 {ρ : Type} : adk bxj b2j ρ := fun (m, j, k, l, a, b, c, d, e, f, g, h, i) next ex => amn m j k l a b c d e f g h i (b2t next) (b2t ex)
def b49 {ρ : Type} := shut (lp (bu1 (ρ := ρ)))
theorem b8f {ρ : Type} : b49 (ρ := ρ) = lp bu1 := bq _
def bz5 {ρ : Type} (f : adj bxj b2j ρ) (n k l : Int) (m : List Int) (a b c d e : Int) (g : Bool) (h i j : List Int) (o : b4j ρ) : Option ρ := f (n, k, l, m, a, b, c, d, e, g, h, i, j) (fun (n, k, l, m, a, b, c, d, e, g, h, i, j) => o n k l m a b c d e g h i j)
def aur {ρ : Type} := bz5 (lp (bu1 (ρ := ρ)))
def auq {ρ : Type} := bz5 (b49 (ρ := ρ))
theorem awo {ρ : Type} : auq (ρ := ρ) = aur := congrArg bz5 b8f
def abp {ρ : Type} (b c d e f : Int) (a : Bool) (j g h l : List Int) (i : Int) (k : (List Int) → Option ρ) : Option ρ := tu b c d e f a [g, h, j] fun n => br (!n) (k []) (jl b c d e f a fun m => br (decide (m < 0)) none (br (i.fdiv (2 ^ min m.toNat 64) != 0) (k []) (nk b c d e f a g h l i fun o => adh b c d e f a j g h o fun p => jl b c d e f a fun q => auq i q 0 p b c d e f a g h l fun B C F r G s t u v w y z A => k r)))
def abv {ρ : Type} := shut (abp (ρ := ρ))
theorem ael {ρ : Type} (b : Int) (c : Int) (d : Int) (e : Int) (f : Int) (a : Bool) (g : List Int) (h : List Int) (i : List Int) (j : List Int) (l : Int) (k : (List Int) → Option ρ) : abv b c d e f a g h i j l k = abp b c d e f a g h i j l k := by unfold abv; rw [bq]

def auo {ρ : Type} (c : List Int) (a b : Int) (k : Bool → Option ρ) : Option ρ := br (decide (a ≥ 1)) (br (decide (a ≤ 24)) (br (decide (b ≥ 0)) (br (decide (a = 0)) none (k (decide (b ≤ IntKind.i64.wrap ((IntKind.i64.wrap ((↑c.length : Int) * 8)).tdiv a))))) (k false)) (k false)) (k false)
def aez {ρ : Type} := shut (auo (ρ := ρ))
theorem awt {ρ : Type} (a : List Int) (b : Int) (c : Int) (k : Bool → Option ρ) : aez a b c k = auo a b c k := by unfold aez; rw [bq]

abbrev b1h (ρ : Type) := (List Int) → Int → Int → Int → Int → Int → (List Int) → Option ρ
def ak1 {ρ : Type} (d : List Int) (b e c f a : Int) (g : List Int) (nx h : b1h ρ) : Option ρ := br (decide (a < b)) (br (decide (0 ≤ IntKind.i64.wrap ((IntKind.i64.wrap (IntKind.i64.wrap (c * b) + a)).tdiv 8))) (br (decide (IntKind.i64.wrap ((IntKind.i64.wrap (IntKind.i64.wrap (c * b) + a)).tdiv 8) < (↑d.length : Int))) (br (decide (IntKind.i64.wrap (7 - (IntKind.i64.wrap (IntKind.i64.wrap (c * b) + a)).tmod 8) < 0)) none (nx d b e c (IntKind.u32.wrap (IntKind.u32.wrap (f * 2) + IntKind.u32.wrap (bits BinOp.and IntKind.u8 ((d.getD (IntKind.i64.wrap ((IntKind.i64.wrap (IntKind.i64.wrap (c * b) + a)).tdiv 8)).toNat 0).fdiv (2 ^ min (IntKind.i64.wrap (7 - (IntKind.i64.wrap (IntKind.i64.wrap (c * b) + a)).tmod 8)).toNat 8)) 1))) (IntKind.i64.wrap (a + 1)) g)) none) none) (h d b e c f a g)
abbrev bwf := (List Int) × Int × Int × Int × Int × Int × (List Int)
abbrev b71 := bwf
def b5i {ρ : Type} (f : bwf → Option ρ) : b1h ρ := fun b c d e g a h => f (b, c, d, e, g, a, h)
def bt4 {ρ : Type} : adk bwf b71 ρ := fun (b, c, d, e, f, a, g) next ex => ak1 b c d e f a g (b5i next) (b5i ex)
def b1d {ρ : Type} := shut (lp (bt4 (ρ := ρ)))
theorem b9z {ρ : Type} : b1d (ρ := ρ) = lp bt4 := bq _
def byq {ρ : Type} (f : adj bwf b71 ρ) (b : List Int) (c d e g a : Int) (h : List Int) (i : b1h ρ) : Option ρ := f (b, c, d, e, g, a, h) (fun (b, c, d, e, g, a, h) => i b c d e g a h)
def ark {ρ : Type} := byq (lp (bt4 (ρ := ρ)))
def ar2 {ρ : Type} := byq (b1d (ρ := ρ))
theorem au9 {ρ : Type} : ar2 (ρ := ρ) = ark := congrArg byq b9z
abbrev b5l (ρ : Type) := (List Int) → Int → Int → Int → (List Int) → Option ρ
def ak8 {ρ : Type} (c : List Int) (d a b : Int) (e : List Int) (nx g : b5l ρ) : Option ρ := br (decide (b < a)) (ar2 c d a b 0 0 e fun h i j k l m f => br (decide ((f.length + 1) * 4 ≤ 140737488355328)) (nx h i j (IntKind.i64.wrap (k + 1)) (f ++ [l])) none) (g c d a b e)
abbrev bwm := (List Int) × Int × Int × Int × (List Int)
abbrev b2b := bwm
def b4g {ρ : Type} (f : bwm → Option ρ) : b5l ρ := fun a b c d e => f (a, b, c, d, e)
def bwc {ρ : Type} : adk bwm b2b ρ := fun (a, b, c, d, e) next ex => ak8 a b c d e (b4g next) (b4g ex)
def b3k {ρ : Type} := shut (lp (bwc (ρ := ρ)))
theorem b8y {ρ : Type} : b3k (ρ := ρ) = lp bwc := bq _
def byu {ρ : Type} (f : adj bwm b2b ρ) (a : List Int) (b c d : Int) (e : List Int) (g : b5l ρ) : Option ρ := f (a, b, c, d, e) (fun (a, b, c, d, e) => g a b c d e)
def aq0 {ρ : Type} := byu (lp (bwc (ρ := ρ)))
def ar7 {ρ : Type} := byu (b3k (ρ := ρ))
theorem avd {ρ : Type} : ar7 (ρ := ρ) = aq0 := congrArg byu b8y
def ajr {ρ : Type} (a : List Int) (b c : Int) (k : (List Int) → Option ρ) : Option ρ := aez a b c fun d => br (!d) (k []) (ar7 a b c 0 [] fun f g h i e => k e)
def qj {ρ : Type} := shut (ajr (ρ := ρ))
theorem ase {ρ : Type} (a : List Int) (b : Int) (c : Int) (k : (List Int) → Option ρ) : qj a b c k = ajr a b c k := by unfold qj; rw [bq]

abbrev b3c (ρ : Type) := Int → Int → (List Int) → Option ρ
def akr {ρ : Type} (c a : Int) (b : List Int) (nx d : b3c ρ) : Option ρ := br (decide (a < (↑b.length : Int))) (br (decide (0 ≤ a)) (br (decide (a < (↑b.length : Int))) (nx (IntKind.u64.wrap (IntKind.u64.wrap (c + 15) - IntKind.u64.wrap (b.getD a.toNat 0))) (IntKind.i64.wrap (a + 1)) b) none) none) (d c a b)
abbrev bw3 := Int × Int × (List Int)
abbrev b3t := bw3
def b59 {ρ : Type} (f : bw3 → Option ρ) : b3c ρ := fun a b c => f (a, b, c)
def bv8 {ρ : Type} : adk bw3 b3t ρ := fun (a, b, c) next ex => akr a b c (b59 next) (b59 ex)
def b6c {ρ : Type} := shut (lp (bv8 (ρ := ρ)))
theorem b9y {ρ : Type} : b6c (ρ := ρ) = lp bv8 := bq _
def byz {ρ : Type} (f : adj bw3 b3t ρ) (a b : Int) (c : List Int) (d : b3c ρ) : Option ρ := f (a, b, c) (fun (a, b, c) => d a b c)
def arh {ρ : Type} := byz (lp (bv8 (ρ := ρ)))
def ado {ρ : Type} := byz (b6c (ρ := ρ))
theorem ave {ρ : Type} : ado (ρ := ρ) = arh := congrArg byz b9y
def ajy {ρ : Type} (a : Int) (b : List Int) (k : (List Int) → Option ρ) : Option ρ := br (a != 16) (br (a != 24) (br (a != 32) (k []) (br ((↑b.length : Int) != a) (k []) (qj b 4 (IntKind.i64.wrap (2 * a)) fun n => ado 0 0 n fun o t f => wo (IntKind.u64.wrap (16 * o)) 2 fun p => qj p 4 3 fun g => br (decide ((f.length + g.length) * 4 ≤ 140737488355328)) (k (f ++ g)) none))) (br ((↑b.length : Int) != a) (k []) (qj b 4 (IntKind.i64.wrap (2 * a)) fun q => ado 0 0 q fun r u h => wo (IntKind.u64.wrap (16 * r)) 2 fun i => qj i 4 3 fun c => br (decide ((h.length + c.length) * 4 ≤ 140737488355328)) (k (h ++ c)) none))) (br ((↑b.length : Int) != a) (k []) (qj b 4 (IntKind.i64.wrap (2 * a)) fun j => ado 0 0 j fun l s d => wo (IntKind.u64.wrap (16 * l)) 2 fun m => qj m 4 3 fun e => br (decide ((d.length + e.length) * 4 ≤ 140737488355328)) (k (d ++ e)) none))
def xk {ρ : Type} := shut (ajy (ρ := ρ))
theorem aqw {ρ : Type} (a : Int) (b : List Int) (k : (List Int) → Option ρ) : xk a b k = ajy a b k := by unfold xk; rw [bq]

abbrev b5d (ρ : Type) := (List Int) → (List Int) → Int → (List (List Int)) → Int → Int → Int → Int → Int → Bool → (List Int) → (List Int) → Option ρ
def ap8 {ρ : Type} (k j : List Int) (a : Int) (l : List (List Int)) (b c d e f : Int) (g : Bool) (h i : List Int) (nx m : b5d ρ) : Option ρ := br (decide (a < (↑i.length : Int))) (zy b c d e f g k j h a fun n => br (decide (0 ≤ a)) (br (decide (a < (↑i.length : Int))) (jm h 4 (IntKind.u64.wrap a) fun o => qx b c d e f g n 0 (i.getD a.toNat 0) j o fun p => br (decide ((l.length + 1) * 24 ≤ 140737488355328)) (nx k j (IntKind.i64.wrap (a + 1)) (l ++ [p]) b c d e f g h i) none) none) none) (m k j a l b c d e f g h i)
abbrev bxd := (List Int) × (List Int) × Int × (List (List Int)) × Int × Int × Int × Int × Int × Bool × (List Int) × (List Int)
abbrev b0h := bxd
def b5b {ρ : Type} (f : bxd → Option ρ) : b5d ρ := fun j k i l a b c d e g h m => f (j, k, i, l, a, b, c, d, e, g, h, m)
def bua {ρ : Type} : adk bxd b0h ρ := fun (i, j, h, k, a, b, c, d, e, f, g, l) next ex => ap8 i j h k a b c d e f g l (b5b next) (b5b ex)
def b0n {ρ : Type} := shut (lp (bua (ρ := ρ)))
theorem b9g {ρ : Type} : b0n (ρ := ρ) = lp bua := bq _
def bz6 {ρ : Type} (f : adj bxd b0h ρ) (j k : List Int) (i : Int) (l : List (List Int)) (a b c d e : Int) (g : Bool) (h m : List Int) (n : b5d ρ) : Option ρ := f (j, k, i, l, a, b, c, d, e, g, h, m) (fun (j, k, i, l, a, b, c, d, e, g, h, m) => n j k i l a b c d e g h m)
def axr {ρ : Type} := bz6 (lp (bua (ρ := ρ)))
def ax3 {ρ : Type} := bz6 (b0n (ρ := ρ))
theorem ayx {ρ : Type} : ax3 (ρ := ρ) = axr := congrArg bz6 b9g
def anj {ρ : Type} (b c d e f : Int) (a : Bool) (g h i l : List Int) (k : (List Int) → Option ρ) : Option ρ := uz b c d e f a h i fun m => br m (k []) (br ((↑g.length : Int) != b) (k []) (xk b g fun n => ax3 h i 0 [] b c d e f a l n fun t u v o w y z A p q r s => l5 o fun j => k j))
def ae0 {ρ : Type} := shut (anj (ρ := ρ))
theorem axe {ρ : Type} (b : Int) (c : Int) (d : Int) (e : Int) (f : Int) (a : Bool) (g : List Int) (h : List Int) (i : List Int) (j : List Int) (k : (List Int) → Option ρ) : ae0 b c d e f a g h i j k = anj b c d e f a g h i j k := by unfold ae0; rw [bq]

abbrev b3q (ρ : Type) := (List Int) → (List Int) → Int → Int → (List (List Int)) → Int → Int → Int → Int → Int → Bool → (List Int) → Option ρ
def apn {ρ : Type} (j k : List Int) (l b : Int) (i : List (List Int)) (d c a e f : Int) (g : Bool) (h : List Int) (nx m : b3q ρ) : Option ρ := br (decide (a = 0)) none (br (decide (b < IntKind.i64.wrap (c.tdiv a))) (br (decide (b < 0)) none (aaz d c a e f g j k h b (bits BinOp.xor IntKind.u64 (l.fdiv (2 ^ min b.toNat 64)) 1) fun n => br (decide ((i.length + 1) * 24 ≤ 140737488355328)) (nx j k l (IntKind.i64.wrap (b + 1)) (i ++ [n]) d c a e f g h) none)) (m j k l b i d c a e f g h))
abbrev bwi := (List Int) × (List Int) × Int × Int × (List (List Int)) × Int × Int × Int × Int × Int × Bool × (List Int)
abbrev b4d := bwi
def b2a {ρ : Type} (f : bwi → Option ρ) : b3q ρ := fun k l m i j a b c d e g h => f (k, l, m, i, j, a, b, c, d, e, g, h)
def bxq {ρ : Type} : adk bwi b4d ρ := fun (j, k, l, h, i, a, b, c, d, e, f, g) next ex => apn j k l h i a b c d e f g (b2a next) (b2a ex)
def b4e {ρ : Type} := shut (lp (bxq (ρ := ρ)))
theorem b9s {ρ : Type} : b4e (ρ := ρ) = lp bxq := bq _
def byp {ρ : Type} (f : adj bwi b4d ρ) (k l : List Int) (m i : Int) (j : List (List Int)) (a b c d e : Int) (g : Bool) (h : List Int) (n : b3q ρ) : Option ρ := f (k, l, m, i, j, a, b, c, d, e, g, h) (fun (k, l, m, i, j, a, b, c, d, e, g, h) => n k l m i j a b c d e g h)
def ayb {ρ : Type} := byp (lp (bxq (ρ := ρ)))
def awr {ρ : Type} := byp (b4e (ρ := ρ))
theorem ayz {ρ : Type} : awr (ρ := ρ) = ayb := congrArg byp b9s
def adi {ρ : Type} (b d c e f : Int) (a : Bool) (j g h l : List Int) (i : Int) (k : (List Int) → Option ρ) : Option ρ := mh b d c e f a fun n => br (!n) (k []) (br ((↑g.length : Int) != b) (k []) (br ((↑h.length : Int) != b) (k []) (br ((↑j.length : Int) != b) (k []) (br (decide (c = 0)) none (br (decide (IntKind.i64.wrap (d.tdiv c) < 0)) none (br (decide (i ≥ IntKind.u64.wrap (1 * 2 ^ min (IntKind.i64.wrap (d.tdiv c)).toNat 64))) (k []) (za l i fun o => ae0 b d c e f a j g h o fun p => awr g h i 0 [p] b d c e f a l fun w y z A q B C r s t u v => l5 q fun m => k m)))))))
def ad8 {ρ : Type} := shut (adi (ρ := ρ))
theorem af7 {ρ : Type} (b : Int) (c : Int) (d : Int) (e : Int) (f : Int) (a : Bool) (g : List Int) (h : List Int) (i : List Int) (j : List Int) (l : Int) (k : (List Int) → Option ρ) : ad8 b c d e f a g h i j l k = adi b c d e f a g h i j l k := by unfold ad8; rw [bq]

abbrev b7m (ρ : Type) := (List Int) → Int → Int → (List Int) → Int → Int → Int → Int → Int → Bool → (List Int) → Int → Int → Int → Int → Int → Bool → Nat → Int → (List Int) → Int → Bool → Int → Int → (List Int) → (List Int) → Int → Int → Int → (List Int) → (List Int) → Int → (List Int) → Option ρ
def afw {ρ : Type} (q : List Int) (A p : Int) (J : List Int) (a B C F G : Int) (H : Bool) (r : List Int) (s t u v w : Int) (y : Bool) (z : Nat) (b : Int) (c : List Int) (d : Int) (e : Bool) (f g : Int) (h i : List Int) (j k l : Int) (m n : List Int) (o : Int) (I : List Int) (nx N : b7m ρ) : Option ρ := br (decide (p < A)) (br (decide (0 ≤ p)) (br (decide (p < (↑I.length : Int))) (iy r 4 (IntKind.u64.wrap p) fun O => br (decide (0 ≤ a)) (br (decide (a ≤ (↑q.length : Int))) (jy s t u v w y z b c d e f g h i j k l m n o O (List.drop 0 (List.take a.toNat q)) (I.getD p.toNat 0) 15 fun M => br (decide ((J.length + M.length) * 1 ≤ 140737488355328)) (br (decide (0 ≤ a)) (br (decide (a ≤ (↑q.length : Int))) (br (decide ((↑q.length : Int) ≤ (↑q.length : Int))) (nx (List.drop a.toNat (List.take (↑q.length : Int).toNat q)) A (IntKind.i64.wrap (p + 1)) (J ++ M) a B C F G H r s t u v w y z b c d e f g h i j k l m n o I) none) none) none) none) none) none) none) none) (N q A p J a B C F G H r s t u v w y z b c d e f g h i j k l m n o I)
abbrev bww := (List Int) × Int × Int × (List Int) × Int × Int × Int × Int × Int × Bool × (List Int) × Int × Int × Int × Int × Int × Bool × Nat × Int × (List Int) × Int × Bool × Int × Int × (List Int) × (List Int) × Int × Int × Int × (List Int) × (List Int) × Int × (List Int)
abbrev b8a := bww
def b6u {ρ : Type} (f : bww → Option ρ) : b7m ρ := fun I G H J p q r s t u v w y z A B C F a b c d e g h i j k l m n o M => f (I, G, H, J, p, q, r, s, t, u, v, w, y, z, A, B, C, F, a, b, c, d, e, g, h, i, j, k, l, m, n, o, M)
def bva {ρ : Type} : adk bww b8a ρ := fun (H, F, G, I, o, p, q, r, s, t, u, v, w, y, z, A, B, C, a, b, c, d, e, f, g, h, i, j, k, l, m, n, J) next ex => afw H F G I o p q r s t u v w y z A B C a b c d e f g h i j k l m n J (b6u next) (b6u ex)
def b1g {ρ : Type} := shut (lp (bva (ρ := ρ)))
theorem b86 {ρ : Type} : b1g (ρ := ρ) = lp bva := bq _
def bzk {ρ : Type} (f : adj bww b8a ρ) (I : List Int) (G H : Int) (J : List Int) (p q r s t : Int) (u : Bool) (v : List Int) (w y z A B : Int) (C : Bool) (F : Nat) (a : Int) (b : List Int) (c : Int) (d : Bool) (e g : Int) (h i : List Int) (j k l : Int) (m n : List Int) (o : Int) (M : List Int) (N : b7m ρ) : Option ρ := f (I, G, H, J, p, q, r, s, t, u, v, w, y, z, A, B, C, F, a, b, c, d, e, g, h, i, j, k, l, m, n, o, M) (fun (I, G, H, J, p, q, r, s, t, u, v, w, y, z, A, B, C, F, a, b, c, d, e, g, h, i, j, k, l, m, n, o, M) => N I G H J p q r s t u v w y z A B C F a b c d e g h i j k l m n o M)
def akk {ρ : Type} := bzk (lp (bva (ρ := ρ)))
def aj2 {ρ : Type} := bzk (b1g (ρ := ρ))
theorem aoe {ρ : Type} : aj2 (ρ := ρ) = akk := congrArg bzk b86
def aev {ρ : Type} (a c d e f : Int) (b : Bool) (t u a3 a4 : List Int) (k : (List Int) → Option ρ) : Option ρ := qp a c d e f b a3 fun v w y z A B C F G H g h i j l m n o p q r I => br (!I) (k []) (br ((↑u.length : Int) != a) (k []) (ng v w y z A B C F G H g h i j l m n o p q r fun J => br ((↑t.length : Int) != IntKind.i64.wrap (a * J)) (k []) (sw a u fun s => aj2 t (↑s.length : Int) 0 [] a c d e f b a4 v w y z A B C F G H g h i j l m n o p q r s fun ar au av M aw ax ay az a0 a5 N O Q U W Z aa ab ac ad ae af ag ah ai aj ak al am an ao ap a6 => o9 O Q U W Z aa ab ac ad ae af ag ah ai aj ak al am an ao ap M N fun aq => k aq)))
def qw {ρ : Type} := shut (aev (ρ := ρ))
theorem akj {ρ : Type} (b : Int) (c : Int) (d : Int) (e : Int) (f : Int) (a : Bool) (g : List Int) (h : List Int) (i : List Int) (j : List Int) (k : (List Int) → Option ρ) : qw b c d e f a g h i j k = aev b c d e f a g h i j k := by unfold qw; rw [bq]

abbrev b0j (ρ : Type) := Int → (List Int) → (List Int) → Int → Int → Int → Int → Int → Int → Int → Bool → Int → Int → Int → Int → Int → Bool → (List Int) → (List Int) → Option ρ
def af6 {ρ : Type} (r : Int) (s b : List Int) (q c a l m n o : Int) (p : Bool) (d e f g h : Int) (i : Bool) (j k : List Int) (nx t : b0j ρ) : Option ρ := br (decide (c < q)) (br (decide ((0 : Int) ≤ a)) (br (decide (a ≤ (↑b.length : Int))) (br (decide (c < (0 : Int))) none (br (bits BinOp.and IntKind.u64 (r.fdiv ((2 : Int) ^ min c.toNat 64)) (1 : Int) == (1 : Int)) (br (decide (IntKind.i64.wrap (c + (1 : Int)) < (0 : Int))) none (pz d e f g h i [] j k (IntKind.i64.wrap (c + (1 : Int))) (r.fdiv ((2 : Int) ^ min (IntKind.i64.wrap (c + (1 : Int))).toNat 64)) (List.drop 0 (List.take a.toNat b)) s fun u => br (decide ((0 : Int) ≤ a)) (br (decide (a ≤ (↑b.length : Int))) (br (decide ((↑b.length : Int) ≤ (↑b.length : Int))) (nx r u (List.drop a.toNat (List.take (↑b.length : Int).toNat b)) q (IntKind.i64.wrap (c + (1 : Int))) a l m n o p d e f g h i j k) none) none) none)) (br (decide (IntKind.i64.wrap (c + (1 : Int)) < (0 : Int))) none (pz d e f g h i [] j k (IntKind.i64.wrap (c + (1 : Int))) (r.fdiv ((2 : Int) ^ min (IntKind.i64.wrap (c + (1 : Int))).toNat 64)) s (List.drop 0 (List.take a.toNat b)) fun v => br (decide ((0 : Int) ≤ a)) (br (decide (a ≤ (↑b.length : Int))) (br (decide ((↑b.length : Int) ≤ (↑b.length : Int))) (nx r v (List.drop a.toNat (List.take (↑b.length : Int).toNat b)) q (IntKind.i64.wrap (c + (1 : Int))) a l m n o p d e f g h i j k) none) none) none)))) none) none) (t r s b q c a l m n o p d e f g h i j k)
abbrev btx := Int × (List Int) × (List Int) × Int × Int × Int × Int × Int × Int × Int × Bool × Int × Int × Int × Int × Int × Bool × (List Int) × (List Int)
abbrev b2n := btx
def b7c {ρ : Type} (f : btx → Option ρ) : b0j ρ := fun t p q r s a b c d e g h i j k l m n o => f (t, p, q, r, s, a, b, c, d, e, g, h, i, j, k, l, m, n, o)
def bwz {ρ : Type} : adk btx b2n ρ := fun (s, o, p, q, r, a, b, c, d, e, f, g, h, i, j, k, l, m, n) next ex => af6 s o p q r a b c d e f g h i j k l m n (b7c next) (b7c ex)
def b0y {ρ : Type} := shut (lp (bwz (ρ := ρ)))
theorem b9r {ρ : Type} : b0y (ρ := ρ) = lp bwz := bq _
def by9 {ρ : Type} (f : adj btx b2n ρ) (t : Int) (p q : List Int) (r s a b c d e : Int) (g : Bool) (h i j k l : Int) (m : Bool) (n o : List Int) (u : b0j ρ) : Option ρ := f (t, p, q, r, s, a, b, c, d, e, g, h, i, j, k, l, m, n, o) (fun (t, p, q, r, s, a, b, c, d, e, g, h, i, j, k, l, m, n, o) => u t p q r s a b c d e g h i j k l m n o)
def akl {ρ : Type} := by9 (lp (bwz (ρ := ρ)))
def ako {ρ : Type} := by9 (b0y (ρ := ρ))
theorem aob {ρ : Type} : ako (ρ := ρ) = akl := congrArg by9 b9r
def uy {ρ : Type} (b c d e f : Int) (a : Bool) (g l i m : List Int) (j : Int) (k : (List Int) → Option ρ) : Option ρ := tu b c d e f a [i, l] fun o => br (!o) (k []) (qd b c d e f a fun p => br ((↑g.length : Int) != p) (k []) (jl b c d e f a fun n => br (decide (n < 0)) none (br (j.fdiv (2 ^ min n.toNat 64) != 0) (k []) (jl b c d e f a fun h => br (decide (0 ≤ IntKind.i64.wrap ((↑g.length : Int) - IntKind.i64.wrap (b * h)))) (br (decide (IntKind.i64.wrap ((↑g.length : Int) - IntKind.i64.wrap (b * h)) ≤ (↑g.length : Int))) (nk b c d e f a [] i m j fun q => qw b c d e f a (List.drop 0 (List.take (IntKind.i64.wrap ((↑g.length : Int) - IntKind.i64.wrap (b * h))).toNat g)) l i q fun r => br (decide (0 ≤ IntKind.i64.wrap ((↑g.length : Int) - IntKind.i64.wrap (b * h)))) (br (decide (IntKind.i64.wrap ((↑g.length : Int) - IntKind.i64.wrap (b * h)) ≤ (↑g.length : Int))) (br (decide ((↑g.length : Int) ≤ (↑g.length : Int))) (jl b c d e f a fun s => ako j r (List.drop (IntKind.i64.wrap ((↑g.length : Int) - IntKind.i64.wrap (b * h))).toNat (List.take (↑g.length : Int).toNat g)) s 0 b c d e f a b c d e f a i m fun Q t U u v w y z A B C F G H I J M N O => k t) none) none) none) none) none))))
def qg {ρ : Type} := shut (uy (ρ := ρ))
theorem zk {ρ : Type} (b : Int) (c : Int) (d : Int) (e : Int) (f : Int) (a : Bool) (g : List Int) (h : List Int) (i : List Int) (j : List Int) (l : Int) (k : (List Int) → Option ρ) : qg b c d e f a g h i j l k = uy b c d e f a g h i j l k := by unfold qg; rw [bq]

abbrev b0v (ρ : Type) := (List Int) → (List Int) → Int → (List (List Int)) → Int → Int → Int → Int → Int → Bool → (List Int) → (List Int) → Option ρ
def ag5 {ρ : Type} (j k : List Int) (b : Int) (l : List (List Int)) (a c d e f : Int) (g : Bool) (h i : List Int) (nx m : b0v ρ) : Option ρ := br (decide (b < (↑i.length : Int))) (br (decide (0 ≤ IntKind.i64.wrap (a * b))) (br (decide (IntKind.i64.wrap (a * b) ≤ IntKind.i64.wrap (IntKind.i64.wrap (a * b) + a))) (br (decide (IntKind.i64.wrap (IntKind.i64.wrap (a * b) + a) ≤ (↑j.length : Int))) (br (decide (0 ≤ b)) (br (decide (b < (↑i.length : Int))) (jm h 4 (IntKind.u64.wrap b) fun n => qx a c d e f g (List.drop (IntKind.i64.wrap (a * b)).toNat (List.take (IntKind.i64.wrap (IntKind.i64.wrap (a * b) + a)).toNat j)) (i.getD b.toNat 0) 15 k n fun o => br (decide ((l.length + 1) * 24 ≤ 140737488355328)) (nx j k (IntKind.i64.wrap (b + 1)) (l ++ [o]) a c d e f g h i) none) none) none) none) none) none) (m j k b l a c d e f g h i)
abbrev byn := (List Int) × (List Int) × Int × (List (List Int)) × Int × Int × Int × Int × Int × Bool × (List Int) × (List Int)
abbrev b4l := byn
def b1t {ρ : Type} (f : byn → Option ρ) : b0v ρ := fun j k i l a b c d e g h m => f (j, k, i, l, a, b, c, d, e, g, h, m)
def bxf {ρ : Type} : adk byn b4l ρ := fun (i, j, h, k, a, b, c, d, e, f, g, l) next ex => ag5 i j h k a b c d e f g l (b1t next) (b1t ex)
def b0u {ρ : Type} := shut (lp (bxf (ρ := ρ)))
theorem b93 {ρ : Type} : b0u (ρ := ρ) = lp bxf := bq _
def bz0 {ρ : Type} (f : adj byn b4l ρ) (j k : List Int) (i : Int) (l : List (List Int)) (a b c d e : Int) (g : Bool) (h m : List Int) (n : b0v ρ) : Option ρ := f (j, k, i, l, a, b, c, d, e, g, h, m) (fun (j, k, i, l, a, b, c, d, e, g, h, m) => n j k i l a b c d e g h m)
def al6 {ρ : Type} := bz0 (lp (bxf (ρ := ρ)))
def alx {ρ : Type} := bz0 (b0u (ρ := ρ))
theorem ap9 {ρ : Type} : alx (ρ := ρ) = al6 := congrArg bz0 b93
def afu {ρ : Type} (a c d e f : Int) (b : Bool) (g h i o : List Int) (k : (List Int) → Option ρ) : Option ρ := uz a c d e f b h i fun p => br p (k []) (br ((↑g.length : Int) != IntKind.i64.wrap (a * IntKind.i64.wrap (IntKind.i64.wrap (2 * a) + 3))) (k []) (xk a h fun q => alx g i 0 [] a c d e f b o q fun z r A s t u v w j l m y => aeb t u v w j l s r m fun n => k n))
def uh {ρ : Type} := shut (afu (ρ := ρ))
theorem al3 {ρ : Type} (b : Int) (c : Int) (d : Int) (e : Int) (f : Int) (a : Bool) (g : List Int) (h : List Int) (i : List Int) (j : List Int) (k : (List Int) → Option ρ) : uh b c d e f a g h i j k = afu b c d e f a g h i j k := by unfold uh; rw [bq]

end P
end
