/-
  HssSigns, part 9: an interpreter of my own over abstract values, the pure functions, the walks and the plain law.
-/

import Derived.Test.YtmipokjdajiimaaGreatDoorHssSignsH

noncomputable section
open Go Go.Abs
set_option linter.unusedVariables false
namespace P

def ah2 {ρ : Type} (a : Int) (k : Int → Option ρ) : Option ρ := br (decide (a ≥ (1 : Int))) (br (decide (a ≤ (4 : Int))) (k (IntKind.u64.wrap ((3758096384 : Int) + IntKind.u64.wrap a))) (br (decide (a ≥ (5 : Int))) (br (decide (a ≤ (25 : Int))) (br (a.tmod (5 : Int) == (0 : Int)) (k (IntKind.u64.wrap (IntKind.i64.wrap ((4 : Int) + IntKind.i64.wrap (a.tdiv (5 : Int)))))) (k (0 : Int))) (k (0 : Int))) (k (0 : Int)))) (br (decide (a ≥ (5 : Int))) (br (decide (a ≤ (25 : Int))) (br (a.tmod (5 : Int) == (0 : Int)) (k (IntKind.u64.wrap (IntKind.i64.wrap ((4 : Int) + IntKind.i64.wrap (a.tdiv (5 : Int)))))) (k (0 : Int))) (k (0 : Int))) (k (0 : Int)))
def uw {ρ : Type} := shut (ah2 (ρ := ρ))
theorem anx {ρ : Type} (a : Int) (k : Int → Option ρ) : uw a k = ah2 a k := by unfold uw; rw [au]

def al4 {ρ : Type} (a : Int) (k : Int → Int → Int → Option ρ) : Option ρ := br (a == 1) (k 265 7 1) (br (a == 2) (k 133 6 2) (br (a == 4) (k 67 4 3) (br (a == 8) (k 34 0 4) (k 0 0 0))))
def om {ρ : Type} := shut (al4 (ρ := ρ))
theorem ac9 {ρ : Type} (a : Int) (k : Int → Int → Int → Option ρ) : om a k = al4 a k := by unfold om; rw [au]

def ahy {ρ : Type} (b : Int) (k : Int → Option ρ) : Option ρ := om b fun a c d => br (a == 0) (k 0) (k (IntKind.i64.wrap (36 + IntKind.i64.wrap (32 * a))))
def ac1 {ρ : Type} := shut (ahy (ρ := ρ))
theorem an7 {ρ : Type} (a : Int) (k : Int → Option ρ) : ac1 a k = ahy a k := by unfold ac1; rw [au]

def aok {ρ : Type} (a b : Int) (k : Bool → Option ρ) : Option ρ := uw a fun c => br (c != 0) (ac1 b fun d => k (d != 0)) (k false)
def aev {ρ : Type} := shut (aok (ρ := ρ))
theorem bae {ρ : Type} (a : Int) (b : Int) (k : Bool → Option ρ) : aev a b k = aok a b k := by unfold aev; rw [au]

abbrev zc1 (ρ : Type) := Int → Int → Nat → (List Int) → (List Int) → (List Int) → (List Int) → Option ρ
def agl {ρ : Type} (h d : Int) (c : Nat) (a b e f : List Int) (nx i : zc1 ρ) (g : Bool → Int → Int → Int → Int → Nat → (List Int) → (List Int) → (List Int) → (List Int) → Option ρ) : Option ρ := br (decide (d < (↑c : Int))) (br (decide ((0 : Int) ≤ d)) (br (decide (d < (↑c : Int))) (br (decide (d ≥ (8 : Int))) (g false (a.getD d.toNat (0 : Int)) (b.getD d.toNat (0 : Int)) (0 : Int) (0 : Int) c a b e f) (aev (a.getD d.toNat (0 : Int)) (b.getD d.toNat (0 : Int)) fun j => br (!j) (g false (a.getD d.toNat (0 : Int)) (b.getD d.toNat (0 : Int)) (0 : Int) (0 : Int) c a b e f) (br (decide (a.getD d.toNat (0 : Int) > (10 : Int))) (g false (a.getD d.toNat (0 : Int)) (b.getD d.toNat (0 : Int)) (0 : Int) (0 : Int) c a b e f) (nx (IntKind.i64.wrap (h + a.getD d.toNat (0 : Int))) (IntKind.i64.wrap (d + (1 : Int))) c a b e f)))) none) none) (i h d c a b e f)
abbrev zt1 := Int × Int × Nat × (List Int) × (List Int) × (List Int) × (List Int)
abbrev zy1 := (Int × Int × Nat × (List Int) × (List Int) × (List Int) × (List Int)) ⊕ (Bool × Int × Int × Int × Int × Nat × (List Int) × (List Int) × (List Int) × (List Int))
def zu1 {ρ : Type} (f : zt1 → Option ρ) : zc1 ρ := fun g h a b c d e => f (g, h, a, b, c, d, e)
def zs1 {ρ : Type} : aeb zt1 zy1 ρ := fun (h, i, a, b, c, d, e) next ex => agl h i a b c d e (zu1 next) (fun h i a b c d e => ex (.inl (h, i, a, b, c, d, e))) (fun l j k f g a b c d e => ex (.inr (l, j, k, f, g, a, b, c, d, e)))
def zm1 {ρ : Type} := shut (lp (zs1 (ρ := ρ)))
theorem ze1 {ρ : Type} : zm1 (ρ := ρ) = lp zs1 := au _
def zk1 {ρ : Type} (f : aec zt1 zy1 ρ) (g h : Int) (a : Nat) (b c d e : List Int) (i : zc1 ρ) (j : Bool → Int → Int → Int → Int → Nat → (List Int) → (List Int) → (List Int) → (List Int) → Option ρ) : Option ρ := f (g, h, a, b, c, d, e) (Sum.elim (fun (g, h, a, b, c, d, e) => i g h a b c d e) (fun x => j x.1 x.2.1 x.2.2.1 x.2.2.2.1 x.2.2.2.2.1 x.2.2.2.2.2.1 x.2.2.2.2.2.2.1 x.2.2.2.2.2.2.2.1 x.2.2.2.2.2.2.2.2.1 x.2.2.2.2.2.2.2.2.2))
def aq6 {ρ : Type} := zk1 (lp (zs1 (ρ := ρ)))
def ayr {ρ : Type} := zk1 (zm1 (ρ := ρ))
theorem ao2 {ρ : Type} : ayr (ρ := ρ) = aq6 := congrArg zk1 ze1
def ajs {ρ : Type} (a : Nat) (b c e d : List Int) (k : Bool → Option ρ) : Option ρ := ayr 0 0 a b c e d (fun f s g t u h i => br (decide ((↑g : Int) ≥ 1)) (br (decide (f ≤ 60)) (br ((↑h.length : Int) == 16) (k ((↑i.length : Int) == 32)) (k false)) (k false)) (k false)) fun j v w l m n o p q r => k j
def zm {ρ : Type} := shut (ajs (ρ := ρ))
theorem arl {ρ : Type} (a : Nat) (b : List Int) (c : List Int) (e : List Int) (d : List Int) (k : Bool → Option ρ) : zm a b c e d k = ajs a b c e d k := by unfold zm; rw [au]

abbrev zc2 (ρ : Type) := Nat → (List Int) → (List Int) → Int → Int → Nat → (List Int) → (List Int) → (List Int) → (List Int) → Option ρ
def afq {ρ : Type} (i : Nat) (e f : List Int) (j a : Int) (b : Nat) (c d g h : List Int) (nx l : zc2 ρ) (k : Bool → Int → Int → Int → Int → Nat → (List Int) → (List Int) → (List Int) → (List Int) → Option ρ) : Option ρ := br (decide (a < j)) (br (decide ((0 : Int) ≤ a)) (br (decide (a < (↑i : Int))) (br (decide (e.getD a.toNat (0 : Int) > (2 : Int))) (k false (e.getD a.toNat (0 : Int)) (f.getD a.toNat (0 : Int)) (0 : Int) (0 : Int) b c d g h) (br (decide (f.getD a.toNat (0 : Int) > (2 : Int))) (k false (e.getD a.toNat (0 : Int)) (f.getD a.toNat (0 : Int)) (0 : Int) (0 : Int) b c d g h) (nx i e f j (IntKind.i64.wrap (a + (1 : Int))) b c d g h))) none) none) (l i e f j a b c d g h)
abbrev zt2 := Nat × (List Int) × (List Int) × Int × Int × Nat × (List Int) × (List Int) × (List Int) × (List Int)
abbrev zy2 := (Nat × (List Int) × (List Int) × Int × Int × Nat × (List Int) × (List Int) × (List Int) × (List Int)) ⊕ (Bool × Int × Int × Int × Int × Nat × (List Int) × (List Int) × (List Int) × (List Int))
def zu2 {ρ : Type} (f : zt2 → Option ρ) : zc2 ρ := fun d e g j k a b c h i => f (d, e, g, j, k, a, b, c, h, i)
def zs2 {ρ : Type} : aeb zt2 zy2 ρ := fun (f, g, h, i, j, a, b, c, d, e) next ex => afq f g h i j a b c d e (zu2 next) (fun f g h i j a b c d e => ex (.inl (f, g, h, i, j, a, b, c, d, e))) (fun o m n k l a b c d e => ex (.inr (o, m, n, k, l, a, b, c, d, e)))
def zm2 {ρ : Type} := shut (lp (zs2 (ρ := ρ)))
theorem ze2 {ρ : Type} : zm2 (ρ := ρ) = lp zs2 := au _
def zk2 {ρ : Type} (f : aec zt2 zy2 ρ) (d : Nat) (e g : List Int) (j k : Int) (a : Nat) (b c h i : List Int) (l : zc2 ρ) (m : Bool → Int → Int → Int → Int → Nat → (List Int) → (List Int) → (List Int) → (List Int) → Option ρ) : Option ρ := f (d, e, g, j, k, a, b, c, h, i) (Sum.elim (fun (d, e, g, j, k, a, b, c, h, i) => l d e g j k a b c h i) (fun (d, e, g, j, k, a, b, c, h, i) => m d e g j k a b c h i))
def aln {ρ : Type} := zk2 (lp (zs2 (ρ := ρ)))
def ata {ρ : Type} := zk2 (zm2 (ρ := ρ))
theorem alp {ρ : Type} : ata (ρ := ρ) = aln := congrArg zk2 ze2
def ab3 {ρ : Type} (a : Nat) (b c e d : List Int) (k : Bool → Option ρ) : Option ρ := br (decide ((↑a : Int) > 20)) (k false) (zm a b c e d fun g => br (!g) (k true) (ata a b c (↑a : Int) 0 a b c e d (fun t u v w y h z A B i => k (decide ((↑h : Int) ≤ 2))) fun f j l m n o p q r s => k f))
def ad7 {ρ : Type} := shut (ab3 (ρ := ρ))
theorem afg {ρ : Type} (a : Nat) (b : List Int) (c : List Int) (e : List Int) (d : List Int) (k : Bool → Option ρ) : ad7 a b c e d k = ab3 a b c e d k := by unfold ad7; rw [au]

abbrev zc3 (ρ : Type) := (List (List Int)) → Int → Int → Option ρ
def ai8 {ρ : Type} (b : List (List Int)) (c a : Int) (nx d : zc3 ρ) (e : Bool → Option ρ) : Option ρ := br (decide (a < c)) (br (decide (0 ≤ a)) (br (decide (a < (↑b.length : Int))) (br (decide ((↑(b.getD a.toNat []).length : Int) > 300)) (e false) (nx b c (IntKind.i64.wrap (a + 1)))) none) none) (d b c a)
abbrev zt3 := (List (List Int)) × Int × Int
abbrev zy3 := ((List (List Int)) × Int × Int) ⊕ (Bool)
def zu3 {ρ : Type} (f : zt3 → Option ρ) : zc3 ρ := fun a b c => f (a, b, c)
def zs3 {ρ : Type} : aeb zt3 zy3 ρ := fun (a, b, c) next ex => ai8 a b c (zu3 next) (fun a b c => ex (.inl (a, b, c))) (fun d => ex (.inr d))
def zm3 {ρ : Type} := shut (lp (zs3 (ρ := ρ)))
theorem ze3 {ρ : Type} : zm3 (ρ := ρ) = lp zs3 := au _
def zk3 {ρ : Type} (f : aec zt3 zy3 ρ) (a : List (List Int)) (b c : Int) (d : zc3 ρ) (e : Bool → Option ρ) : Option ρ := f (a, b, c) (Sum.elim (fun (a, b, c) => d a b c) (fun x => e x))
def azw {ρ : Type} := zk3 (lp (zs3 (ρ := ρ)))
def ayv {ρ : Type} := zk3 (zm3 (ρ := ρ))
theorem bcb {ρ : Type} : ayv (ρ := ρ) = azw := congrArg zk3 ze3
def an0 {ρ : Type} (a : List (List Int)) (k : Bool → Option ρ) : Option ρ := ayv a (↑a.length : Int) 0 (fun c d e => k true) fun b => k b
def af2 {ρ : Type} := shut (an0 (ρ := ρ))
theorem az9 {ρ : Type} (a : List (List Int)) (k : Bool → Option ρ) : af2 a k = an0 a k := by unfold af2; rw [au]

def ahl {ρ : Type} (a : Int) (k : Int → Option ρ) : Option ρ := br (a == 1) (br (a == 1) (k (IntKind.u64.wrap (3758096384 + IntKind.u64.wrap a))) (br (a == 5) (br (a == 5) (k (IntKind.u64.wrap (IntKind.u64.wrap ((IntKind.u64.wrap a).tdiv 5) + 4))) (k 0)) (br (a == 10) (br (a == 10) (k (IntKind.u64.wrap (IntKind.u64.wrap ((IntKind.u64.wrap a).tdiv 5) + 4))) (k 0)) (br (a == 15) (br (a == 15) (k (IntKind.u64.wrap (IntKind.u64.wrap ((IntKind.u64.wrap a).tdiv 5) + 4))) (k 0)) (br (a == 20) (br (a == 20) (k (IntKind.u64.wrap (IntKind.u64.wrap ((IntKind.u64.wrap a).tdiv 5) + 4))) (k 0)) (br (a == 25) (k (IntKind.u64.wrap (IntKind.u64.wrap ((IntKind.u64.wrap a).tdiv 5) + 4))) (k 0))))))) (br (a == 2) (br (a == 2) (k (IntKind.u64.wrap (3758096384 + IntKind.u64.wrap a))) (br (a == 5) (br (a == 5) (k (IntKind.u64.wrap (IntKind.u64.wrap ((IntKind.u64.wrap a).tdiv 5) + 4))) (k 0)) (br (a == 10) (br (a == 10) (k (IntKind.u64.wrap (IntKind.u64.wrap ((IntKind.u64.wrap a).tdiv 5) + 4))) (k 0)) (br (a == 15) (br (a == 15) (k (IntKind.u64.wrap (IntKind.u64.wrap ((IntKind.u64.wrap a).tdiv 5) + 4))) (k 0)) (br (a == 20) (br (a == 20) (k (IntKind.u64.wrap (IntKind.u64.wrap ((IntKind.u64.wrap a).tdiv 5) + 4))) (k 0)) (br (a == 25) (k (IntKind.u64.wrap (IntKind.u64.wrap ((IntKind.u64.wrap a).tdiv 5) + 4))) (k 0))))))) (br (a == 3) (br (a == 3) (k (IntKind.u64.wrap (3758096384 + IntKind.u64.wrap a))) (br (a == 5) (br (a == 5) (k (IntKind.u64.wrap (IntKind.u64.wrap ((IntKind.u64.wrap a).tdiv 5) + 4))) (k 0)) (br (a == 10) (br (a == 10) (k (IntKind.u64.wrap (IntKind.u64.wrap ((IntKind.u64.wrap a).tdiv 5) + 4))) (k 0)) (br (a == 15) (br (a == 15) (k (IntKind.u64.wrap (IntKind.u64.wrap ((IntKind.u64.wrap a).tdiv 5) + 4))) (k 0)) (br (a == 20) (br (a == 20) (k (IntKind.u64.wrap (IntKind.u64.wrap ((IntKind.u64.wrap a).tdiv 5) + 4))) (k 0)) (br (a == 25) (k (IntKind.u64.wrap (IntKind.u64.wrap ((IntKind.u64.wrap a).tdiv 5) + 4))) (k 0))))))) (br (a == 4) (k (IntKind.u64.wrap (3758096384 + IntKind.u64.wrap a))) (br (a == 5) (br (a == 5) (k (IntKind.u64.wrap (IntKind.u64.wrap ((IntKind.u64.wrap a).tdiv 5) + 4))) (k 0)) (br (a == 10) (br (a == 10) (k (IntKind.u64.wrap (IntKind.u64.wrap ((IntKind.u64.wrap a).tdiv 5) + 4))) (k 0)) (br (a == 15) (br (a == 15) (k (IntKind.u64.wrap (IntKind.u64.wrap ((IntKind.u64.wrap a).tdiv 5) + 4))) (k 0)) (br (a == 20) (br (a == 20) (k (IntKind.u64.wrap (IntKind.u64.wrap ((IntKind.u64.wrap a).tdiv 5) + 4))) (k 0)) (br (a == 25) (k (IntKind.u64.wrap (IntKind.u64.wrap ((IntKind.u64.wrap a).tdiv 5) + 4))) (k 0)))))))))
def o8 {ρ : Type} := shut (ahl (ρ := ρ))
theorem an4 {ρ : Type} (a : Int) (k : Int → Option ρ) : o8 a k = ahl a k := by unfold o8; rw [au]

def ac0 {ρ : Type} (a : Int) (k : Int → Option ρ) : Option ρ := br (a == 1) (k 1) (br (a == 2) (k 2) (br (a == 4) (k 3) (br (a == 8) (k 4) (k 0))))
def qc {ρ : Type} := shut (ac0 (ρ := ρ))
theorem ahb {ρ : Type} (a : Int) (k : Int → Option ρ) : qc a k = ac0 a k := by unfold qc; rw [au]

def akb {ρ : Type} (a b : Int) (k : Bool → Option ρ) : Option ρ := o8 a fun c => br (c != 0) (qc b fun d => k (d != 0)) (k false)
def acr {ρ : Type} := shut (akb (ρ := ρ))
theorem aru {ρ : Type} (a : Int) (b : Int) (k : Bool → Option ρ) : acr a b k = akb a b k := by unfold acr; rw [au]

abbrev zc4 (ρ : Type) := Int → Nat → (List Int) → (List Int) → Int → Int → Nat → (List Int) → (List Int) → (List Int) → (List Int) → Option ρ
def agk {ρ : Type} (k : Int) (i : Nat) (b f : List Int) (j a : Int) (c : Nat) (d e g h : List Int) (nx m : zc4 ρ) (l : Bool → Int → Int → Int → Int → Nat → (List Int) → (List Int) → (List Int) → (List Int) → Option ρ) : Option ρ := br (decide (a < j)) (br (decide ((0 : Int) ≤ a)) (br (decide (a < (↑i : Int))) (acr (b.getD a.toNat (0 : Int)) (f.getD a.toNat (0 : Int)) fun n => br (!n) (l false (b.getD a.toNat (0 : Int)) (f.getD a.toNat (0 : Int)) (0 : Int) (0 : Int) c d e g h) (br (decide (b.getD a.toNat (0 : Int) > (10 : Int))) (l false (b.getD a.toNat (0 : Int)) (f.getD a.toNat (0 : Int)) (0 : Int) (0 : Int) c d e g h) (nx (IntKind.i64.wrap (k + b.getD a.toNat (0 : Int))) i b f j (IntKind.i64.wrap (a + (1 : Int))) c d e g h))) none) none) (m k i b f j a c d e g h)
abbrev zt4 := Int × Nat × (List Int) × (List Int) × Int × Int × Nat × (List Int) × (List Int) × (List Int) × (List Int)
abbrev zy4 := (Int × Nat × (List Int) × (List Int) × Int × Int × Nat × (List Int) × (List Int) × (List Int) × (List Int)) ⊕ (Bool × Int × Int × Int × Int × Nat × (List Int) × (List Int) × (List Int) × (List Int))
def zu4 {ρ : Type} (f : zt4 → Option ρ) : zc4 ρ := fun l d e g j k a b c h i => f (l, d, e, g, j, k, a, b, c, h, i)
def zs4 {ρ : Type} : aeb zt4 zy4 ρ := fun (m, f, g, h, i, j, a, b, c, d, e) next ex => agk m f g h i j a b c d e (zu4 next) (fun m f g h i j a b c d e => ex (.inl (m, f, g, h, i, j, a, b, c, d, e))) (fun p n o k l a b c d e => ex (.inr (p, n, o, k, l, a, b, c, d, e)))
def zm4 {ρ : Type} := shut (lp (zs4 (ρ := ρ)))
theorem ze4 {ρ : Type} : zm4 (ρ := ρ) = lp zs4 := au _
def zk4 {ρ : Type} (f : aec zt4 zy4 ρ) (l : Int) (d : Nat) (e g : List Int) (j k : Int) (a : Nat) (b c h i : List Int) (m : zc4 ρ) (n : Bool → Int → Int → Int → Int → Nat → (List Int) → (List Int) → (List Int) → (List Int) → Option ρ) : Option ρ := f (l, d, e, g, j, k, a, b, c, h, i) (Sum.elim (fun (l, d, e, g, j, k, a, b, c, h, i) => m l d e g j k a b c h i) (fun x => n x.1 x.2.1 x.2.2.1 x.2.2.2.1 x.2.2.2.2.1 x.2.2.2.2.2.1 x.2.2.2.2.2.2.1 x.2.2.2.2.2.2.2.1 x.2.2.2.2.2.2.2.2.1 x.2.2.2.2.2.2.2.2.2))
def aq8 {ρ : Type} := zk4 (lp (zs4 (ρ := ρ)))
def azr {ρ : Type} := zk4 (zm4 (ρ := ρ))
theorem aqt {ρ : Type} : azr (ρ := ρ) = aq8 := congrArg zk4 ze4
def ahh {ρ : Type} (a : Nat) (b c e d : List Int) (k : Bool → Option ρ) : Option ρ := br (decide ((↑a : Int) > 8)) (k false) (azr 0 a b c (↑a : Int) 0 a b c e d (fun h u v w y z i A B j f => br (decide ((↑i : Int) > 0)) (br (decide (h ≤ 60)) (br ((↑j.length : Int) == 16) (k ((↑f.length : Int) == 32)) (k false)) (k false)) (k false)) fun g l m n o p q r s t => k g)
def adb {ρ : Type} := shut (ahh (ρ := ρ))
theorem amg {ρ : Type} (a : Nat) (b : List Int) (c : List Int) (e : List Int) (d : List Int) (k : Bool → Option ρ) : adb a b c e d k = ahh a b c e d k := by unfold adb; rw [au]

abbrev zc5 (ρ : Type) := Int → Nat → (List Int) → (List Int) → Int → Int → Option ρ
def aoh {ρ : Type} (f : Int) (b : Nat) (c d : List Int) (e a : Int) (nx g : zc5 ρ) : Option ρ := br (decide (a < e)) (br (decide (0 ≤ a)) (br (decide (a < (↑b : Int))) (nx (IntKind.i64.wrap (f + c.getD a.toNat 0)) b c d e (IntKind.i64.wrap (a + 1))) none) none) (g f b c d e a)
abbrev zt5 := Int × Nat × (List Int) × (List Int) × Int × Int
abbrev zy5 := zt5
def zu5 {ρ : Type} (f : zt5 → Option ρ) : zc5 ρ := fun d a b c e g => f (d, a, b, c, e, g)
def zs5 {ρ : Type} : aeb zt5 zy5 ρ := fun (d, a, b, c, e, f) next ex => aoh d a b c e f (zu5 next) (zu5 ex)
def zm5 {ρ : Type} := shut (lp (zs5 (ρ := ρ)))
theorem ze5 {ρ : Type} : zm5 (ρ := ρ) = lp zs5 := au _
def zk5 {ρ : Type} (f : aec zt5 zy5 ρ) (d : Int) (a : Nat) (b c : List Int) (e g : Int) (h : zc5 ρ) : Option ρ := f (d, a, b, c, e, g) (fun (d, a, b, c, e, g) => h d a b c e g)
def avx {ρ : Type} := zk5 (lp (zs5 (ρ := ρ)))
def awu {ρ : Type} := zk5 (zm5 (ρ := ρ))
theorem ax9 {ρ : Type} : awu (ρ := ρ) = avx := congrArg zk5 ze5
def akt {ρ : Type} (a : Nat) (b c e d : List Int) (k : Int → Option ρ) : Option ρ := awu 0 a b c (↑a : Int) 0 fun f g h i j l => k f
def ab7 {ρ : Type} := shut (akt (ρ := ρ))
theorem axf {ρ : Type} (a : Nat) (b : List Int) (c : List Int) (e : List Int) (d : List Int) (k : Int → Option ρ) : ab7 a b c e d k = akt a b c e d k := by unfold ab7; rw [au]

abbrev zc6 (ρ : Type) := Int → Int → Nat → (List Int) → (List Int) → Int → Int → (List Int) → Option ρ
def ajk {ρ : Type} (h g : Int) (c : Nat) (b d : List Int) (e a : Int) (f : List Int) (nx i : zc6 ρ) : Option ρ := br (decide (a < e)) (br (decide ((0 : Int) ≤ a)) (br (decide (a < (↑c : Int))) (br (decide (IntKind.i64.wrap (g - b.getD a.toNat (0 : Int)) < (0 : Int))) none (br (decide (b.getD a.toNat (0 : Int) < (0 : Int))) none (br (decide ((f.length + 1) * 4 ≤ 140737488355328)) (nx h (IntKind.i64.wrap (g - b.getD a.toNat (0 : Int))) c b d e (IntKind.i64.wrap (a + (1 : Int))) (f ++ [bits BinOp.and IntKind.u32 (IntKind.u32.wrap (h.fdiv ((2 : Int) ^ min (IntKind.i64.wrap (g - b.getD a.toNat (0 : Int))).toNat 64))) (IntKind.u32.wrap (IntKind.u32.wrap ((1 : Int) * (2 : Int) ^ min (b.getD a.toNat (0 : Int)).toNat 32) - (1 : Int)))])) none))) none) none) (i h g c b d e a f)
abbrev zt6 := Int × Int × Nat × (List Int) × (List Int) × Int × Int × (List Int)
abbrev zy6 := zt6
def zu6 {ρ : Type} (f : zt6 → Option ρ) : zc6 ρ := fun h i a b c d e g => f (h, i, a, b, c, d, e, g)
def zs6 {ρ : Type} : aeb zt6 zy6 ρ := fun (g, h, a, b, c, d, e, f) next ex => ajk g h a b c d e f (zu6 next) (zu6 ex)
def zm6 {ρ : Type} := shut (lp (zs6 (ρ := ρ)))
theorem ze6 {ρ : Type} : zm6 (ρ := ρ) = lp zs6 := au _
def zk6 {ρ : Type} (f : aec zt6 zy6 ρ) (h i : Int) (a : Nat) (b c : List Int) (d e : Int) (g : List Int) (j : zc6 ρ) : Option ρ := f (h, i, a, b, c, d, e, g) (fun (h, i, a, b, c, d, e, g) => j h i a b c d e g)
def apm {ρ : Type} := zk6 (lp (zs6 (ρ := ρ)))
def apf {ρ : Type} := zk6 (zm6 (ρ := ρ))
theorem atz {ρ : Type} : apf (ρ := ρ) = apm := congrArg zk6 ze6
def acy {ρ : Type} (a : Nat) (b c e d : List Int) (f : Int) (k : (List Int) → Int → Option ρ) : Option ρ := adb a b c e d fun i => br (!i) (k [] 10) (ab7 a b c e d fun g => br (decide (g < 0)) none (br (f.fdiv (2 ^ min g.toNat 64) != 0) (k [] 13) (ab7 a b c e d fun j => apf f j a b c (↑a : Int) 0 [] fun l m n o p q r h => k h 0)))
def ow {ρ : Type} := shut (acy (ρ := ρ))
theorem af5 {ρ : Type} (a : Nat) (b : List Int) (c : List Int) (e : List Int) (d : List Int) (f : Int) (k : (List Int) → Int → Option ρ) : ow a b c e d f k = acy a b c e d f k := by unfold ow; rw [au]

def ais {ρ : Type} (a : Nat) (b c e d : List Int) (k : Int → Option ρ) : Option ρ := adb a b c e d fun g => br (!g) (k 0) (ab7 a b c e d fun f => br (decide (f < 0)) none (k (IntKind.u64.wrap (1 * 2 ^ min f.toNat 64))))
def acg {ρ : Type} := shut (ais (ρ := ρ))
theorem aoy {ρ : Type} (a : Nat) (b : List Int) (c : List Int) (e : List Int) (d : List Int) (k : Int → Option ρ) : acg a b c e d k = ais a b c e d k := by unfold acg; rw [au]

abbrev zc7 (ρ : Type) := Int → (List Int) → Int → Int → Option ρ
def anj {ρ : Type} (d : Int) (b : List Int) (c a : Int) (nx e : zc7 ρ) : Option ρ := br (decide (a < c)) (br (decide (0 ≤ a)) (br (decide (a < (↑b.length : Int))) (nx (bits BinOp.or IntKind.u64 (IntKind.u64.wrap (d * 2 ^ 8)) (IntKind.u64.wrap (b.getD a.toNat 0))) b c (IntKind.i64.wrap (a + 1))) none) none) (e d b c a)
abbrev zt7 := Int × (List Int) × Int × Int
abbrev zy7 := zt7
def zu7 {ρ : Type} (f : zt7 → Option ρ) : zc7 ρ := fun a b c d => f (a, b, c, d)
def zs7 {ρ : Type} : aeb zt7 zy7 ρ := fun (a, b, c, d) next ex => anj a b c d (zu7 next) (zu7 ex)
def zm7 {ρ : Type} := shut (lp (zs7 (ρ := ρ)))
theorem ze7 {ρ : Type} : zm7 (ρ := ρ) = lp zs7 := au _
def zk7 {ρ : Type} (f : aec zt7 zy7 ρ) (a : Int) (b : List Int) (c d : Int) (e : zc7 ρ) : Option ρ := f (a, b, c, d) (fun (a, b, c, d) => e a b c d)
def aw0 {ρ : Type} := zk7 (lp (zs7 (ρ := ρ)))
def ax1 {ρ : Type} := zk7 (zm7 (ρ := ρ))
theorem ayd {ρ : Type} : ax1 (ρ := ρ) = aw0 := congrArg zk7 ze7
def ak7 {ρ : Type} (a : List Int) (k : Int → Option ρ) : Option ρ := ax1 0 a (↑a.length : Int) 0 fun b c d e => k b
def jo {ρ : Type} := shut (ak7 (ρ := ρ))
theorem aw9 {ρ : Type} (a : List Int) (k : Int → Option ρ) : jo a k = ak7 a k := by unfold jo; rw [au]

def acu {ρ : Type} (a : Int) (k : (List Int) → Option ρ) : Option ρ := br (decide (a < 0)) none (br (decide (IntKind.i64.wrap (a - IntKind.i64.wrap (0 - (↑0 : Int))) > 0)) (br (decide (0 ≤ IntKind.i64.wrap (a - IntKind.i64.wrap (0 - (↑0 : Int))))) (br (decide ((IntKind.i64.wrap (a - IntKind.i64.wrap (0 - (↑0 : Int)))).toNat * 1 ≤ 140737488355328)) (k (List.take ((↑0 : Int) - (0 : Int)).toNat (List.replicate (IntKind.i64.wrap (a - IntKind.i64.wrap (0 - (↑0 : Int)))).toNat (0 : Int)))) none) none) (k []))
def nu {ρ : Type} := shut (acu (ρ := ρ))
theorem agm {ρ : Type} (a : Int) (k : (List Int) → Option ρ) : nu a k = acu a k := by unfold nu; rw [au]

abbrev zc8 (ρ : Type) := (List (List Int)) → Int → (List (List Int)) → Int → Int → Option ρ
def abo {ρ : Type} (e : List (List Int)) (d : Int) (b : List (List Int)) (c a : Int) (nx f : zc8 ρ) : Option ρ := br (decide (a < c)) (br (decide (0 ≤ a)) (br (decide (a < (↑b.length : Int))) (br (decide (IntKind.i64.wrap (d + (↑(b.getD a.toNat []).length : Int)) < 0)) none (nx e (IntKind.i64.wrap (d + (↑(b.getD a.toNat []).length : Int))) b c (IntKind.i64.wrap (a + 1)))) none) none) (f e d b c a)
abbrev zt8 := (List (List Int)) × Int × (List (List Int)) × Int × Int
abbrev zy8 := zt8
def zu8 {ρ : Type} (f : zt8 → Option ρ) : zc8 ρ := fun c d e a b => f (c, d, e, a, b)
def zs8 {ρ : Type} : aeb zt8 zy8 ρ := fun (c, d, e, a, b) next ex => abo c d e a b (zu8 next) (zu8 ex)
def zm8 {ρ : Type} := shut (lp (zs8 (ρ := ρ)))
theorem ze8 {ρ : Type} : zm8 (ρ := ρ) = lp zs8 := au _
def zk8 {ρ : Type} (f : aec zt8 zy8 ρ) (c : List (List Int)) (d : Int) (e : List (List Int)) (a b : Int) (g : zc8 ρ) : Option ρ := f (c, d, e, a, b) (fun (c, d, e, a, b) => g c d e a b)
def afc {ρ : Type} := zk8 (lp (zs8 (ρ := ρ)))
def afo {ρ : Type} := zk8 (zm8 (ρ := ρ))
theorem ai7 {ρ : Type} : afo (ρ := ρ) = afc := congrArg zk8 ze8
abbrev zc9 (ρ : Type) := (List (List Int)) → Int → Int → (List Int) → Option ρ
def aa0 {ρ : Type} (b : List (List Int)) (c a : Int) (d : List Int) (nx e : zc9 ρ) : Option ρ := br (decide (a < c)) (br (decide (0 ≤ a)) (br (decide (a < (↑b.length : Int))) (br (decide ((d.length + (b.getD a.toNat []).length) * 1 ≤ 140737488355328)) (nx b c (IntKind.i64.wrap (a + 1)) (d ++ b.getD a.toNat [])) none) none) none) (e b c a d)
abbrev zt9 := (List (List Int)) × Int × Int × (List Int)
abbrev zy9 := zt9
def zu9 {ρ : Type} (f : zt9 → Option ρ) : zc9 ρ := fun a b c d => f (a, b, c, d)
def zs9 {ρ : Type} : aeb zt9 zy9 ρ := fun (a, b, c, d) next ex => aa0 a b c d (zu9 next) (zu9 ex)
def zm9 {ρ : Type} := shut (lp (zs9 (ρ := ρ)))
theorem ze9 {ρ : Type} : zm9 (ρ := ρ) = lp zs9 := au _
def zk9 {ρ : Type} (f : aec zt9 zy9 ρ) (a : List (List Int)) (b c : Int) (d : List Int) (e : zc9 ρ) : Option ρ := f (a, b, c, d) (fun (a, b, c, d) => e a b c d)
def aed {ρ : Type} := zk9 (lp (zs9 (ρ := ρ)))
def aeg {ρ : Type} := zk9 (zm9 (ρ := ρ))
theorem ah7 {ρ : Type} : aeg (ρ := ρ) = aed := congrArg zk9 ze9
def aa3 {ρ : Type} (a : List (List Int)) (k : (List Int) → Option ρ) : Option ρ := afo a 0 a (↑a.length : Int) 0 fun b c f g h => nu c fun d => aeg b (↑b.length : Int) 0 d fun i j l e => k e
def iy {ρ : Type} := shut (aa3 (ρ := ρ))
theorem afh {ρ : Type} (a : List (List Int)) (k : (List Int) → Option ρ) : iy a k = aa3 a k := by unfold iy; rw [au]

def akd {ρ : Type} (a : List (List Int)) (k : (List Int) → Option ρ) : Option ρ := iy a fun b => k b
def fq {ρ : Type} := shut (akd (ρ := ρ))
theorem atr {ρ : Type} (a : List (List Int)) (k : (List Int) → Option ρ) : fq a k = akd a k := by unfold fq; rw [au]

abbrev b1t (ρ : Type) := Int → Int → Int → (List Int) → Option ρ
def ar6 {ρ : Type} (c b a : Int) (d : List Int) (nx e : b1t ρ) : Option ρ := br (decide (a < b)) (br (decide (IntKind.i64.wrap (8 * a) < 0)) none (br (decide (0 ≤ a)) (br (decide (a < (↑d.length : Int))) (nx c b (IntKind.i64.wrap (a + 1)) (d.set a.toNat (IntKind.u8.wrap (c.fdiv (2 ^ min (IntKind.i64.wrap (8 * a)).toNat 64))))) none) none)) (e c b a d)
abbrev bv3 := Int × Int × Int × (List Int)
abbrev b0h := bv3
def b31 {ρ : Type} (f : bv3 → Option ρ) : b1t ρ := fun c a b d => f (c, a, b, d)
def bu5 {ρ : Type} : aeb bv3 b0h ρ := fun (c, a, b, d) next ex => ar6 c a b d (b31 next) (b31 ex)
def bzr {ρ : Type} := shut (lp (bu5 (ρ := ρ)))
theorem b5w {ρ : Type} : bzr (ρ := ρ) = lp bu5 := au _
def bxm {ρ : Type} (f : aec bv3 b0h ρ) (c a b : Int) (d : List Int) (e : b1t ρ) : Option ρ := f (c, a, b, d) (fun (c, a, b, d) => e c a b d)
def aze {ρ : Type} := bxm (lp (bu5 (ρ := ρ)))
def azd {ρ : Type} := bxm (bzr (ρ := ρ))
theorem bcm {ρ : Type} : azd (ρ := ρ) = aze := congrArg bxm b5w
def aoj {ρ : Type} (b a : Int) (k : (List Int) → Option ρ) : Option ρ := br (decide (a < 0)) (k []) (br (decide (a > 65536)) (k []) (br (decide (0 ≤ a)) (br (decide (a ≤ a)) (br (decide (a * (↑1 : Int) ≤ (↑140737488355328 : Int))) (azd b (bif decide (8 < a) then 8 else a) 0 (List.replicate a.toNat (0 : Int)) fun d e f c => k c) none) none) none))
def aes {ρ : Type} := shut (aoj (ρ := ρ))
theorem azq {ρ : Type} (a : Int) (b : Int) (k : (List Int) → Option ρ) : aes a b k = aoj a b k := by unfold aes; rw [au]

abbrev b1o (ρ : Type) := Int → Int → (List Int) → Option ρ
def akz {ρ : Type} (a b : Int) (c : List Int) (nx d : b1o ρ) : Option ρ := br (decide (a < b)) (br (decide (0 ≤ b)) (br (decide (b < (↑c.length : Int))) (br (decide (0 ≤ a)) (br (decide (a < (↑c.length : Int))) (br (decide (0 ≤ a)) (br (decide (a < (↑c.length : Int))) (br (decide (0 ≤ b)) (br (decide (b < (↑(c.set a.toNat (c.getD b.toNat 0)).length : Int))) (nx (IntKind.i64.wrap (a + 1)) (IntKind.i64.wrap (b - 1)) ((c.set a.toNat (c.getD b.toNat 0)).set b.toNat (c.getD a.toNat 0))) none) none) none) none) none) none) none) none) (d a b c)
abbrev bxa := Int × Int × (List Int)
abbrev b24 := bxa
def b2i {ρ : Type} (f : bxa → Option ρ) : b1o ρ := fun a b c => f (a, b, c)
def bvs {ρ : Type} : aeb bxa b24 ρ := fun (a, b, c) next ex => akz a b c (b2i next) (b2i ex)
def b5c {ρ : Type} := shut (lp (bvs (ρ := ρ)))
theorem b5t {ρ : Type} : b5c (ρ := ρ) = lp bvs := au _
def by0 {ρ : Type} (f : aec bxa b24 ρ) (a b : Int) (c : List Int) (d : b1o ρ) : Option ρ := f (a, b, c) (fun (a, b, c) => d a b c)
def as4 {ρ : Type} := by0 (lp (bvs (ρ := ρ)))
def atm {ρ : Type} := by0 (b5c (ρ := ρ))
theorem ax3 {ρ : Type} : atm (ρ := ρ) = as4 := congrArg by0 b5t
def aoo {ρ : Type} (b c : Int) (k : (List Int) → Option ρ) : Option ρ := aes b c fun a => atm 0 (IntKind.i64.wrap ((↑a.length : Int) - 1)) a fun e f d => k d
def gu {ρ : Type} := shut (aoo (ρ := ρ))
theorem az6 {ρ : Type} (a : Int) (b : Int) (k : (List Int) → Option ρ) : gu a b k = aoo a b k := by unfold gu; rw [au]

def alm {ρ : Type} (a b : Int) (k : (List Int) → Option ρ) : Option ρ := o8 a fun c => gu c 4 fun d => qc b fun e => gu e 4 fun f => fq [d, f] fun g => k g
def ac2 {ρ : Type} := shut (alm (ρ := ρ))
theorem awy {ρ : Type} (a : Int) (b : Int) (k : (List Int) → Option ρ) : ac2 a b k = alm a b k := by unfold ac2; rw [au]

def air {ρ : Type} (a : Int) (k : Int → Option ρ) : Option ρ := br (decide (a > 3758096384)) (br (decide (a ≤ 3758096388)) (k (IntKind.i64.wrap (IntKind.u64.wrap (a - 3758096384)))) (br (decide (a ≥ 5)) (br (decide (a ≤ 9)) (k (IntKind.i64.wrap (5 * IntKind.i64.wrap (IntKind.u64.wrap (a - 4))))) (k 0)) (k 0))) (br (decide (a ≥ 5)) (br (decide (a ≤ 9)) (k (IntKind.i64.wrap (5 * IntKind.i64.wrap (IntKind.u64.wrap (a - 4))))) (k 0)) (k 0))
def uq {ρ : Type} := shut (air (ρ := ρ))
theorem ao7 {ρ : Type} (a : Int) (k : Int → Option ρ) : uq a k = air a k := by unfold uq; rw [au]

def ajl {ρ : Type} (a : Int) (k : Int → Option ρ) : Option ρ := br (decide (a < 1)) (k 0) (br (decide (a > 4)) (k 0) (br (decide (IntKind.u64.wrap (a - 1) < 0)) none (k (IntKind.i64.wrap (1 * 2 ^ min (IntKind.u64.wrap (a - 1)).toNat 64)))))
def yx {ρ : Type} := shut (ajl (ρ := ρ))
theorem atf {ρ : Type} (a : Int) (k : Int → Option ρ) : yx a k = ajl a k := by unfold yx; rw [au]

def aks {ρ : Type} (a : Int) (k : Int → Int → Int → Bool → Option ρ) : Option ρ := br (a == 1) (k 265 7 1 true) (br (a == 2) (k 133 6 2 true) (br (a == 4) (k 67 4 3 true) (br (a == 8) (k 34 0 4 true) (k 0 0 0 false))))
def ng {ρ : Type} := shut (aks (ρ := ρ))
theorem aav {ρ : Type} (a : Int) (k : Int → Int → Int → Bool → Option ρ) : ng a k = aks a k := by unfold ng; rw [au]

def ah6 {ρ : Type} (a : Int) (k : Int → Option ρ) : Option ρ := ng a fun b d e c => br (!c) (k 0) (k (IntKind.i64.wrap (36 + IntKind.i64.wrap (32 * b))))
def lq {ρ : Type} := shut (ah6 (ρ := ρ))
theorem aor {ρ : Type} (a : Int) (k : Int → Option ρ) : lq a k = ah6 a k := by unfold lq; rw [au]

def ak3 {ρ : Type} (a b : Int) (k : Int → Option ρ) : Option ρ := acr a b fun c => br (!c) (k 0) (lq b fun d => k (IntKind.i64.wrap (IntKind.i64.wrap (IntKind.i64.wrap (4 + d) + 4) + IntKind.i64.wrap (32 * a))))
def agc {ρ : Type} := shut (ak3 (ρ := ρ))
theorem axy {ρ : Type} (a : Int) (b : Int) (k : Int → Option ρ) : agc a b k = ak3 a b k := by unfold agc; rw [au]

def am9 {ρ : Type} (a : List Int) (k : (List Int) → Int → Int → (List Int) → Int → Option ρ) : Option ρ := br (decide ((↑a.length : Int) < 8)) (k [] 0 0 [] 1) (br (decide (8 ≤ (↑a.length : Int))) (jo (List.drop 4 (List.take (Int.toNat 8) a)) fun f => yx f fun d => br (d == 0) (k [] 0 0 [] 9) (lq d fun b => br (decide ((↑a.length : Int) < IntKind.i64.wrap (IntKind.i64.wrap (4 + b) + 4))) (k [] 0 0 [] 1) (br (decide (0 ≤ IntKind.i64.wrap (4 + b))) (br (decide (IntKind.i64.wrap (4 + b) ≤ IntKind.i64.wrap (IntKind.i64.wrap (4 + b) + 4))) (br (decide (IntKind.i64.wrap (IntKind.i64.wrap (4 + b) + 4) ≤ (↑a.length : Int))) (jo (List.drop (IntKind.i64.wrap (4 + b)).toNat (List.take (IntKind.i64.wrap (IntKind.i64.wrap (4 + b) + 4)).toNat a)) fun g => uq g fun e => br (e == 0) (k [] 0 0 [] 9) (agc e d fun c => br (decide ((↑a.length : Int) < c)) (k [] 0 0 [] 1) (br (decide (0 ≤ c)) (br (decide (c ≤ (↑a.length : Int))) (fq [List.drop 0 (List.take c.toNat a)] fun h => br (decide (0 ≤ c)) (br (decide (c ≤ (↑a.length : Int))) (br (decide ((↑a.length : Int) ≤ (↑a.length : Int))) (fq [List.drop c.toNat (List.take (↑a.length : Int).toNat a)] fun i => k h e d i 0) none) none) none) none) none))) none) none) none))) none)
def aeo {ρ : Type} := shut (am9 (ρ := ρ))
theorem azm {ρ : Type} (a : List Int) (k : (List Int) → Int → Int → (List Int) → Int → Option ρ) : aeo a k = am9 a k := by unfold aeo; rw [au]

abbrev b2r (ρ : Type) := (List Int) → (List Int) → Int → Int → Int → Option ρ
def alb {ρ : Type} (c d : List Int) (e b a : Int) (nx f : b2r ρ) : Option ρ := br (decide (a < b)) (br (decide (0 ≤ a)) (br (decide (a < (↑c.length : Int))) (br (decide (0 ≤ a)) (br (decide (a < (↑d.length : Int))) (nx c d (bits BinOp.or IntKind.u8 e (bits BinOp.xor IntKind.u8 (c.getD a.toNat 0) (d.getD a.toNat 0))) b (IntKind.i64.wrap (a + 1))) none) none) none) none) (f c d e b a)
abbrev bty := (List Int) × (List Int) × Int × Int × Int
abbrev bz4 := bty
def b1m {ρ : Type} (f : bty → Option ρ) : b2r ρ := fun c d e a b => f (c, d, e, a, b)
def zs12 {ρ : Type} : aeb bty bz4 ρ := fun (c, d, e, a, b) next ex => alb c d e a b (b1m next) (b1m ex)
def b1p {ρ : Type} := shut (lp (zs12 (ρ := ρ)))
theorem b5y {ρ : Type} : b1p (ρ := ρ) = lp zs12 := au _
def byl {ρ : Type} (f : aec bty bz4 ρ) (c d : List Int) (e a b : Int) (g : b2r ρ) : Option ρ := f (c, d, e, a, b) (fun (c, d, e, a, b) => g c d e a b)
def as9 {ρ : Type} := byl (lp (zs12 (ρ := ρ)))
def as8 {ρ : Type} := byl (b1p (ρ := ρ))
theorem axv {ρ : Type} : as8 (ρ := ρ) = as9 := congrArg byl b5y
def akc {ρ : Type} (a b : List Int) (k : Bool → Option ρ) : Option ρ := br ((↑a.length : Int) != (↑b.length : Int)) (k false) (as8 a b 0 (↑a.length : Int) 0 fun d e c f g => k (c == 0))
def abz {ρ : Type} := shut (akc (ρ := ρ))
theorem asq {ρ : Type} (a : List Int) (b : List Int) (k : Bool → Option ρ) : abz a b k = akc a b k := by unfold abz; rw [au]

def aqr {ρ : Type} (a : Int) (k : (List Int) → Bool → Option ρ) : Option ρ := br (a == 1) (k [1779033703, 3144134277, 1013904242, 2773480762, 1359893119, 2600822924, 528734635, 1541459225] true) (br (a == 2) (k [14680500436340154072, 7105036623409894663, 10473403895298186519, 1526699215303891257, 7436329637833083697, 10282925794625328401, 15784041429090275239, 5167115440072839076] true) (br (a == 3) (k [7640891576956012808, 13503953896175478587, 4354685564936845355, 11912009170470909681, 5840696475078001361, 11170449401992604703, 2270897969802886507, 6620516959819538809] true) (k [0, 0, 0, 0, 0, 0, 0, 0] false)))
def ads {ρ : Type} := shut (aqr (ρ := ρ))
theorem aso {ρ : Type} (a : Int) (k : (List Int) → Bool → Option ρ) : ads a k = aqr a k := by unfold ads; rw [au]

def ano {ρ : Type} (a : Int) (k : Int → (List Int) → (List Int) → Int → Int → Option ρ) : Option ρ := ads a fun b c => br (!c) (k 0 [0, 0, 0, 0, 0, 0, 0, 0] [] 0 9) (k a b [] 0 0)
def aah {ρ : Type} := shut (ano (ρ := ρ))
theorem ayo {ρ : Type} (a : Int) (k : Int → (List Int) → (List Int) → Int → Int → Option ρ) : aah a k = ano a k := by unfold aah; rw [au]

end P
end
