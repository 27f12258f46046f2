/-
  HssVerifies, part 9: an interpreter of my own over abstract values, the pure functions, the walks and the plain law.
-/

import Derived.Test.YtmipokjdajiimaaDoorHssVerifiesH

noncomputable section
open Go Go.Abs
set_option linter.unusedVariables false
namespace P

abbrev zc1 (ρ : Type) := (List (List Int)) → Int → Int → Option ρ
def ahb {ρ : Type} (b : List (List Int)) (c a : Int) (nx d : zc1 ρ) (e : Bool → Option ρ) : Option ρ := br (decide (a < c)) (br (decide (0 ≤ a)) (br (decide (a < (↑b.length : Int))) (br (decide ((↑(b.getD a.toNat []).length : Int) > 300)) (e false) (nx b c (IntKind.i64.wrap (a + 1)))) none) none) (d b c a)
abbrev zt1 := (List (List Int)) × Int × Int
abbrev zy1 := ((List (List Int)) × Int × Int) ⊕ (Bool)
def zu1 {ρ : Type} (f : zt1 → Option ρ) : zc1 ρ := fun a b c => f (a, b, c)
def zs1 {ρ : Type} : aeh zt1 zy1 ρ := fun (a, b, c) next ex => ahb a b c (zu1 next) (fun a b c => ex (.inl (a, b, c))) (fun d => ex (.inr d))
def zm1 {ρ : Type} := shut (lp (zs1 (ρ := ρ)))
theorem ze1 {ρ : Type} : zm1 (ρ := ρ) = lp zs1 := bn _
def zk1 {ρ : Type} (f : aei zt1 zy1 ρ) (a : List (List Int)) (b c : Int) (d : zc1 ρ) (e : Bool → Option ρ) : Option ρ := f (a, b, c) (Sum.elim (fun (a, b, c) => d a b c) (fun x => e x))
def auy {ρ : Type} := zk1 (lp (zs1 (ρ := ρ)))
def awh {ρ : Type} := zk1 (zm1 (ρ := ρ))
theorem ayh {ρ : Type} : awh (ρ := ρ) = auy := congrArg zk1 ze1
def al5 {ρ : Type} (a : List (List Int)) (k : Bool → Option ρ) : Option ρ := awh a (↑a.length : Int) 0 (fun c d e => k true) fun b => k b
def aep {ρ : Type} := shut (al5 (ρ := ρ))
theorem ava {ρ : Type} (a : List (List Int)) (k : Bool → Option ρ) : aep a k = al5 a k := by unfold aep; rw [bn]

def af6 {ρ : Type} (a : Int) (k : Int → Option ρ) : Option ρ := br (a == 1) (br (a == 1) (k (IntKind.u64.wrap (3758096384 + IntKind.u64.wrap a))) (br (a == 5) (br (a == 5) (k (IntKind.u64.wrap (IntKind.u64.wrap ((IntKind.u64.wrap a).tdiv 5) + 4))) (k 0)) (br (a == 10) (br (a == 10) (k (IntKind.u64.wrap (IntKind.u64.wrap ((IntKind.u64.wrap a).tdiv 5) + 4))) (k 0)) (br (a == 15) (br (a == 15) (k (IntKind.u64.wrap (IntKind.u64.wrap ((IntKind.u64.wrap a).tdiv 5) + 4))) (k 0)) (br (a == 20) (br (a == 20) (k (IntKind.u64.wrap (IntKind.u64.wrap ((IntKind.u64.wrap a).tdiv 5) + 4))) (k 0)) (br (a == 25) (k (IntKind.u64.wrap (IntKind.u64.wrap ((IntKind.u64.wrap a).tdiv 5) + 4))) (k 0))))))) (br (a == 2) (br (a == 2) (k (IntKind.u64.wrap (3758096384 + IntKind.u64.wrap a))) (br (a == 5) (br (a == 5) (k (IntKind.u64.wrap (IntKind.u64.wrap ((IntKind.u64.wrap a).tdiv 5) + 4))) (k 0)) (br (a == 10) (br (a == 10) (k (IntKind.u64.wrap (IntKind.u64.wrap ((IntKind.u64.wrap a).tdiv 5) + 4))) (k 0)) (br (a == 15) (br (a == 15) (k (IntKind.u64.wrap (IntKind.u64.wrap ((IntKind.u64.wrap a).tdiv 5) + 4))) (k 0)) (br (a == 20) (br (a == 20) (k (IntKind.u64.wrap (IntKind.u64.wrap ((IntKind.u64.wrap a).tdiv 5) + 4))) (k 0)) (br (a == 25) (k (IntKind.u64.wrap (IntKind.u64.wrap ((IntKind.u64.wrap a).tdiv 5) + 4))) (k 0))))))) (br (a == 3) (br (a == 3) (k (IntKind.u64.wrap (3758096384 + IntKind.u64.wrap a))) (br (a == 5) (br (a == 5) (k (IntKind.u64.wrap (IntKind.u64.wrap ((IntKind.u64.wrap a).tdiv 5) + 4))) (k 0)) (br (a == 10) (br (a == 10) (k (IntKind.u64.wrap (IntKind.u64.wrap ((IntKind.u64.wrap a).tdiv 5) + 4))) (k 0)) (br (a == 15) (br (a == 15) (k (IntKind.u64.wrap (IntKind.u64.wrap ((IntKind.u64.wrap a).tdiv 5) + 4))) (k 0)) (br (a == 20) (br (a == 20) (k (IntKind.u64.wrap (IntKind.u64.wrap ((IntKind.u64.wrap a).tdiv 5) + 4))) (k 0)) (br (a == 25) (k (IntKind.u64.wrap (IntKind.u64.wrap ((IntKind.u64.wrap a).tdiv 5) + 4))) (k 0))))))) (br (a == 4) (k (IntKind.u64.wrap (3758096384 + IntKind.u64.wrap a))) (br (a == 5) (br (a == 5) (k (IntKind.u64.wrap (IntKind.u64.wrap ((IntKind.u64.wrap a).tdiv 5) + 4))) (k 0)) (br (a == 10) (br (a == 10) (k (IntKind.u64.wrap (IntKind.u64.wrap ((IntKind.u64.wrap a).tdiv 5) + 4))) (k 0)) (br (a == 15) (br (a == 15) (k (IntKind.u64.wrap (IntKind.u64.wrap ((IntKind.u64.wrap a).tdiv 5) + 4))) (k 0)) (br (a == 20) (br (a == 20) (k (IntKind.u64.wrap (IntKind.u64.wrap ((IntKind.u64.wrap a).tdiv 5) + 4))) (k 0)) (br (a == 25) (k (IntKind.u64.wrap (IntKind.u64.wrap ((IntKind.u64.wrap a).tdiv 5) + 4))) (k 0)))))))))
def y5 {ρ : Type} := shut (af6 (ρ := ρ))
theorem ala {ρ : Type} (a : Int) (k : Int → Option ρ) : y5 a k = af6 a k := by unfold y5; rw [bn]

def ab3 {ρ : Type} (a : Int) (k : Int → Option ρ) : Option ρ := br (a == 1) (k 1) (br (a == 2) (k 2) (br (a == 4) (k 3) (br (a == 8) (k 4) (k 0))))
def pq {ρ : Type} := shut (ab3 (ρ := ρ))
theorem afg {ρ : Type} (a : Int) (k : Int → Option ρ) : pq a k = ab3 a k := by unfold pq; rw [bn]

def ah0 {ρ : Type} (a b : Int) (k : Bool → Option ρ) : Option ρ := y5 a fun c => br (c != 0) (pq b fun d => k (d != 0)) (k false)
def adl {ρ : Type} := shut (ah0 (ρ := ρ))
theorem aol {ρ : Type} (a : Int) (b : Int) (k : Bool → Option ρ) : adl a b k = ah0 a b k := by unfold adl; rw [bn]

abbrev zc2 (ρ : Type) := Int → Nat → (List Int) → (List Int) → Int → Int → Nat → (List Int) → (List Int) → (List Int) → (List Int) → Option ρ
def ae7 {ρ : Type} (k : Int) (i : Nat) (b f : List Int) (j a : Int) (c : Nat) (d e g h : List Int) (nx m : zc2 ρ) (l : Bool → Int → Int → Int → Int → Nat → (List Int) → (List Int) → (List Int) → (List Int) → Option ρ) : Option ρ := br (decide (a < j)) (br (decide ((0 : Int) ≤ a)) (br (decide (a < (↑i : Int))) (adl (b.getD a.toNat (0 : Int)) (f.getD a.toNat (0 : Int)) fun n => br (!n) (l false (b.getD a.toNat (0 : Int)) (f.getD a.toNat (0 : Int)) (0 : Int) (0 : Int) c d e g h) (br (decide (b.getD a.toNat (0 : Int) > (10 : Int))) (l false (b.getD a.toNat (0 : Int)) (f.getD a.toNat (0 : Int)) (0 : Int) (0 : Int) c d e g h) (nx (IntKind.i64.wrap (k + b.getD a.toNat (0 : Int))) i b f j (IntKind.i64.wrap (a + (1 : Int))) c d e g h))) none) none) (m k i b f j a c d e g h)
abbrev zt2 := Int × Nat × (List Int) × (List Int) × Int × Int × Nat × (List Int) × (List Int) × (List Int) × (List Int)
abbrev zy2 := (Int × Nat × (List Int) × (List Int) × Int × Int × Nat × (List Int) × (List Int) × (List Int) × (List Int)) ⊕ (Bool × Int × Int × Int × Int × Nat × (List Int) × (List Int) × (List Int) × (List Int))
def zu2 {ρ : Type} (f : zt2 → Option ρ) : zc2 ρ := fun l d e g j k a b c h i => f (l, d, e, g, j, k, a, b, c, h, i)
def zs2 {ρ : Type} : aeh zt2 zy2 ρ := fun (m, f, g, h, i, j, a, b, c, d, e) next ex => ae7 m f g h i j a b c d e (zu2 next) (fun m f g h i j a b c d e => ex (.inl (m, f, g, h, i, j, a, b, c, d, e))) (fun p n o k l a b c d e => ex (.inr (p, n, o, k, l, a, b, c, d, e)))
def zm2 {ρ : Type} := shut (lp (zs2 (ρ := ρ)))
theorem ze2 {ρ : Type} : zm2 (ρ := ρ) = lp zs2 := bn _
def zk2 {ρ : Type} (f : aei zt2 zy2 ρ) (l : Int) (d : Nat) (e g : List Int) (j k : Int) (a : Nat) (b c h i : List Int) (m : zc2 ρ) (n : Bool → Int → Int → Int → Int → Nat → (List Int) → (List Int) → (List Int) → (List Int) → Option ρ) : Option ρ := f (l, d, e, g, j, k, a, b, c, h, i) (Sum.elim (fun (l, d, e, g, j, k, a, b, c, h, i) => m l d e g j k a b c h i) (fun x => n x.1 x.2.1 x.2.2.1 x.2.2.2.1 x.2.2.2.2.1 x.2.2.2.2.2.1 x.2.2.2.2.2.2.1 x.2.2.2.2.2.2.2.1 x.2.2.2.2.2.2.2.2.1 x.2.2.2.2.2.2.2.2.2))
def apc {ρ : Type} := zk2 (lp (zs2 (ρ := ρ)))
def au9 {ρ : Type} := zk2 (zm2 (ρ := ρ))
theorem ams {ρ : Type} : au9 (ρ := ρ) = apc := congrArg zk2 ze2
def afs {ρ : Type} (a : Nat) (b c e d : List Int) (k : Bool → Option ρ) : Option ρ := br (decide ((↑a : Int) > 8)) (k false) (au9 0 a b c (↑a : Int) 0 a b c e d (fun h u v w y z i A B j f => br (decide ((↑i : Int) > 0)) (br (decide (h ≤ 60)) (br ((↑j.length : Int) == 16) (k ((↑f.length : Int) == 32)) (k false)) (k false)) (k false)) fun g l m n o p q r s t => k g)
def aeo {ρ : Type} := shut (afs (ρ := ρ))
theorem akc {ρ : Type} (a : Nat) (b : List Int) (c : List Int) (e : List Int) (d : List Int) (k : Bool → Option ρ) : aeo a b c e d k = afs a b c e d k := by unfold aeo; rw [bn]

abbrev zc3 (ρ : Type) := Int → Nat → (List Int) → (List Int) → Int → Int → Option ρ
def alm {ρ : Type} (f : Int) (b : Nat) (c d : List Int) (e a : Int) (nx g : zc3 ρ) : Option ρ := br (decide (a < e)) (br (decide (0 ≤ a)) (br (decide (a < (↑b : Int))) (nx (IntKind.i64.wrap (f + c.getD a.toNat 0)) b c d e (IntKind.i64.wrap (a + 1))) none) none) (g f b c d e a)
abbrev zt3 := Int × Nat × (List Int) × (List Int) × Int × Int
abbrev zy3 := zt3
def zu3 {ρ : Type} (f : zt3 → Option ρ) : zc3 ρ := fun d a b c e g => f (d, a, b, c, e, g)
def zs3 {ρ : Type} : aeh zt3 zy3 ρ := fun (d, a, b, c, e, f) next ex => alm d a b c e f (zu3 next) (zu3 ex)
def zm3 {ρ : Type} := shut (lp (zs3 (ρ := ρ)))
theorem ze3 {ρ : Type} : zm3 (ρ := ρ) = lp zs3 := bn _
def zk3 {ρ : Type} (f : aei zt3 zy3 ρ) (d : Int) (a : Nat) (b c : List Int) (e g : Int) (h : zc3 ρ) : Option ρ := f (d, a, b, c, e, g) (fun (d, a, b, c, e, g) => h d a b c e g)
def atf {ρ : Type} := zk3 (lp (zs3 (ρ := ρ)))
def atp {ρ : Type} := zk3 (zm3 (ρ := ρ))
theorem auk {ρ : Type} : atp (ρ := ρ) = atf := congrArg zk3 ze3
def ajs {ρ : Type} (a : Nat) (b c e d : List Int) (k : Int → Option ρ) : Option ρ := atp 0 a b c (↑a : Int) 0 fun f g h i j l => k f
def abt {ρ : Type} := shut (ajs (ρ := ρ))
theorem ata {ρ : Type} (a : Nat) (b : List Int) (c : List Int) (e : List Int) (d : List Int) (k : Int → Option ρ) : abt a b c e d k = ajs a b c e d k := by unfold abt; rw [bn]

abbrev zc4 (ρ : Type) := Int → Int → Nat → (List Int) → (List Int) → Int → Int → (List Int) → Option ρ
def ah3 {ρ : Type} (h g : Int) (c : Nat) (b d : List Int) (e a : Int) (f : List Int) (nx i : zc4 ρ) : Option ρ := br (decide (a < e)) (br (decide ((0 : Int) ≤ a)) (br (decide (a < (↑c : Int))) (br (decide (IntKind.i64.wrap (g - b.getD a.toNat (0 : Int)) < (0 : Int))) none (br (decide (b.getD a.toNat (0 : Int) < (0 : Int))) none (br (decide ((f.length + 1) * 4 ≤ 140737488355328)) (nx h (IntKind.i64.wrap (g - b.getD a.toNat (0 : Int))) c b d e (IntKind.i64.wrap (a + (1 : Int))) (f ++ [bits BinOp.and IntKind.u32 (IntKind.u32.wrap (h.fdiv ((2 : Int) ^ min (IntKind.i64.wrap (g - b.getD a.toNat (0 : Int))).toNat 64))) (IntKind.u32.wrap (IntKind.u32.wrap ((1 : Int) * (2 : Int) ^ min (b.getD a.toNat (0 : Int)).toNat 32) - (1 : Int)))])) none))) none) none) (i h g c b d e a f)
abbrev zt4 := Int × Int × Nat × (List Int) × (List Int) × Int × Int × (List Int)
abbrev zy4 := zt4
def zu4 {ρ : Type} (f : zt4 → Option ρ) : zc4 ρ := fun h i a b c d e g => f (h, i, a, b, c, d, e, g)
def zs4 {ρ : Type} : aeh zt4 zy4 ρ := fun (g, h, a, b, c, d, e, f) next ex => ah3 g h a b c d e f (zu4 next) (zu4 ex)
def zm4 {ρ : Type} := shut (lp (zs4 (ρ := ρ)))
theorem ze4 {ρ : Type} : zm4 (ρ := ρ) = lp zs4 := bn _
def zk4 {ρ : Type} (f : aei zt4 zy4 ρ) (h i : Int) (a : Nat) (b c : List Int) (d e : Int) (g : List Int) (j : zc4 ρ) : Option ρ := f (h, i, a, b, c, d, e, g) (fun (h, i, a, b, c, d, e, g) => j h i a b c d e g)
def ank {ρ : Type} := zk4 (lp (zs4 (ρ := ρ)))
def an9 {ρ : Type} := zk4 (zm4 (ρ := ρ))
theorem aqo {ρ : Type} : an9 (ρ := ρ) = ank := congrArg zk4 ze4
def ag5 {ρ : Type} (a : Nat) (b c e d : List Int) (f : Int) (k : (List Int) → Int → Option ρ) : Option ρ := aeo a b c e d fun i => br (!i) (k [] 10) (abt a b c e d fun g => br (decide (g < 0)) none (br (f.fdiv (2 ^ min g.toNat 64) != 0) (k [] 13) (abt a b c e d fun j => an9 f j a b c (↑a : Int) 0 [] fun l m n o p q r h => k h 0)))
def abq {ρ : Type} := shut (ag5 (ρ := ρ))
theorem aob {ρ : Type} (a : Nat) (b : List Int) (c : List Int) (e : List Int) (d : List Int) (f : Int) (k : (List Int) → Int → Option ρ) : abq a b c e d f k = ag5 a b c e d f k := by unfold abq; rw [bn]

def ag3 {ρ : Type} (a : Nat) (b c e d : List Int) (k : Int → Option ρ) : Option ρ := aeo a b c e d fun g => br (!g) (k 0) (abt a b c e d fun f => br (decide (f < 0)) none (k (IntKind.u64.wrap (1 * 2 ^ min f.toNat 64))))
def abo {ρ : Type} := shut (ag3 (ρ := ρ))
theorem amz {ρ : Type} (a : Nat) (b : List Int) (c : List Int) (e : List Int) (d : List Int) (k : Int → Option ρ) : abo a b c e d k = ag3 a b c e d k := by unfold abo; rw [bn]

abbrev zc5 (ρ : Type) := Int → (List Int) → Int → Int → Option ρ
def alr {ρ : Type} (d : Int) (b : List Int) (c a : Int) (nx e : zc5 ρ) : Option ρ := br (decide (a < c)) (br (decide (0 ≤ a)) (br (decide (a < (↑b.length : Int))) (nx (bits BinOp.or IntKind.u64 (IntKind.u64.wrap (d * 2 ^ 8)) (IntKind.u64.wrap (b.getD a.toNat 0))) b c (IntKind.i64.wrap (a + 1))) none) none) (e d b c a)
abbrev zt5 := Int × (List Int) × Int × Int
abbrev zy5 := zt5
def zu5 {ρ : Type} (f : zt5 → Option ρ) : zc5 ρ := fun a b c d => f (a, b, c, d)
def zs5 {ρ : Type} : aeh zt5 zy5 ρ := fun (a, b, c, d) next ex => alr a b c d (zu5 next) (zu5 ex)
def zm5 {ρ : Type} := shut (lp (zs5 (ρ := ρ)))
theorem ze5 {ρ : Type} : zm5 (ρ := ρ) = lp zs5 := bn _
def zk5 {ρ : Type} (f : aei zt5 zy5 ρ) (a : Int) (b : List Int) (c d : Int) (e : zc5 ρ) : Option ρ := f (a, b, c, d) (fun (a, b, c, d) => e a b c d)
def ar7 {ρ : Type} := zk5 (lp (zs5 (ρ := ρ)))
def asl {ρ : Type} := zk5 (zm5 (ρ := ρ))
theorem aut {ρ : Type} : asl (ρ := ρ) = ar7 := congrArg zk5 ze5
def aje {ρ : Type} (a : List Int) (k : Int → Option ρ) : Option ρ := asl 0 a (↑a.length : Int) 0 fun b c d e => k b
def iy {ρ : Type} := shut (aje (ρ := ρ))
theorem at5 {ρ : Type} (a : List Int) (k : Int → Option ρ) : iy a k = aje a k := by unfold iy; rw [bn]

def aju {ρ : Type} (a : Int) (k : Int → Int → Int → Bool → Option ρ) : Option ρ := br (a == 1) (k 265 7 1 true) (br (a == 2) (k 133 6 2 true) (br (a == 4) (k 67 4 3 true) (br (a == 8) (k 34 0 4 true) (k 0 0 0 false))))
def l6 {ρ : Type} := shut (aju (ρ := ρ))
theorem aah {ρ : Type} (a : Int) (k : Int → Int → Int → Bool → Option ρ) : l6 a k = aju a k := by unfold l6; rw [bn]

def agx {ρ : Type} (a : Int) (k : Int → Option ρ) : Option ρ := l6 a fun b d e c => br (!c) (k 0) (k (IntKind.i64.wrap (36 + IntKind.i64.wrap (32 * b))))
def je {ρ : Type} := shut (agx (ρ := ρ))
theorem aod {ρ : Type} (a : Int) (k : Int → Option ρ) : je a k = agx a k := by unfold je; rw [bn]

def aj4 {ρ : Type} (a b : Int) (k : Int → Option ρ) : Option ρ := adl a b fun c => br (!c) (k 0) (je b fun d => k (IntKind.i64.wrap (IntKind.i64.wrap (IntKind.i64.wrap (4 + d) + 4) + IntKind.i64.wrap (32 * a))))
def ae3 {ρ : Type} := shut (aj4 (ρ := ρ))
theorem arz {ρ : Type} (a : Int) (b : Int) (k : Int → Option ρ) : ae3 a b k = aj4 a b k := by unfold ae3; rw [bn]

def ab1 {ρ : Type} (a : Int) (k : (List Int) → Option ρ) : Option ρ := br (decide (a < 0)) none (br (decide (IntKind.i64.wrap (a - IntKind.i64.wrap (0 - (↑0 : Int))) > 0)) (br (decide (0 ≤ IntKind.i64.wrap (a - IntKind.i64.wrap (0 - (↑0 : Int))))) (br (decide ((IntKind.i64.wrap (a - IntKind.i64.wrap (0 - (↑0 : Int)))).toNat * 1 ≤ 140737488355328)) (k (List.take ((↑0 : Int) - (0 : Int)).toNat (List.replicate (IntKind.i64.wrap (a - IntKind.i64.wrap (0 - (↑0 : Int)))).toNat (0 : Int)))) none) none) (k []))
def l7 {ρ : Type} := shut (ab1 (ρ := ρ))
theorem aff {ρ : Type} (a : Int) (k : (List Int) → Option ρ) : l7 a k = ab1 a k := by unfold l7; rw [bn]

abbrev zc6 (ρ : Type) := (List (List Int)) → Int → (List (List Int)) → Int → Int → Option ρ
def aa3 {ρ : Type} (e : List (List Int)) (d : Int) (b : List (List Int)) (c a : Int) (nx f : zc6 ρ) : Option ρ := br (decide (a < c)) (br (decide (0 ≤ a)) (br (decide (a < (↑b.length : Int))) (br (decide (IntKind.i64.wrap (d + (↑(b.getD a.toNat []).length : Int)) < 0)) none (nx e (IntKind.i64.wrap (d + (↑(b.getD a.toNat []).length : Int))) b c (IntKind.i64.wrap (a + 1)))) none) none) (f e d b c a)
abbrev zt6 := (List (List Int)) × Int × (List (List Int)) × Int × Int
abbrev zy6 := zt6
def zu6 {ρ : Type} (f : zt6 → Option ρ) : zc6 ρ := fun c d e a b => f (c, d, e, a, b)
def zs6 {ρ : Type} : aeh zt6 zy6 ρ := fun (c, d, e, a, b) next ex => aa3 c d e a b (zu6 next) (zu6 ex)
def zm6 {ρ : Type} := shut (lp (zs6 (ρ := ρ)))
theorem ze6 {ρ : Type} : zm6 (ρ := ρ) = lp zs6 := bn _
def zk6 {ρ : Type} (f : aei zt6 zy6 ρ) (c : List (List Int)) (d : Int) (e : List (List Int)) (a b : Int) (g : zc6 ρ) : Option ρ := f (c, d, e, a, b) (fun (c, d, e, a, b) => g c d e a b)
def ad4 {ρ : Type} := zk6 (lp (zs6 (ρ := ρ)))
def ad6 {ρ : Type} := zk6 (zm6 (ρ := ρ))
theorem ahn {ρ : Type} : ad6 (ρ := ρ) = ad4 := congrArg zk6 ze6
abbrev zc7 (ρ : Type) := (List (List Int)) → Int → Int → (List Int) → Option ρ
def aaq {ρ : Type} (b : List (List Int)) (c a : Int) (d : List Int) (nx e : zc7 ρ) : Option ρ := br (decide (a < c)) (br (decide (0 ≤ a)) (br (decide (a < (↑b.length : Int))) (br (decide ((d.length + (b.getD a.toNat []).length) * 1 ≤ 140737488355328)) (nx b c (IntKind.i64.wrap (a + 1)) (d ++ b.getD a.toNat [])) none) none) none) (e b c a d)
abbrev zt7 := (List (List Int)) × Int × Int × (List Int)
abbrev zy7 := zt7
def zu7 {ρ : Type} (f : zt7 → Option ρ) : zc7 ρ := fun a b c d => f (a, b, c, d)
def zs7 {ρ : Type} : aeh zt7 zy7 ρ := fun (a, b, c, d) next ex => aaq a b c d (zu7 next) (zu7 ex)
def zm7 {ρ : Type} := shut (lp (zs7 (ρ := ρ)))
theorem ze7 {ρ : Type} : zm7 (ρ := ρ) = lp zs7 := bn _
def zk7 {ρ : Type} (f : aei zt7 zy7 ρ) (a : List (List Int)) (b c : Int) (d : List Int) (e : zc7 ρ) : Option ρ := f (a, b, c, d) (fun (a, b, c, d) => e a b c d)
def ac9 {ρ : Type} := zk7 (lp (zs7 (ρ := ρ)))
def ac8 {ρ : Type} := zk7 (zm7 (ρ := ρ))
theorem ags {ρ : Type} : ac8 (ρ := ρ) = ac9 := congrArg zk7 ze7
def aan {ρ : Type} (a : List (List Int)) (k : (List Int) → Option ρ) : Option ρ := ad6 a 0 a (↑a.length : Int) 0 fun b c f g h => l7 c fun d => ac8 b (↑b.length : Int) 0 d fun i j l e => k e
def gq {ρ : Type} := shut (aan (ρ := ρ))
theorem aeb {ρ : Type} (a : List (List Int)) (k : (List Int) → Option ρ) : gq a k = aan a k := by unfold gq; rw [bn]

def aie {ρ : Type} (a : List (List Int)) (k : (List Int) → Option ρ) : Option ρ := gq a fun b => k b
def jq {ρ : Type} := shut (aie (ρ := ρ))
theorem apz {ρ : Type} (a : List (List Int)) (k : (List Int) → Option ρ) : jq a k = aie a k := by unfold jq; rw [bn]

def aio {ρ : Type} (a : Int) (k : Int → Option ρ) : Option ρ := br (decide (a < 1)) (k 0) (br (decide (a > 4)) (k 0) (br (decide (IntKind.u64.wrap (a - 1) < 0)) none (k (IntKind.i64.wrap (1 * 2 ^ min (IntKind.u64.wrap (a - 1)).toNat 64)))))
def ow {ρ : Type} := shut (aio (ρ := ρ))
theorem aqk {ρ : Type} (a : Int) (k : Int → Option ρ) : ow a k = aio a k := by unfold ow; rw [bn]

def ag4 {ρ : Type} (a : Int) (k : Int → Option ρ) : Option ρ := br (decide (a > 3758096384)) (br (decide (a ≤ 3758096388)) (k (IntKind.i64.wrap (IntKind.u64.wrap (a - 3758096384)))) (br (decide (a ≥ 5)) (br (decide (a ≤ 9)) (k (IntKind.i64.wrap (5 * IntKind.i64.wrap (IntKind.u64.wrap (a - 4))))) (k 0)) (k 0))) (br (decide (a ≥ 5)) (br (decide (a ≤ 9)) (k (IntKind.i64.wrap (5 * IntKind.i64.wrap (IntKind.u64.wrap (a - 4))))) (k 0)) (k 0))
def lg {ρ : Type} := shut (ag4 (ρ := ρ))
theorem aof {ρ : Type} (a : Int) (k : Int → Option ρ) : lg a k = ag4 a k := by unfold lg; rw [bn]

def alj {ρ : Type} (a : List Int) (k : (List Int) → Int → Int → (List Int) → Int → Option ρ) : Option ρ := br (decide ((↑a.length : Int) < 8)) (k [] 0 0 [] 1) (br (decide (8 ≤ (↑a.length : Int))) (iy (List.drop 4 (List.take (Int.toNat 8) a)) fun f => ow f fun d => br (d == 0) (k [] 0 0 [] 9) (je d fun b => br (decide ((↑a.length : Int) < IntKind.i64.wrap (IntKind.i64.wrap (4 + b) + 4))) (k [] 0 0 [] 1) (br (decide (0 ≤ IntKind.i64.wrap (4 + b))) (br (decide (IntKind.i64.wrap (4 + b) ≤ IntKind.i64.wrap (IntKind.i64.wrap (4 + b) + 4))) (br (decide (IntKind.i64.wrap (IntKind.i64.wrap (4 + b) + 4) ≤ (↑a.length : Int))) (iy (List.drop (IntKind.i64.wrap (4 + b)).toNat (List.take (IntKind.i64.wrap (IntKind.i64.wrap (4 + b) + 4)).toNat a)) fun g => lg g fun e => br (e == 0) (k [] 0 0 [] 9) (ae3 e d fun c => br (decide ((↑a.length : Int) < c)) (k [] 0 0 [] 1) (br (decide (0 ≤ c)) (br (decide (c ≤ (↑a.length : Int))) (jq [List.drop 0 (List.take c.toNat a)] fun h => br (decide (0 ≤ c)) (br (decide (c ≤ (↑a.length : Int))) (br (decide ((↑a.length : Int) ≤ (↑a.length : Int))) (jq [List.drop c.toNat (List.take (↑a.length : Int).toNat a)] fun i => k h e d i 0) none) none) none) none) none))) none) none) none))) none)
def zq {ρ : Type} := shut (alj (ρ := ρ))
theorem au8 {ρ : Type} (a : List Int) (k : (List Int) → Int → Int → (List Int) → Int → Option ρ) : zq a k = alj a k := by unfold zq; rw [bn]

abbrev zc8 (ρ : Type) := Int → Int → Int → (List Int) → Option ρ
def aoz {ρ : Type} (c b a : Int) (d : List Int) (nx e : zc8 ρ) : Option ρ := br (decide (a < b)) (br (decide (IntKind.i64.wrap (8 * a) < 0)) none (br (decide (0 ≤ a)) (br (decide (a < (↑d.length : Int))) (nx c b (IntKind.i64.wrap (a + 1)) (d.set a.toNat (IntKind.u8.wrap (c.fdiv (2 ^ min (IntKind.i64.wrap (8 * a)).toNat 64))))) none) none)) (e c b a d)
abbrev zt8 := Int × Int × Int × (List Int)
abbrev zy8 := zt8
def zu8 {ρ : Type} (f : zt8 → Option ρ) : zc8 ρ := fun c a b d => f (c, a, b, d)
def zs8 {ρ : Type} : aeh zt8 zy8 ρ := fun (c, a, b, d) next ex => aoz c a b d (zu8 next) (zu8 ex)
def zm8 {ρ : Type} := shut (lp (zs8 (ρ := ρ)))
theorem ze8 {ρ : Type} : zm8 (ρ := ρ) = lp zs8 := bn _
def zk8 {ρ : Type} (f : aei zt8 zy8 ρ) (c a b : Int) (d : List Int) (e : zc8 ρ) : Option ρ := f (c, a, b, d) (fun (c, a, b, d) => e c a b d)
def avi {ρ : Type} := zk8 (lp (zs8 (ρ := ρ)))
def avk {ρ : Type} := zk8 (zm8 (ρ := ρ))
theorem ayc {ρ : Type} : avk (ρ := ρ) = avi := congrArg zk8 ze8
def akz {ρ : Type} (b a : Int) (k : (List Int) → Option ρ) : Option ρ := br (decide (a < 0)) (k []) (br (decide (a > 65536)) (k []) (br (decide (0 ≤ a)) (br (decide (a ≤ a)) (br (decide (a * (↑1 : Int) ≤ (↑140737488355328 : Int))) (avk b (bif decide (8 < a) then 8 else a) 0 (List.replicate a.toNat (0 : Int)) fun d e f c => k c) none) none) none))
def adf {ρ : Type} := shut (akz (ρ := ρ))
theorem awg {ρ : Type} (a : Int) (b : Int) (k : (List Int) → Option ρ) : adf a b k = akz a b k := by unfold adf; rw [bn]

abbrev zc9 (ρ : Type) := Int → Int → (List Int) → Option ρ
def aj5 {ρ : Type} (a b : Int) (c : List Int) (nx d : zc9 ρ) : Option ρ := br (decide (a < b)) (br (decide (0 ≤ b)) (br (decide (b < (↑c.length : Int))) (br (decide (0 ≤ a)) (br (decide (a < (↑c.length : Int))) (br (decide (0 ≤ a)) (br (decide (a < (↑c.length : Int))) (br (decide (0 ≤ b)) (br (decide (b < (↑(c.set a.toNat (c.getD b.toNat 0)).length : Int))) (nx (IntKind.i64.wrap (a + 1)) (IntKind.i64.wrap (b - 1)) ((c.set a.toNat (c.getD b.toNat 0)).set b.toNat (c.getD a.toNat 0))) none) none) none) none) none) none) none) none) (d a b c)
abbrev zt9 := Int × Int × (List Int)
abbrev zy9 := zt9
def zu9 {ρ : Type} (f : zt9 → Option ρ) : zc9 ρ := fun a b c => f (a, b, c)
def zs9 {ρ : Type} : aeh zt9 zy9 ρ := fun (a, b, c) next ex => aj5 a b c (zu9 next) (zu9 ex)
def zm9 {ρ : Type} := shut (lp (zs9 (ρ := ρ)))
theorem ze9 {ρ : Type} : zm9 (ρ := ρ) = lp zs9 := bn _
def zk9 {ρ : Type} (f : aei zt9 zy9 ρ) (a b : Int) (c : List Int) (d : zc9 ρ) : Option ρ := f (a, b, c) (fun (a, b, c) => d a b c)
def ap9 {ρ : Type} := zk9 (lp (zs9 (ρ := ρ)))
def ap0 {ρ : Type} := zk9 (zm9 (ρ := ρ))
theorem atl {ρ : Type} : ap0 (ρ := ρ) = ap9 := congrArg zk9 ze9
def al7 {ρ : Type} (b c : Int) (k : (List Int) → Option ρ) : Option ρ := adf b c fun a => ap0 0 (IntKind.i64.wrap ((↑a.length : Int) - 1)) a fun e f d => k d
def ni {ρ : Type} := shut (al7 (ρ := ρ))
theorem avp {ρ : Type} (a : Int) (b : Int) (k : (List Int) → Option ρ) : ni a b k = al7 a b k := by unfold ni; rw [bn]

def aja {ρ : Type} (a b : Int) (k : (List Int) → Option ρ) : Option ρ := y5 a fun c => ni c 4 fun d => pq b fun e => ni e 4 fun f => jq [d, f] fun g => k g
def ae1 {ρ : Type} := shut (aja (ρ := ρ))
theorem asb {ρ : Type} (a : Int) (b : Int) (k : (List Int) → Option ρ) : ae1 a b k = aja a b k := by unfold ae1; rw [bn]

abbrev bvc (ρ : Type) := (List Int) → (List Int) → Int → Int → Int → Option ρ
def aj0 {ρ : Type} (c d : List Int) (e b a : Int) (nx f : bvc ρ) : Option ρ := br (decide (a < b)) (br (decide (0 ≤ a)) (br (decide (a < (↑c.length : Int))) (br (decide (0 ≤ a)) (br (decide (a < (↑d.length : Int))) (nx c d (bits BinOp.or IntKind.u8 e (bits BinOp.xor IntKind.u8 (c.getD a.toNat 0) (d.getD a.toNat 0))) b (IntKind.i64.wrap (a + 1))) none) none) none) none) (f c d e b a)
abbrev brs := (List Int) × (List Int) × Int × Int × Int
abbrev bvw := brs
def bxj {ρ : Type} (f : brs → Option ρ) : bvc ρ := fun c d e a b => f (c, d, e, a, b)
def brv {ρ : Type} : aeh brs bvw ρ := fun (c, d, e, a, b) next ex => aj0 c d e a b (bxj next) (bxj ex)
def bwk {ρ : Type} := shut (lp (brv (ρ := ρ)))
theorem by9 {ρ : Type} : bwk (ρ := ρ) = lp brv := bn _
def btc {ρ : Type} (f : aei brs bvw ρ) (c d : List Int) (e a b : Int) (g : bvc ρ) : Option ρ := f (c, d, e, a, b) (fun (c, d, e, a, b) => g c d e a b)
def apu {ρ : Type} := btc (lp (brv (ρ := ρ)))
def aqd {ρ : Type} := btc (bwk (ρ := ρ))
theorem atv {ρ : Type} : aqd (ρ := ρ) = apu := congrArg btc by9
def ah9 {ρ : Type} (a b : List Int) (k : Bool → Option ρ) : Option ρ := br ((↑a.length : Int) != (↑b.length : Int)) (k false) (aqd a b 0 (↑a.length : Int) 0 fun d e c f g => k (c == 0))
def uh {ρ : Type} := shut (ah9 (ρ := ρ))
theorem aql {ρ : Type} (a : List Int) (b : List Int) (k : Bool → Option ρ) : uh a b k = ah9 a b k := by unfold uh; rw [bn]

def ama {ρ : Type} (a : Int) (k : (List Int) → Bool → Option ρ) : Option ρ := br (a == 1) (k [1779033703, 3144134277, 1013904242, 2773480762, 1359893119, 2600822924, 528734635, 1541459225] true) (br (a == 2) (k [14680500436340154072, 7105036623409894663, 10473403895298186519, 1526699215303891257, 7436329637833083697, 10282925794625328401, 15784041429090275239, 5167115440072839076] true) (br (a == 3) (k [7640891576956012808, 13503953896175478587, 4354685564936845355, 11912009170470909681, 5840696475078001361, 11170449401992604703, 2270897969802886507, 6620516959819538809] true) (k [0, 0, 0, 0, 0, 0, 0, 0] false)))
def ac1 {ρ : Type} := shut (ama (ρ := ρ))
theorem ap6 {ρ : Type} (a : Int) (k : (List Int) → Bool → Option ρ) : ac1 a k = ama a k := by unfold ac1; rw [bn]

def ald {ρ : Type} (a : Int) (k : Int → (List Int) → (List Int) → Int → Int → Option ρ) : Option ρ := ac1 a fun b c => br (!c) (k 0 [0, 0, 0, 0, 0, 0, 0, 0] [] 0 9) (k a b [] 0 0)
def ab7 {ρ : Type} := shut (ald (ρ := ρ))
theorem awn {ρ : Type} (a : Int) (k : Int → (List Int) → (List Int) → Int → Int → Option ρ) : ab7 a k = ald a k := by unfold ab7; rw [bn]

end P
end
