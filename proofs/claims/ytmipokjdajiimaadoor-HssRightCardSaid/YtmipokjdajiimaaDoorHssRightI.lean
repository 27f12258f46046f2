/-
  HssRight, part 9: an interpreter of my own over abstract values, the pure functions, the walks and the plain law.
-/

import Derived.Test.YtmipokjdajiimaaDoorHssRightH

noncomputable section
open Go Go.Abs
set_option linter.unusedVariables false
namespace P

abbrev zc1 (ρ : Type) := (List (List Int)) → Int → Int → Option ρ
def aix {ρ : Type} (b : List (List Int)) (c a : Int) (nx d : zc1 ρ) (e : Bool → Option ρ) : Option ρ := br (decide (a < c)) (br (decide (0 ≤ a)) (br (decide (a < (↑b.length : Int))) (br (decide ((↑(b.getD a.toNat []).length : Int) > 300)) (e false) (nx b c (IntKind.i64.wrap (a + 1)))) none) none) (d b c a)
abbrev zt1 := (List (List Int)) × Int × Int
abbrev zy1 := ((List (List Int)) × Int × Int) ⊕ (Bool)
def zu1 {ρ : Type} (f : zt1 → Option ρ) : zc1 ρ := fun a b c => f (a, b, c)
def zs1 {ρ : Type} : adw zt1 zy1 ρ := fun (a, b, c) next ex => aix a b c (zu1 next) (fun a b c => ex (.inl (a, b, c))) (fun d => ex (.inr d))
def zm1 {ρ : Type} := shut (lp (zs1 (ρ := ρ)))
theorem ze1 {ρ : Type} : zm1 (ρ := ρ) = lp zs1 := av _
def zk1 {ρ : Type} (f : adx zt1 zy1 ρ) (a : List (List Int)) (b c : Int) (d : zc1 ρ) (e : Bool → Option ρ) : Option ρ := f (a, b, c) (Sum.elim (fun (a, b, c) => d a b c) (fun x => e x))
def ay3 {ρ : Type} := zk1 (lp (zs1 (ρ := ρ)))
def az6 {ρ : Type} := zk1 (zm1 (ρ := ρ))
theorem bby {ρ : Type} : az6 (ρ := ρ) = ay3 := congrArg zk1 ze1
def aoc {ρ : Type} (a : List (List Int)) (k : Bool → Option ρ) : Option ρ := az6 a (↑a.length : Int) 0 (fun c d e => k true) fun b => k b
def afl {ρ : Type} := shut (aoc (ρ := ρ))
theorem baf {ρ : Type} (a : List (List Int)) (k : Bool → Option ρ) : afl a k = aoc a k := by unfold afl; rw [av]

def ahg {ρ : Type} (a : Int) (k : Int → Option ρ) : Option ρ := br (a == 1) (br (a == 1) (k (IntKind.u64.wrap (3758096384 + IntKind.u64.wrap a))) (br (a == 5) (br (a == 5) (k (IntKind.u64.wrap (IntKind.u64.wrap ((IntKind.u64.wrap a).tdiv 5) + 4))) (k 0)) (br (a == 10) (br (a == 10) (k (IntKind.u64.wrap (IntKind.u64.wrap ((IntKind.u64.wrap a).tdiv 5) + 4))) (k 0)) (br (a == 15) (br (a == 15) (k (IntKind.u64.wrap (IntKind.u64.wrap ((IntKind.u64.wrap a).tdiv 5) + 4))) (k 0)) (br (a == 20) (br (a == 20) (k (IntKind.u64.wrap (IntKind.u64.wrap ((IntKind.u64.wrap a).tdiv 5) + 4))) (k 0)) (br (a == 25) (k (IntKind.u64.wrap (IntKind.u64.wrap ((IntKind.u64.wrap a).tdiv 5) + 4))) (k 0))))))) (br (a == 2) (br (a == 2) (k (IntKind.u64.wrap (3758096384 + IntKind.u64.wrap a))) (br (a == 5) (br (a == 5) (k (IntKind.u64.wrap (IntKind.u64.wrap ((IntKind.u64.wrap a).tdiv 5) + 4))) (k 0)) (br (a == 10) (br (a == 10) (k (IntKind.u64.wrap (IntKind.u64.wrap ((IntKind.u64.wrap a).tdiv 5) + 4))) (k 0)) (br (a == 15) (br (a == 15) (k (IntKind.u64.wrap (IntKind.u64.wrap ((IntKind.u64.wrap a).tdiv 5) + 4))) (k 0)) (br (a == 20) (br (a == 20) (k (IntKind.u64.wrap (IntKind.u64.wrap ((IntKind.u64.wrap a).tdiv 5) + 4))) (k 0)) (br (a == 25) (k (IntKind.u64.wrap (IntKind.u64.wrap ((IntKind.u64.wrap a).tdiv 5) + 4))) (k 0))))))) (br (a == 3) (br (a == 3) (k (IntKind.u64.wrap (3758096384 + IntKind.u64.wrap a))) (br (a == 5) (br (a == 5) (k (IntKind.u64.wrap (IntKind.u64.wrap ((IntKind.u64.wrap a).tdiv 5) + 4))) (k 0)) (br (a == 10) (br (a == 10) (k (IntKind.u64.wrap (IntKind.u64.wrap ((IntKind.u64.wrap a).tdiv 5) + 4))) (k 0)) (br (a == 15) (br (a == 15) (k (IntKind.u64.wrap (IntKind.u64.wrap ((IntKind.u64.wrap a).tdiv 5) + 4))) (k 0)) (br (a == 20) (br (a == 20) (k (IntKind.u64.wrap (IntKind.u64.wrap ((IntKind.u64.wrap a).tdiv 5) + 4))) (k 0)) (br (a == 25) (k (IntKind.u64.wrap (IntKind.u64.wrap ((IntKind.u64.wrap a).tdiv 5) + 4))) (k 0))))))) (br (a == 4) (k (IntKind.u64.wrap (3758096384 + IntKind.u64.wrap a))) (br (a == 5) (br (a == 5) (k (IntKind.u64.wrap (IntKind.u64.wrap ((IntKind.u64.wrap a).tdiv 5) + 4))) (k 0)) (br (a == 10) (br (a == 10) (k (IntKind.u64.wrap (IntKind.u64.wrap ((IntKind.u64.wrap a).tdiv 5) + 4))) (k 0)) (br (a == 15) (br (a == 15) (k (IntKind.u64.wrap (IntKind.u64.wrap ((IntKind.u64.wrap a).tdiv 5) + 4))) (k 0)) (br (a == 20) (br (a == 20) (k (IntKind.u64.wrap (IntKind.u64.wrap ((IntKind.u64.wrap a).tdiv 5) + 4))) (k 0)) (br (a == 25) (k (IntKind.u64.wrap (IntKind.u64.wrap ((IntKind.u64.wrap a).tdiv 5) + 4))) (k 0)))))))))
def pz {ρ : Type} := shut (ahg (ρ := ρ))
theorem aok {ρ : Type} (a : Int) (k : Int → Option ρ) : pz a k = ahg a k := by unfold pz; rw [av]

def acp {ρ : Type} (a : Int) (k : Int → Option ρ) : Option ρ := br (a == 1) (k 1) (br (a == 2) (k 2) (br (a == 4) (k 3) (br (a == 8) (k 4) (k 0))))
def qm {ρ : Type} := shut (acp (ρ := ρ))
theorem af9 {ρ : Type} (a : Int) (k : Int → Option ρ) : qm a k = acp a k := by unfold qm; rw [av]

def ajn {ρ : Type} (a b : Int) (k : Bool → Option ρ) : Option ρ := pz a fun c => br (c != 0) (qm b fun d => k (d != 0)) (k false)
def acg {ρ : Type} := shut (ajn (ρ := ρ))
theorem aq3 {ρ : Type} (a : Int) (b : Int) (k : Bool → Option ρ) : acg a b k = ajn a b k := by unfold acg; rw [av]

abbrev zc2 (ρ : Type) := Int → Nat → (List Int) → (List Int) → Int → Int → Nat → (List Int) → (List Int) → (List Int) → (List Int) → Option ρ
def af3 {ρ : Type} (k : Int) (i : Nat) (b f : List Int) (j a : Int) (c : Nat) (d e g h : List Int) (nx m : zc2 ρ) (l : Bool → Int → Int → Int → Int → Nat → (List Int) → (List Int) → (List Int) → (List Int) → Option ρ) : Option ρ := br (decide (a < j)) (br (decide ((0 : Int) ≤ a)) (br (decide (a < (↑i : Int))) (acg (b.getD a.toNat (0 : Int)) (f.getD a.toNat (0 : Int)) fun n => br (!n) (l false (b.getD a.toNat (0 : Int)) (f.getD a.toNat (0 : Int)) (0 : Int) (0 : Int) c d e g h) (br (decide (b.getD a.toNat (0 : Int) > (10 : Int))) (l false (b.getD a.toNat (0 : Int)) (f.getD a.toNat (0 : Int)) (0 : Int) (0 : Int) c d e g h) (nx (IntKind.i64.wrap (k + b.getD a.toNat (0 : Int))) i b f j (IntKind.i64.wrap (a + (1 : Int))) c d e g h))) none) none) (m k i b f j a c d e g h)
abbrev zt2 := Int × Nat × (List Int) × (List Int) × Int × Int × Nat × (List Int) × (List Int) × (List Int) × (List Int)
abbrev zy2 := (Int × Nat × (List Int) × (List Int) × Int × Int × Nat × (List Int) × (List Int) × (List Int) × (List Int)) ⊕ (Bool × Int × Int × Int × Int × Nat × (List Int) × (List Int) × (List Int) × (List Int))
def zu2 {ρ : Type} (f : zt2 → Option ρ) : zc2 ρ := fun l d e g j k a b c h i => f (l, d, e, g, j, k, a, b, c, h, i)
def zs2 {ρ : Type} : adw zt2 zy2 ρ := fun (m, f, g, h, i, j, a, b, c, d, e) next ex => af3 m f g h i j a b c d e (zu2 next) (fun m f g h i j a b c d e => ex (.inl (m, f, g, h, i, j, a, b, c, d, e))) (fun p n o k l a b c d e => ex (.inr (p, n, o, k, l, a, b, c, d, e)))
def zm2 {ρ : Type} := shut (lp (zs2 (ρ := ρ)))
theorem ze2 {ρ : Type} : zm2 (ρ := ρ) = lp zs2 := av _
def zk2 {ρ : Type} (f : adx zt2 zy2 ρ) (l : Int) (d : Nat) (e g : List Int) (j k : Int) (a : Nat) (b c h i : List Int) (m : zc2 ρ) (n : Bool → Int → Int → Int → Int → Nat → (List Int) → (List Int) → (List Int) → (List Int) → Option ρ) : Option ρ := f (l, d, e, g, j, k, a, b, c, h, i) (Sum.elim (fun (l, d, e, g, j, k, a, b, c, h, i) => m l d e g j k a b c h i) (fun x => n x.1 x.2.1 x.2.2.1 x.2.2.2.1 x.2.2.2.2.1 x.2.2.2.2.2.1 x.2.2.2.2.2.2.1 x.2.2.2.2.2.2.2.1 x.2.2.2.2.2.2.2.2.1 x.2.2.2.2.2.2.2.2.2))
def aq4 {ρ : Type} := zk2 (lp (zs2 (ρ := ρ)))
def az1 {ρ : Type} := zk2 (zm2 (ρ := ρ))
theorem apx {ρ : Type} : az1 (ρ := ρ) = aq4 := congrArg zk2 ze2
def agf {ρ : Type} (a : Nat) (b c e d : List Int) (k : Bool → Option ρ) : Option ρ := br (decide ((↑a : Int) > 8)) (k false) (az1 0 a b c (↑a : Int) 0 a b c e d (fun h u v w y z i A B j f => br (decide ((↑i : Int) > 0)) (br (decide (h ≤ 60)) (br ((↑j.length : Int) == 16) (k ((↑f.length : Int) == 32)) (k false)) (k false)) (k false)) fun g l m n o p q r s t => k g)
def acv {ρ : Type} := shut (agf (ρ := ρ))
theorem amo {ρ : Type} (a : Nat) (b : List Int) (c : List Int) (e : List Int) (d : List Int) (k : Bool → Option ρ) : acv a b c e d k = agf a b c e d k := by unfold acv; rw [av]

abbrev zc3 (ρ : Type) := Int → Nat → (List Int) → (List Int) → Int → Int → Option ρ
def anf {ρ : Type} (f : Int) (b : Nat) (c d : List Int) (e a : Int) (nx g : zc3 ρ) : Option ρ := br (decide (a < e)) (br (decide (0 ≤ a)) (br (decide (a < (↑b : Int))) (nx (IntKind.i64.wrap (f + c.getD a.toNat 0)) b c d e (IntKind.i64.wrap (a + 1))) none) none) (g f b c d e a)
abbrev zt3 := Int × Nat × (List Int) × (List Int) × Int × Int
abbrev zy3 := zt3
def zu3 {ρ : Type} (f : zt3 → Option ρ) : zc3 ρ := fun d a b c e g => f (d, a, b, c, e, g)
def zs3 {ρ : Type} : adw zt3 zy3 ρ := fun (d, a, b, c, e, f) next ex => anf d a b c e f (zu3 next) (zu3 ex)
def zm3 {ρ : Type} := shut (lp (zs3 (ρ := ρ)))
theorem ze3 {ρ : Type} : zm3 (ρ := ρ) = lp zs3 := av _
def zk3 {ρ : Type} (f : adx zt3 zy3 ρ) (d : Int) (a : Nat) (b c : List Int) (e g : Int) (h : zc3 ρ) : Option ρ := f (d, a, b, c, e, g) (fun (d, a, b, c, e, g) => h d a b c e g)
def awo {ρ : Type} := zk3 (lp (zs3 (ρ := ρ)))
def axk {ρ : Type} := zk3 (zm3 (ρ := ρ))
theorem aym {ρ : Type} : axk (ρ := ρ) = awo := congrArg zk3 ze3
def akv {ρ : Type} (a : Nat) (b c e d : List Int) (k : Int → Option ρ) : Option ρ := axk 0 a b c (↑a : Int) 0 fun f g h i j l => k f
def ab0 {ρ : Type} := shut (akv (ρ := ρ))
theorem axh {ρ : Type} (a : Nat) (b : List Int) (c : List Int) (e : List Int) (d : List Int) (k : Int → Option ρ) : ab0 a b c e d k = akv a b c e d k := by unfold ab0; rw [av]

abbrev zc4 (ρ : Type) := Int → Int → Nat → (List Int) → (List Int) → Int → Int → (List Int) → Option ρ
def ai4 {ρ : Type} (h g : Int) (c : Nat) (b d : List Int) (e a : Int) (f : List Int) (nx i : zc4 ρ) : Option ρ := br (decide (a < e)) (br (decide ((0 : Int) ≤ a)) (br (decide (a < (↑c : Int))) (br (decide (IntKind.i64.wrap (g - b.getD a.toNat (0 : Int)) < (0 : Int))) none (br (decide (b.getD a.toNat (0 : Int) < (0 : Int))) none (br (decide ((f.length + 1) * 4 ≤ 140737488355328)) (nx h (IntKind.i64.wrap (g - b.getD a.toNat (0 : Int))) c b d e (IntKind.i64.wrap (a + (1 : Int))) (f ++ [bits BinOp.and IntKind.u32 (IntKind.u32.wrap (h.fdiv ((2 : Int) ^ min (IntKind.i64.wrap (g - b.getD a.toNat (0 : Int))).toNat 64))) (IntKind.u32.wrap (IntKind.u32.wrap ((1 : Int) * (2 : Int) ^ min (b.getD a.toNat (0 : Int)).toNat 32) - (1 : Int)))])) none))) none) none) (i h g c b d e a f)
abbrev zt4 := Int × Int × Nat × (List Int) × (List Int) × Int × Int × (List Int)
abbrev zy4 := zt4
def zu4 {ρ : Type} (f : zt4 → Option ρ) : zc4 ρ := fun h i a b c d e g => f (h, i, a, b, c, d, e, g)
def zs4 {ρ : Type} : adw zt4 zy4 ρ := fun (g, h, a, b, c, d, e, f) next ex => ai4 g h a b c d e f (zu4 next) (zu4 ex)
def zm4 {ρ : Type} := shut (lp (zs4 (ρ := ρ)))
theorem ze4 {ρ : Type} : zm4 (ρ := ρ) = lp zs4 := av _
def zk4 {ρ : Type} (f : adx zt4 zy4 ρ) (h i : Int) (a : Nat) (b c : List Int) (d e : Int) (g : List Int) (j : zc4 ρ) : Option ρ := f (h, i, a, b, c, d, e, g) (fun (h, i, a, b, c, d, e, g) => j h i a b c d e g)
def apt {ρ : Type} := zk4 (lp (zs4 (ρ := ρ)))
def aqc {ρ : Type} := zk4 (zm4 (ρ := ρ))
theorem aug {ρ : Type} : aqc (ρ := ρ) = apt := congrArg zk4 ze4
def aia {ρ : Type} (a : Nat) (b c e d : List Int) (f : Int) (k : (List Int) → Int → Option ρ) : Option ρ := acv a b c e d fun i => br (!i) (k [] 10) (ab0 a b c e d fun g => br (decide (g < 0)) none (br (f.fdiv (2 ^ min g.toNat 64) != 0) (k [] 13) (ab0 a b c e d fun j => aqc f j a b c (↑a : Int) 0 [] fun l m n o p q r h => k h 0)))
def qg {ρ : Type} := shut (aia (ρ := ρ))
theorem aqm {ρ : Type} (a : Nat) (b : List Int) (c : List Int) (e : List Int) (d : List Int) (f : Int) (k : (List Int) → Int → Option ρ) : qg a b c e d f k = aia a b c e d f k := by unfold qg; rw [av]

def ahu {ρ : Type} (a : Nat) (b c e d : List Int) (k : Int → Option ρ) : Option ρ := acv a b c e d fun g => br (!g) (k 0) (ab0 a b c e d fun f => br (decide (f < 0)) none (k (IntKind.u64.wrap (1 * 2 ^ min f.toNat 64))))
def yw {ρ : Type} := shut (ahu (ρ := ρ))
theorem aot {ρ : Type} (a : Nat) (b : List Int) (c : List Int) (e : List Int) (d : List Int) (k : Int → Option ρ) : yw a b c e d k = ahu a b c e d k := by unfold yw; rw [av]

abbrev zc5 (ρ : Type) := Int → (List Int) → Int → Int → Option ρ
def anj {ρ : Type} (d : Int) (b : List Int) (c a : Int) (nx e : zc5 ρ) : Option ρ := br (decide (a < c)) (br (decide (0 ≤ a)) (br (decide (a < (↑b.length : Int))) (nx (bits BinOp.or IntKind.u64 (IntKind.u64.wrap (d * 2 ^ 8)) (IntKind.u64.wrap (b.getD a.toNat 0))) b c (IntKind.i64.wrap (a + 1))) none) none) (e d b c a)
abbrev zt5 := Int × (List Int) × Int × Int
abbrev zy5 := zt5
def zu5 {ρ : Type} (f : zt5 → Option ρ) : zc5 ρ := fun a b c d => f (a, b, c, d)
def zs5 {ρ : Type} : adw zt5 zy5 ρ := fun (a, b, c, d) next ex => anj a b c d (zu5 next) (zu5 ex)
def zm5 {ρ : Type} := shut (lp (zs5 (ρ := ρ)))
theorem ze5 {ρ : Type} : zm5 (ρ := ρ) = lp zs5 := av _
def zk5 {ρ : Type} (f : adx zt5 zy5 ρ) (a : Int) (b : List Int) (c d : Int) (e : zc5 ρ) : Option ρ := f (a, b, c, d) (fun (a, b, c, d) => e a b c d)
def av3 {ρ : Type} := zk5 (lp (zs5 (ρ := ρ)))
def aww {ρ : Type} := zk5 (zm5 (ρ := ρ))
theorem ayj {ρ : Type} : aww (ρ := ρ) = av3 := congrArg zk5 ze5
def al4 {ρ : Type} (a : List Int) (k : Int → Option ρ) : Option ρ := aww 0 a (↑a.length : Int) 0 fun b c d e => k b
def jh {ρ : Type} := shut (al4 (ρ := ρ))
theorem awt {ρ : Type} (a : List Int) (k : Int → Option ρ) : jh a k = al4 a k := by unfold jh; rw [av]

def ace {ρ : Type} (a : Int) (k : (List Int) → Option ρ) : Option ρ := br (decide (a < 0)) none (br (decide (IntKind.i64.wrap (a - IntKind.i64.wrap (0 - (↑0 : Int))) > 0)) (br (decide (0 ≤ IntKind.i64.wrap (a - IntKind.i64.wrap (0 - (↑0 : Int))))) (br (decide ((IntKind.i64.wrap (a - IntKind.i64.wrap (0 - (↑0 : Int)))).toNat * 1 ≤ 140737488355328)) (k (List.take ((↑0 : Int) - (0 : Int)).toNat (List.replicate (IntKind.i64.wrap (a - IntKind.i64.wrap (0 - (↑0 : Int)))).toNat (0 : Int)))) none) none) (k []))
def nk {ρ : Type} := shut (ace (ρ := ρ))
theorem agi {ρ : Type} (a : Int) (k : (List Int) → Option ρ) : nk a k = ace a k := by unfold nk; rw [av]

abbrev zc6 (ρ : Type) := (List (List Int)) → Int → (List (List Int)) → Int → Int → Option ρ
def abd {ρ : Type} (e : List (List Int)) (d : Int) (b : List (List Int)) (c a : Int) (nx f : zc6 ρ) : Option ρ := br (decide (a < c)) (br (decide (0 ≤ a)) (br (decide (a < (↑b.length : Int))) (br (decide (IntKind.i64.wrap (d + (↑(b.getD a.toNat []).length : Int)) < 0)) none (nx e (IntKind.i64.wrap (d + (↑(b.getD a.toNat []).length : Int))) b c (IntKind.i64.wrap (a + 1)))) none) none) (f e d b c a)
abbrev zt6 := (List (List Int)) × Int × (List (List Int)) × Int × Int
abbrev zy6 := zt6
def zu6 {ρ : Type} (f : zt6 → Option ρ) : zc6 ρ := fun c d e a b => f (c, d, e, a, b)
def zs6 {ρ : Type} : adw zt6 zy6 ρ := fun (c, d, e, a, b) next ex => abd c d e a b (zu6 next) (zu6 ex)
def zm6 {ρ : Type} := shut (lp (zs6 (ρ := ρ)))
theorem ze6 {ρ : Type} : zm6 (ρ := ρ) = lp zs6 := av _
def zk6 {ρ : Type} (f : adx zt6 zy6 ρ) (c : List (List Int)) (d : Int) (e : List (List Int)) (a b : Int) (g : zc6 ρ) : Option ρ := f (c, d, e, a, b) (fun (c, d, e, a, b) => g c d e a b)
def afb {ρ : Type} := zk6 (lp (zs6 (ρ := ρ)))
def aeu {ρ : Type} := zk6 (zm6 (ρ := ρ))
theorem aie {ρ : Type} : aeu (ρ := ρ) = afb := congrArg zk6 ze6
abbrev zc7 (ρ : Type) := (List (List Int)) → Int → Int → (List Int) → Option ρ
def aa3 {ρ : Type} (b : List (List Int)) (c a : Int) (d : List Int) (nx e : zc7 ρ) : Option ρ := br (decide (a < c)) (br (decide (0 ≤ a)) (br (decide (a < (↑b.length : Int))) (br (decide ((d.length + (b.getD a.toNat []).length) * 1 ≤ 140737488355328)) (nx b c (IntKind.i64.wrap (a + 1)) (d ++ b.getD a.toNat [])) none) none) none) (e b c a d)
abbrev zt7 := (List (List Int)) × Int × Int × (List Int)
abbrev zy7 := zt7
def zu7 {ρ : Type} (f : zt7 → Option ρ) : zc7 ρ := fun a b c d => f (a, b, c, d)
def zs7 {ρ : Type} : adw zt7 zy7 ρ := fun (a, b, c, d) next ex => aa3 a b c d (zu7 next) (zu7 ex)
def zm7 {ρ : Type} := shut (lp (zs7 (ρ := ρ)))
theorem ze7 {ρ : Type} : zm7 (ρ := ρ) = lp zs7 := av _
def zk7 {ρ : Type} (f : adx zt7 zy7 ρ) (a : List (List Int)) (b c : Int) (d : List Int) (e : zc7 ρ) : Option ρ := f (a, b, c, d) (fun (a, b, c, d) => e a b c d)
def ad2 {ρ : Type} := zk7 (lp (zs7 (ρ := ρ)))
def ad4 {ρ : Type} := zk7 (zm7 (ρ := ρ))
theorem ah7 {ρ : Type} : ad4 (ρ := ρ) = ad2 := congrArg zk7 ze7
def aa1 {ρ : Type} (a : List (List Int)) (k : (List Int) → Option ρ) : Option ρ := aeu a 0 a (↑a.length : Int) 0 fun b c f g h => nk c fun d => ad4 b (↑b.length : Int) 0 d fun i j l e => k e
def iq {ρ : Type} := shut (aa1 (ρ := ρ))
theorem ae1 {ρ : Type} (a : List (List Int)) (k : (List Int) → Option ρ) : iq a k = aa1 a k := by unfold iq; rw [av]

def aje {ρ : Type} (a : List (List Int)) (k : (List Int) → Option ρ) : Option ρ := iq a fun b => k b
def eu {ρ : Type} := shut (aje (ρ := ρ))
theorem as7 {ρ : Type} (a : List (List Int)) (k : (List Int) → Option ρ) : eu a k = aje a k := by unfold eu; rw [av]

abbrev zc8 (ρ : Type) := Int → Int → Int → (List Int) → Option ρ
def asf {ρ : Type} (c b a : Int) (d : List Int) (nx e : zc8 ρ) : Option ρ := br (decide (a < b)) (br (decide (IntKind.i64.wrap (8 * a) < 0)) none (br (decide (0 ≤ a)) (br (decide (a < (↑d.length : Int))) (nx c b (IntKind.i64.wrap (a + 1)) (d.set a.toNat (IntKind.u8.wrap (c.fdiv (2 ^ min (IntKind.i64.wrap (8 * a)).toNat 64))))) none) none)) (e c b a d)
abbrev zt8 := Int × Int × Int × (List Int)
abbrev zy8 := zt8
def zu8 {ρ : Type} (f : zt8 → Option ρ) : zc8 ρ := fun c a b d => f (c, a, b, d)
def zs8 {ρ : Type} : adw zt8 zy8 ρ := fun (c, a, b, d) next ex => asf c a b d (zu8 next) (zu8 ex)
def zm8 {ρ : Type} := shut (lp (zs8 (ρ := ρ)))
theorem ze8 {ρ : Type} : zm8 (ρ := ρ) = lp zs8 := av _
def zk8 {ρ : Type} (f : adx zt8 zy8 ρ) (c a b : Int) (d : List Int) (e : zc8 ρ) : Option ρ := f (c, a, b, d) (fun (c, a, b, d) => e c a b d)
def az4 {ρ : Type} := zk8 (lp (zs8 (ρ := ρ)))
def ay6 {ρ : Type} := zk8 (zm8 (ρ := ρ))
theorem bb7 {ρ : Type} : ay6 (ρ := ρ) = az4 := congrArg zk8 ze8
def aoj {ρ : Type} (b a : Int) (k : (List Int) → Option ρ) : Option ρ := br (decide (a < 0)) (k []) (br (decide (a > 65536)) (k []) (br (decide (0 ≤ a)) (br (decide (a ≤ a)) (br (decide (a * (↑1 : Int) ≤ (↑140737488355328 : Int))) (ay6 b (bif decide (8 < a) then 8 else a) 0 (List.replicate a.toNat (0 : Int)) fun d e f c => k c) none) none) none))
def aei {ρ : Type} := shut (aoj (ρ := ρ))
theorem ayo {ρ : Type} (a : Int) (b : Int) (k : (List Int) → Option ρ) : aei a b k = aoj a b k := by unfold aei; rw [av]

abbrev zc9 (ρ : Type) := Int → Int → (List Int) → Option ρ
def alf {ρ : Type} (a b : Int) (c : List Int) (nx d : zc9 ρ) : Option ρ := br (decide (a < b)) (br (decide (0 ≤ b)) (br (decide (b < (↑c.length : Int))) (br (decide (0 ≤ a)) (br (decide (a < (↑c.length : Int))) (br (decide (0 ≤ a)) (br (decide (a < (↑c.length : Int))) (br (decide (0 ≤ b)) (br (decide (b < (↑(c.set a.toNat (c.getD b.toNat 0)).length : Int))) (nx (IntKind.i64.wrap (a + 1)) (IntKind.i64.wrap (b - 1)) ((c.set a.toNat (c.getD b.toNat 0)).set b.toNat (c.getD a.toNat 0))) none) none) none) none) none) none) none) none) (d a b c)
abbrev zt9 := Int × Int × (List Int)
abbrev zy9 := zt9
def zu9 {ρ : Type} (f : zt9 → Option ρ) : zc9 ρ := fun a b c => f (a, b, c)
def zs9 {ρ : Type} : adw zt9 zy9 ρ := fun (a, b, c) next ex => alf a b c (zu9 next) (zu9 ex)
def zm9 {ρ : Type} := shut (lp (zs9 (ρ := ρ)))
theorem ze9 {ρ : Type} : zm9 (ρ := ρ) = lp zs9 := av _
def zk9 {ρ : Type} (f : adx zt9 zy9 ρ) (a b : Int) (c : List Int) (d : zc9 ρ) : Option ρ := f (a, b, c) (fun (a, b, c) => d a b c)
def ati {ρ : Type} := zk9 (lp (zs9 (ρ := ρ)))
def asy {ρ : Type} := zk9 (zm9 (ρ := ρ))
theorem aw0 {ρ : Type} : asy (ρ := ρ) = ati := congrArg zk9 ze9
def anx {ρ : Type} (b c : Int) (k : (List Int) → Option ρ) : Option ρ := aei b c fun a => asy 0 (IntKind.i64.wrap ((↑a.length : Int) - 1)) a fun e f d => k d
def gq {ρ : Type} := shut (anx (ρ := ρ))
theorem ayx {ρ : Type} (a : Int) (b : Int) (k : (List Int) → Option ρ) : gq a b k = anx a b k := by unfold gq; rw [av]

def akq {ρ : Type} (a b : Int) (k : (List Int) → Option ρ) : Option ρ := pz a fun c => gq c 4 fun d => qm b fun e => gq e 4 fun f => eu [d, f] fun g => k g
def aco {ρ : Type} := shut (akq (ρ := ρ))
theorem au9 {ρ : Type} (a : Int) (b : Int) (k : (List Int) → Option ρ) : aco a b k = akq a b k := by unfold aco; rw [av]

def ah5 {ρ : Type} (a : Int) (k : Int → Option ρ) : Option ρ := br (decide (a > 3758096384)) (br (decide (a ≤ 3758096388)) (k (IntKind.i64.wrap (IntKind.u64.wrap (a - 3758096384)))) (br (decide (a ≥ 5)) (br (decide (a ≤ 9)) (k (IntKind.i64.wrap (5 * IntKind.i64.wrap (IntKind.u64.wrap (a - 4))))) (k 0)) (k 0))) (br (decide (a ≥ 5)) (br (decide (a ≤ 9)) (k (IntKind.i64.wrap (5 * IntKind.i64.wrap (IntKind.u64.wrap (a - 4))))) (k 0)) (k 0))
def mg {ρ : Type} := shut (ah5 (ρ := ρ))
theorem ao3 {ρ : Type} (a : Int) (k : Int → Option ρ) : mg a k = ah5 a k := by unfold mg; rw [av]

def ai0 {ρ : Type} (a : Int) (k : Int → Option ρ) : Option ρ := br (decide (a < 1)) (k 0) (br (decide (a > 4)) (k 0) (br (decide (IntKind.u64.wrap (a - 1) < 0)) none (k (IntKind.i64.wrap (1 * 2 ^ min (IntKind.u64.wrap (a - 1)).toNat 64)))))
def p8 {ρ : Type} := shut (ai0 (ρ := ρ))
theorem asl {ρ : Type} (a : Int) (k : Int → Option ρ) : p8 a k = ai0 a k := by unfold p8; rw [av]

def alm {ρ : Type} (a : Int) (k : Int → Int → Int → Bool → Option ρ) : Option ρ := br (a == 1) (k 265 7 1 true) (br (a == 2) (k 133 6 2 true) (br (a == 4) (k 67 4 3 true) (br (a == 8) (k 34 0 4 true) (k 0 0 0 false))))
def ni {ρ : Type} := shut (alm (ρ := ρ))
theorem aav {ρ : Type} (a : Int) (k : Int → Int → Int → Bool → Option ρ) : ni a k = alm a k := by unfold ni; rw [av]

def ah8 {ρ : Type} (a : Int) (k : Int → Option ρ) : Option ρ := ni a fun b d e c => br (!c) (k 0) (k (IntKind.i64.wrap (36 + IntKind.i64.wrap (32 * b))))
def jk {ρ : Type} := shut (ah8 (ρ := ρ))
theorem ao9 {ρ : Type} (a : Int) (k : Int → Option ρ) : jk a k = ah8 a k := by unfold jk; rw [av]

def alv {ρ : Type} (a b : Int) (k : Int → Option ρ) : Option ρ := acg a b fun c => br (!c) (k 0) (jk b fun d => k (IntKind.i64.wrap (IntKind.i64.wrap (IntKind.i64.wrap (4 + d) + 4) + IntKind.i64.wrap (32 * a))))
def afw {ρ : Type} := shut (alv (ρ := ρ))
theorem avj {ρ : Type} (a : Int) (b : Int) (k : Int → Option ρ) : afw a b k = alv a b k := by unfold afw; rw [av]

def ane {ρ : Type} (a : List Int) (k : (List Int) → Int → Int → (List Int) → Int → Option ρ) : Option ρ := br (decide ((↑a.length : Int) < 8)) (k [] 0 0 [] 1) (br (decide (8 ≤ (↑a.length : Int))) (jh (List.drop 4 (List.take (Int.toNat 8) a)) fun f => p8 f fun d => br (d == 0) (k [] 0 0 [] 9) (jk d fun b => br (decide ((↑a.length : Int) < IntKind.i64.wrap (IntKind.i64.wrap (4 + b) + 4))) (k [] 0 0 [] 1) (br (decide (0 ≤ IntKind.i64.wrap (4 + b))) (br (decide (IntKind.i64.wrap (4 + b) ≤ IntKind.i64.wrap (IntKind.i64.wrap (4 + b) + 4))) (br (decide (IntKind.i64.wrap (IntKind.i64.wrap (4 + b) + 4) ≤ (↑a.length : Int))) (jh (List.drop (IntKind.i64.wrap (4 + b)).toNat (List.take (IntKind.i64.wrap (IntKind.i64.wrap (4 + b) + 4)).toNat a)) fun g => mg g fun e => br (e == 0) (k [] 0 0 [] 9) (afw e d fun c => br (decide ((↑a.length : Int) < c)) (k [] 0 0 [] 1) (br (decide (0 ≤ c)) (br (decide (c ≤ (↑a.length : Int))) (eu [List.drop 0 (List.take c.toNat a)] fun h => br (decide (0 ≤ c)) (br (decide (c ≤ (↑a.length : Int))) (br (decide ((↑a.length : Int) ≤ (↑a.length : Int))) (eu [List.drop c.toNat (List.take (↑a.length : Int).toNat a)] fun i => k h e d i 0) none) none) none) none) none))) none) none) none))) none)
def zi {ρ : Type} := shut (ane (ρ := ρ))
theorem az2 {ρ : Type} (a : List Int) (k : (List Int) → Int → Int → (List Int) → Int → Option ρ) : zi a k = ane a k := by unfold zi; rw [av]

abbrev b31 (ρ : Type) := (List Int) → (List Int) → Int → Int → Int → Option ρ
def aly {ρ : Type} (c d : List Int) (e b a : Int) (nx f : b31 ρ) : Option ρ := br (decide (a < b)) (br (decide (0 ≤ a)) (br (decide (a < (↑c.length : Int))) (br (decide (0 ≤ a)) (br (decide (a < (↑d.length : Int))) (nx c d (bits BinOp.or IntKind.u8 e (bits BinOp.xor IntKind.u8 (c.getD a.toNat 0) (d.getD a.toNat 0))) b (IntKind.i64.wrap (a + 1))) none) none) none) none) (f c d e b a)
abbrev bur := (List Int) × (List Int) × Int × Int × Int
abbrev b0k := bur
def b0e {ρ : Type} (f : bur → Option ρ) : b31 ρ := fun c d e a b => f (c, d, e, a, b)
def bwn {ρ : Type} : adw bur b0k ρ := fun (c, d, e, a, b) next ex => aly c d e a b (b0e next) (b0e ex)
def b2c {ρ : Type} := shut (lp (bwn (ρ := ρ)))
theorem b6u {ρ : Type} : b2c (ρ := ρ) = lp bwn := av _
def bxn {ρ : Type} (f : adx bur b0k ρ) (c d : List Int) (e a b : Int) (g : b31 ρ) : Option ρ := f (c, d, e, a, b) (fun (c, d, e, a, b) => g c d e a b)
def asz {ρ : Type} := bxn (lp (bwn (ρ := ρ)))
def as9 {ρ : Type} := bxn (b2c (ρ := ρ))
theorem avg {ρ : Type} : as9 (ρ := ρ) = asz := congrArg bxn b6u
def ajp {ρ : Type} (a b : List Int) (k : Bool → Option ρ) : Option ρ := br ((↑a.length : Int) != (↑b.length : Int)) (k false) (as9 a b 0 (↑a.length : Int) 0 fun d e c f g => k (c == 0))
def qj {ρ : Type} := shut (ajp (ρ := ρ))
theorem atl {ρ : Type} (a : List Int) (b : List Int) (k : Bool → Option ρ) : qj a b k = ajp a b k := by unfold qj; rw [av]

def apr {ρ : Type} (a : Int) (k : (List Int) → Bool → Option ρ) : Option ρ := br (a == 1) (k [1779033703, 3144134277, 1013904242, 2773480762, 1359893119, 2600822924, 528734635, 1541459225] true) (br (a == 2) (k [14680500436340154072, 7105036623409894663, 10473403895298186519, 1526699215303891257, 7436329637833083697, 10282925794625328401, 15784041429090275239, 5167115440072839076] true) (br (a == 3) (k [7640891576956012808, 13503953896175478587, 4354685564936845355, 11912009170470909681, 5840696475078001361, 11170449401992604703, 2270897969802886507, 6620516959819538809] true) (k [0, 0, 0, 0, 0, 0, 0, 0] false)))
def adg {ρ : Type} := shut (apr (ρ := ρ))
theorem as8 {ρ : Type} (a : Int) (k : (List Int) → Bool → Option ρ) : adg a k = apr a k := by unfold adg; rw [av]

def an4 {ρ : Type} (a : Int) (k : Int → (List Int) → (List Int) → Int → Int → Option ρ) : Option ρ := adg a fun b c => br (!c) (k 0 [0, 0, 0, 0, 0, 0, 0, 0] [] 0 9) (k a b [] 0 0)
def aao {ρ : Type} := shut (an4 (ρ := ρ))
theorem azl {ρ : Type} (a : Int) (k : Int → (List Int) → (List Int) → Int → Int → Option ρ) : aao a k = an4 a k := by unfold aao; rw [av]

end P
end
