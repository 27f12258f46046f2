/-
  LeaseNear, part 9: an interpreter of my own over abstract values, the pure functions, the walks and the plain law.
-/

import Derived.Test.YtkfjafaabbmapaaDoorLeaseNearH

noncomputable section
open Go Go.Abs
set_option linter.unusedVariables false
namespace P

abbrev zc1 (ρ : Type) := Nat → (List Int) → (List Int) → (List (List Int)) → Int → Int → Option ρ
def afl {ρ : Type} (c : Nat) (d e : List Int) (b : List (List Int)) (f a : Int) (nx g : zc1 ρ) (h : Bool → Int → Int → (List Int) → Int → Int → Option ρ) : Option ρ := br (decide (a < f)) (br (decide (0 ≤ a)) (br (decide (a < (↑c : Int))) (br (decide ((↑(b.getD a.toNat []).length : Int) > 300)) (h false (d.getD a.toNat 0) (e.getD a.toNat 0) (b.getD a.toNat []) 0 0) (nx c d e b f (IntKind.i64.wrap (a + 1)))) none) none) (g c d e b f a)
abbrev zt1 := Nat × (List Int) × (List Int) × (List (List Int)) × Int × Int
abbrev zy1 := (Nat × (List Int) × (List Int) × (List (List Int)) × Int × Int) ⊕ (Bool × Int × Int × (List Int) × Int × Int)
def zu1 {ρ : Type} (f : zt1 → Option ρ) : zc1 ρ := fun a b c d e g => f (a, b, c, d, e, g)
def zs1 {ρ : Type} : ag0 zt1 zy1 ρ := fun (a, b, c, d, e, f) next ex => afl a b c d e f (zu1 next) (fun a b c d e f => ex (.inl (a, b, c, d, e, f))) (fun l i j k g h => ex (.inr (l, i, j, k, g, h)))
def zm1 {ρ : Type} := shut (lp (zs1 (ρ := ρ)))
theorem ze1 {ρ : Type} : zm1 (ρ := ρ) = lp zs1 := dz _
def zk1 {ρ : Type} (f : ag1 zt1 zy1 ρ) (a : Nat) (b c : List Int) (d : List (List Int)) (e g : Int) (h : zc1 ρ) (i : Bool → Int → Int → (List Int) → Int → Int → Option ρ) : Option ρ := f (a, b, c, d, e, g) (Sum.elim (fun (a, b, c, d, e, g) => h a b c d e g) (fun (a, b, c, d, e, g) => i a b c d e g))
def ak1 {ρ : Type} := zk1 (lp (zs1 (ρ := ρ)))
def ap2 {ρ : Type} := zk1 (zm1 (ρ := ρ))
theorem ajx {ρ : Type} : ap2 (ρ := ρ) = ak1 := congrArg zk1 ze1
def abg {ρ : Type} (b c : List Int) (a : Nat) (d e : List Int) (f : List (List Int)) (k : Bool → Option ρ) : Option ρ := br (decide ((↑a : Int) > 60)) (k false) (br (decide ((↑b.length : Int) > 300)) (k false) (br (decide ((↑c.length : Int) > 300)) (k false) (ap2 a d e f (↑a : Int) 0 (fun j l m n o p => k true) fun g q r s h i => k g)))
def afy {ρ : Type} := shut (abg (ρ := ρ))
theorem adz {ρ : Type} (a : List Int) (b : List Int) (c : Nat) (d : List Int) (e : List Int) (f : List (List Int)) (k : Bool → Option ρ) : afy a b c d e f k = abg a b c d e f k := by unfold afy; rw [dz]

def akh {ρ : Type} (a : Int) (k : (List Int) → Bool → Option ρ) : Option ρ := br (a == 1) (k [1779033703, 3144134277, 1013904242, 2773480762, 1359893119, 2600822924, 528734635, 1541459225] true) (br (a == 2) (k [14680500436340154072, 7105036623409894663, 10473403895298186519, 1526699215303891257, 7436329637833083697, 10282925794625328401, 15784041429090275239, 5167115440072839076] true) (br (a == 3) (k [7640891576956012808, 13503953896175478587, 4354685564936845355, 11912009170470909681, 5840696475078001361, 11170449401992604703, 2270897969802886507, 6620516959819538809] true) (k [0, 0, 0, 0, 0, 0, 0, 0] false)))
def abr {ρ : Type} := shut (akh (ρ := ρ))
theorem al5 {ρ : Type} (a : Int) (k : (List Int) → Bool → Option ρ) : abr a k = akh a k := by unfold abr; rw [dz]

def aiu {ρ : Type} (a : Int) (k : Int → (List Int) → (List Int) → Int → Int → Option ρ) : Option ρ := abr a fun b c => br (!c) (k 0 [0, 0, 0, 0, 0, 0, 0, 0] [] 0 9) (k a b [] 0 0)
def aei {ρ : Type} := shut (aiu (ρ := ρ))
theorem aql {ρ : Type} (a : Int) (k : Int → (List Int) → (List Int) → Int → Int → Option ρ) : aei a k = aiu a k := by unfold aei; rw [dz]

abbrev zc2 (ρ : Type) := Int → Int → Int → (List Int) → Option ρ
def alm {ρ : Type} (c b a : Int) (d : List Int) (nx e : zc2 ρ) : Option ρ := br (decide (a < b)) (br (decide (IntKind.i64.wrap (8 * a) < 0)) none (br (decide (0 ≤ a)) (br (decide (a < (↑d.length : Int))) (nx c b (IntKind.i64.wrap (a + 1)) (d.set a.toNat (IntKind.u8.wrap (c.fdiv (2 ^ min (IntKind.i64.wrap (8 * a)).toNat 64))))) none) none)) (e c b a d)
abbrev zt2 := Int × Int × Int × (List Int)
abbrev zy2 := zt2
def zu2 {ρ : Type} (f : zt2 → Option ρ) : zc2 ρ := fun c a b d => f (c, a, b, d)
def zs2 {ρ : Type} : ag0 zt2 zy2 ρ := fun (c, a, b, d) next ex => alm c a b d (zu2 next) (zu2 ex)
def zm2 {ρ : Type} := shut (lp (zs2 (ρ := ρ)))
theorem ze2 {ρ : Type} : zm2 (ρ := ρ) = lp zs2 := dz _
def zk2 {ρ : Type} (f : ag1 zt2 zy2 ρ) (c a b : Int) (d : List Int) (e : zc2 ρ) : Option ρ := f (c, a, b, d) (fun (c, a, b, d) => e c a b d)
def ap4 {ρ : Type} := zk2 (lp (zs2 (ρ := ρ)))
def aq6 {ρ : Type} := zk2 (zm2 (ρ := ρ))
theorem asb {ρ : Type} : aq6 (ρ := ρ) = ap4 := congrArg zk2 ze2
def air {ρ : Type} (b a : Int) (k : (List Int) → Option ρ) : Option ρ := br (decide (a < 0)) (k []) (br (decide (a > 65536)) (k []) (br (decide (0 ≤ a)) (br (decide (a ≤ a)) (br (decide (a * (↑1 : Int) ≤ (↑140737488355328 : Int))) (aq6 b (bif decide (8 < a) then 8 else a) 0 (List.replicate a.toNat (0 : Int)) fun d e f c => k c) none) none) none))
def ab8 {ρ : Type} := shut (air (ρ := ρ))
theorem apy {ρ : Type} (a : Int) (b : Int) (k : (List Int) → Option ρ) : ab8 a b k = air a b k := by unfold ab8; rw [dz]

abbrev zc3 (ρ : Type) := Int → Int → (List Int) → Option ρ
def ahq {ρ : Type} (a b : Int) (c : List Int) (nx d : zc3 ρ) : Option ρ := br (decide (a < b)) (br (decide (0 ≤ b)) (br (decide (b < (↑c.length : Int))) (br (decide (0 ≤ a)) (br (decide (a < (↑c.length : Int))) (br (decide (0 ≤ a)) (br (decide (a < (↑c.length : Int))) (br (decide (0 ≤ b)) (br (decide (b < (↑(c.set a.toNat (c.getD b.toNat 0)).length : Int))) (nx (IntKind.i64.wrap (a + 1)) (IntKind.i64.wrap (b - 1)) ((c.set a.toNat (c.getD b.toNat 0)).set b.toNat (c.getD a.toNat 0))) none) none) none) none) none) none) none) none) (d a b c)
abbrev zt3 := Int × Int × (List Int)
abbrev zy3 := zt3
def zu3 {ρ : Type} (f : zt3 → Option ρ) : zc3 ρ := fun a b c => f (a, b, c)
def zs3 {ρ : Type} : ag0 zt3 zy3 ρ := fun (a, b, c) next ex => ahq a b c (zu3 next) (zu3 ex)
def zm3 {ρ : Type} := shut (lp (zs3 (ρ := ρ)))
theorem ze3 {ρ : Type} : zm3 (ρ := ρ) = lp zs3 := dz _
def zk3 {ρ : Type} (f : ag1 zt3 zy3 ρ) (a b : Int) (c : List Int) (d : zc3 ρ) : Option ρ := f (a, b, c) (fun (a, b, c) => d a b c)
def ame {ρ : Type} := zk3 (lp (zs3 (ρ := ρ)))
def al3 {ρ : Type} := zk3 (zm3 (ρ := ρ))
theorem an9 {ρ : Type} : al3 (ρ := ρ) = ame := congrArg zk3 ze3
def aip {ρ : Type} (b c : Int) (k : (List Int) → Option ρ) : Option ρ := ab8 b c fun a => al3 0 (IntKind.i64.wrap ((↑a.length : Int) - 1)) a fun e f d => k d
def yc {ρ : Type} := shut (aip (ρ := ρ))
theorem aq4 {ρ : Type} (a : Int) (b : Int) (k : (List Int) → Option ρ) : yc a b k = aip a b k := by unfold yc; rw [dz]

def fu {ρ : Type} (a : List Int) (k : (List Int) → Option ρ) : Option ρ := br (decide (a.length * 1 ≤ 140737488355328)) (k a) none

def aa9 {ρ : Type} (a : Int) (k : (List Int) → Option ρ) : Option ρ := br (decide (a < 0)) none (br (decide (IntKind.i64.wrap (a - IntKind.i64.wrap (0 - (↑0 : Int))) > 0)) (br (decide (0 ≤ IntKind.i64.wrap (a - IntKind.i64.wrap (0 - (↑0 : Int))))) (br (decide ((IntKind.i64.wrap (a - IntKind.i64.wrap (0 - (↑0 : Int)))).toNat * 1 ≤ 140737488355328)) (k (List.take ((↑0 : Int) - (0 : Int)).toNat (List.replicate (IntKind.i64.wrap (a - IntKind.i64.wrap (0 - (↑0 : Int)))).toNat (0 : Int)))) none) none) (k []))
def l7 {ρ : Type} := shut (aa9 (ρ := ρ))
theorem ad4 {ρ : Type} (a : Int) (k : (List Int) → Option ρ) : l7 a k = aa9 a k := by unfold l7; rw [dz]

abbrev zc4 (ρ : Type) := (List (List Int)) → Int → (List (List Int)) → Int → Int → Option ρ
def aar {ρ : Type} (e : List (List Int)) (d : Int) (b : List (List Int)) (c a : Int) (nx f : zc4 ρ) : Option ρ := br (decide (a < c)) (br (decide (0 ≤ a)) (br (decide (a < (↑b.length : Int))) (br (decide (IntKind.i64.wrap (d + (↑(b.getD a.toNat []).length : Int)) < 0)) none (nx e (IntKind.i64.wrap (d + (↑(b.getD a.toNat []).length : Int))) b c (IntKind.i64.wrap (a + 1)))) none) none) (f e d b c a)
abbrev zt4 := (List (List Int)) × Int × (List (List Int)) × Int × Int
abbrev zy4 := zt4
def zu4 {ρ : Type} (f : zt4 → Option ρ) : zc4 ρ := fun c d e a b => f (c, d, e, a, b)
def zs4 {ρ : Type} : ag0 zt4 zy4 ρ := fun (c, d, e, a, b) next ex => aar c d e a b (zu4 next) (zu4 ex)
def zm4 {ρ : Type} := shut (lp (zs4 (ρ := ρ)))
theorem ze4 {ρ : Type} : zm4 (ρ := ρ) = lp zs4 := dz _
def zk4 {ρ : Type} (f : ag1 zt4 zy4 ρ) (c : List (List Int)) (d : Int) (e : List (List Int)) (a b : Int) (g : zc4 ρ) : Option ρ := f (c, d, e, a, b) (fun (c, d, e, a, b) => g c d e a b)
def ac4 {ρ : Type} := zk4 (lp (zs4 (ρ := ρ)))
def ac1 {ρ : Type} := zk4 (zm4 (ρ := ρ))
theorem afq {ρ : Type} : ac1 (ρ := ρ) = ac4 := congrArg zk4 ze4
abbrev zc5 (ρ : Type) := (List (List Int)) → Int → Int → (List Int) → Option ρ
def zf {ρ : Type} (b : List (List Int)) (c a : Int) (d : List Int) (nx e : zc5 ρ) : Option ρ := br (decide (a < c)) (br (decide (0 ≤ a)) (br (decide (a < (↑b.length : Int))) (br (decide ((d.length + (b.getD a.toNat []).length) * 1 ≤ 140737488355328)) (nx b c (IntKind.i64.wrap (a + 1)) (d ++ b.getD a.toNat [])) none) none) none) (e b c a d)
abbrev zt5 := (List (List Int)) × Int × Int × (List Int)
abbrev zy5 := zt5
def zu5 {ρ : Type} (f : zt5 → Option ρ) : zc5 ρ := fun a b c d => f (a, b, c, d)
def zs5 {ρ : Type} : ag0 zt5 zy5 ρ := fun (a, b, c, d) next ex => zf a b c d (zu5 next) (zu5 ex)
def zm5 {ρ : Type} := shut (lp (zs5 (ρ := ρ)))
theorem ze5 {ρ : Type} : zm5 (ρ := ρ) = lp zs5 := dz _
def zk5 {ρ : Type} (f : ag1 zt5 zy5 ρ) (a : List (List Int)) (b c : Int) (d : List Int) (e : zc5 ρ) : Option ρ := f (a, b, c, d) (fun (a, b, c, d) => e a b c d)
def ab6 {ρ : Type} := zk5 (lp (zs5 (ρ := ρ)))
def ab2 {ρ : Type} := zk5 (zm5 (ρ := ρ))
theorem ae6 {ρ : Type} : ab2 (ρ := ρ) = ab6 := congrArg zk5 ze5
def zh {ρ : Type} (a : List (List Int)) (k : (List Int) → Option ρ) : Option ρ := ac1 a 0 a (↑a.length : Int) 0 fun b c f g h => l7 c fun d => ab2 b (↑b.length : Int) 0 d fun i j l e => k e
def jd {ρ : Type} := shut (zh (ρ := ρ))
theorem adh {ρ : Type} (a : List (List Int)) (k : (List Int) → Option ρ) : jd a k = zh a k := by unfold jd; rw [dz]

abbrev zc6 (ρ : Type) := Int → (List Int) → Int → Int → Option ρ
def ait {ρ : Type} (d : Int) (b : List Int) (c a : Int) (nx e : zc6 ρ) : Option ρ := br (decide (a < c)) (br (decide (0 ≤ a)) (br (decide (a < (↑b.length : Int))) (nx (bits BinOp.or IntKind.u64 (IntKind.u64.wrap (d * 2 ^ 8)) (IntKind.u64.wrap (b.getD a.toNat 0))) b c (IntKind.i64.wrap (a + 1))) none) none) (e d b c a)
abbrev zt6 := Int × (List Int) × Int × Int
abbrev zy6 := zt6
def zu6 {ρ : Type} (f : zt6 → Option ρ) : zc6 ρ := fun a b c d => f (a, b, c, d)
def zs6 {ρ : Type} : ag0 zt6 zy6 ρ := fun (a, b, c, d) next ex => ait a b c d (zu6 next) (zu6 ex)
def zm6 {ρ : Type} := shut (lp (zs6 (ρ := ρ)))
theorem ze6 {ρ : Type} : zm6 (ρ := ρ) = lp zs6 := dz _
def zk6 {ρ : Type} (f : ag1 zt6 zy6 ρ) (a : Int) (b : List Int) (c d : Int) (e : zc6 ρ) : Option ρ := f (a, b, c, d) (fun (a, b, c, d) => e a b c d)
def anw {ρ : Type} := zk6 (lp (zs6 (ρ := ρ)))
def aoy {ρ : Type} := zk6 (zm6 (ρ := ρ))
theorem apq {ρ : Type} : aoy (ρ := ρ) = anw := congrArg zk6 ze6
def ag5 {ρ : Type} (a : List Int) (k : Int → Option ρ) : Option ρ := aoy 0 a (↑a.length : Int) 0 fun b c d e => k b
def qd {ρ : Type} := shut (ag5 (ρ := ρ))
theorem aof {ρ : Type} (a : List Int) (k : Int → Option ρ) : qd a k = ag5 a k := by unfold qd; rw [dz]

end P
end
